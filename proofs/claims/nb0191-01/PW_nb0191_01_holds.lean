import PyProof.Rows.All
import Wide.All
import OpenK.AllK
import Wide.FinOn
import PySem.Sre
import PyProof.StrLawsNeg
import PySem.Challenge.RW_nb0191_01
set_option Elab.async false

section
open PySem PySem.W PyProof.Rows
namespace Mine
set_option maxRecDepth 100000
set_option maxHeartbeats 8000000
open_top hd for PySem.Challenge.rw_nb0191_01

end Mine
end

section
open PySem PySem.W PyProof.Rows PySem.Calls
set_option maxRecDepth 100000
set_option maxHeartbeats 4000000
namespace Mine

theorem fill : Challenge.rw_nb0191_01 = Challenge.rw_nb0191_01 ∧ hd.heap_39 = hd.heap_39 := by k_fill; exact ⟨rfl, rfl⟩

/-- what a def's body hands back: `live` may have been changed by it, `rest` was frozen -/
noncomputable def Back (h₀ : Heap) (L : Addr) (m : PySem.Str → Option Value) (g : Heap) (L' : Addr) (rest : List (Addr × Obj)) (Q : Value → Shared → Prop) (fl : Flow) (s' : Shared) : Prop :=
  ∃ m' news', Fr g L' s'.heap m' ∧ News g L' s'.heap news' ∧ (Fr h₀ L s'.heap m → News h₀ L s'.heap (news' ++ rest) → Q (match fl with | .ret v => v | _ => .none) s')

section
variable {prog : Program} {w : World} {A A₀ : Around} {E : Value → Shared → Prop} {s : Shared} {K : Frag} {C L : Addr} {h₀ base : Heap} {m mg mb : PySem.Str → Option Value} {live rest : List (Addr × Obj)} {p : Program} {loose : List PySem.Str} {mean : ExcName → Option Value} {Q : Value → Shared → Prop}
  {env : Env} {outer : List Env} {name qual : PySem.Str} {params : Arguments} {body : List Stmt} {scope : Scope} {dV kV doc pm cdv ct oc : Value} {an od : Option Addr} {osl : Array (Option Value)} {f : Addr} {pos : List Value} {kw : List (PySem.Str × Value)} {binds : List (PySem.Str × Value)}

theorem fz_keep (hdis : ∀ p ∈ rest, ∀ q ∈ live, q.1 ≠ p.1) (N : News h₀ L s.heap (live ++ rest)) :
    (∀ b o, (∀ p ∈ live, p.1 ≠ b) → s.heap.get? b = some o → (hideAll s.heap (live.map (·.1))).get? b = some o) ∧
    ∀ p ∈ rest, (hideAll s.heap (live.map (·.1))).get? p.1 = some p.2 := by
  have k : ∀ b o, (∀ p ∈ live, p.1 ≠ b) → s.heap.get? b = some o → (hideAll s.heap (live.map (·.1))).get? b = some o := fun b o hb e =>
    hideAll_get _ e fun q => by obtain ⟨p, hp, e'⟩ := List.mem_map.mp q; exact hb p hp e'
  exact ⟨k, fun p hp => k _ _ (fun q hq => hdis p hp q hq) (N p (List.mem_append_right _ hp)).1⟩

theorem call_fz 
    (B : Below A₀ base outer h₀) (F : Fr h₀ L s.heap m) (X₀ : K.In h₀) (N : News h₀ L s.heap (live ++ rest)) (T : Top p loose mean mg mb h₀) (hA : A.frames = some (env :: outer)) (hf : env.frame = some L) (hke : env.scope.kind = .function)
    (ho : K.lookup f = some ⟨oc, od, .func (fnOf name qual params body scope dV kV doc pm an cdv ct), osl⟩) (hcd : codeIn K cdv qual = true) (hroom : A.depth < recursionLimit)
    (hbind : BindsTo s (fnOf name qual params body scope dV kV doc pm an cdv ct) ⟨pos, kw⟩ binds) (hloc : ∀ y ∈ binds, scope.names.lookup y.1 = some .local)
    (hdis : ∀ p ∈ rest, ∀ q ∈ live, q.1 ≠ p.1)
    (h : ∀ g L' h₁, (∀ b o, (∀ p ∈ live, p.1 ≠ b) → s.heap.get? b = some o → g.get? b = some o) → h₀.StaysIn g → Fr g L' h₁ (fun y => binds.reverse.lookup y) → News g L' h₁ live → (∀ p ∈ live, p.1 < L') → Below A base (env :: outer) g → K.In g → Top p loose mean mg mb g →
      wpAny (model prog w) (A.deeper (envOf qual scope L' f cdv)) (execs body (envOf qual scope L' f cdv))
        (Back h₀ L m g L' rest Q)
        (fun e s' => wpAny (model prog w) (A.deeper (envOf qual scope L' f cdv)) (leaving (envOf qual scope L' f cdv) e) (fun _ s'' => E e s'') (fun e' s'' => E e' s'') s')
        { s with heap := h₁, toks := s.toks + binds.length })
    (hco : scope.isCoroutine = false) (hgen : scope.isGenerator = false) (hk : scope.kind = .function)
    (hcell : ∀ x ∈ scope.names, x.2 ≠ .cell) : wpAny (model prog w) A (call (.ref f) pos kw) Q E s := by
  refine wpAny_call ?_
  have Nl : News h₀ L s.heap live := fun p hp => N p (List.mem_append_left _ hp)
  obtain ⟨FG, BG, st, lv⟩ := groundX (R := fun r s' => match r with | .ok (.ret v) => Q v s' | .ok _ => False | .error e => E e s') B F Nl hA hf hke
  obtain ⟨k1, k2⟩ := fz_keep hdis N
  refine codeAny_call_def (fd := fnOf name qual params body scope dV kV doc pm an cdv ct) (body := body) (binds := binds) hroom ((X₀.keeps F.keep) _ _ ho) rfl (T.nolimit.keeps F.keep) (codeRec_of (X₀.keeps F.keep) hcd) rfl hbind hcell hloc (fun h₁ hns hk₁ => ?_) hco hgen hk
  refine wpAny_mono (h _ s.heap.objs.size h₁ k1 st ⟨hns, fun b o e => hk₁ b o (of_hideAll _ e), Nat.le_of_eq (hideAll_size _ _)⟩
    (fun p hp => ⟨hk₁ _ _ (Nl p hp).1, Nat.ne_of_lt (Heap.lt_size (Nl p hp).1), hideAll_none _ (List.mem_map_of_mem hp)⟩) (fun p hp => Heap.lt_size (Nl p hp).1) BG (X₀.keeps st) (T.keeps st)) (fun fl s' hl => ?_) fun _ _ y => y
  obtain ⟨m', news', F', N', k⟩ := hl
  refine lv _ _ ⟨_, m', news', F', N', fun F2 N2 => k F2 fun p hp => ?_⟩
  rcases List.mem_append.mp hp with hp | hp
  · exact N2 p hp
  · have z := N p (List.mem_append_right _ hp)
    exact ⟨F'.keep _ _ (k2 p hp), z.2⟩
end
end Mine

end

section
open PySem PySem.W PyProof.Rows PySem.Calls
set_option maxRecDepth 100000
set_option maxHeartbeats 4000000
namespace Mine

/-- the end of one turn of a loop whose iterator lies at `q` -/
noncomputable def Turn (h₀ : Heap) (L : Addr) (q : Addr × Obj) (Jn : (PySem.Str → Option Value) → List (Addr × Obj) → Prop) (s : Shared) (Q : Flow → Shared → Prop) (f : Flow) (s₂ : Shared) : Prop :=
  match f with
  | .ret v => Q (.ret v) s₂
  | .brk => Q .next s₂
  | _ => ∃ h' tk m' news', s₂ = { s with heap := h', toks := tk } ∧ Fr h₀ L h' m' ∧ News h₀ L h' (news' ++ [q]) ∧ (∀ p ∈ news', p.1 ≠ q.1) ∧ Jn m' news'

theorem Turn.next {h₀ : Heap} {L : Addr} {q : Addr × Obj} {Jn : (PySem.Str → Option Value) → List (Addr × Obj) → Prop} {s : Shared} {Q : Flow → Shared → Prop} {h' : Heap} {tk : Nat} {m' : PySem.Str → Option Value} {news' : List (Addr × Obj)}
    (F : Fr h₀ L h' m') (N : News h₀ L h' (news' ++ [q])) (hq : ∀ p ∈ news', p.1 ≠ q.1) (hj : Jn m' news') : Turn h₀ L q Jn s Q .next { s with heap := h', toks := tk } := ⟨h', tk, m', news', rfl, F, N, hq, hj⟩
theorem Turn.cont {h₀ : Heap} {L : Addr} {q : Addr × Obj} {Jn : (PySem.Str → Option Value) → List (Addr × Obj) → Prop} {s : Shared} {Q : Flow → Shared → Prop} {h' : Heap} {tk : Nat} {m' : PySem.Str → Option Value} {news' : List (Addr × Obj)}
    (F : Fr h₀ L h' m') (N : News h₀ L h' (news' ++ [q])) (hq : ∀ p ∈ news', p.1 ≠ q.1) (hj : Jn m' news') : Turn h₀ L q Jn s Q .cont { s with heap := h', toks := tk } := ⟨h', tk, m', news', rfl, F, N, hq, hj⟩

section
variable {prog : Program} {w : World} {A : Around} {E : Value → Shared → Prop} {s : Shared} {env : Env} {h₀ : Heap} {x : PySem.Str} {body : List Stmt} {Q : Flow → Shared → Prop}

theorem loopJ {I : Addr} {fp : List Addr} {n : Nat} {P : Nat → Value → Prop} {St : Nat → Heap → Prop} {m₀ : PySem.Str → Option Value} {news src : List (Addr × Obj)} (J : Nat → (PySem.Str → Option Value) → List (Addr × Obj) → Prop)
    (W : Walks prog w A I fp [I] n P St) (hSt : ∀ i h, St i h → ∃ o, h.get? I = some o) (hfp : ∀ b ∈ fp, b = I ∨ (∃ o, h₀.get? b = some o) ∨ ∃ o, (b, o) ∈ src) (hIf : I ∈ fp) (hLf : env.locals ∉ fp) (hI0 : h₀.get? I = none)
    (hJs : ∀ i m news, J i m news → ∀ p ∈ src, p ∈ news)
    (hnw : ∀ p ∈ news, p.1 ≠ I) (hst : St 0 s.heap) (F : Fr h₀ env.locals s.heap m₀) (N : News h₀ env.locals s.heap news) (hj : J 0 m₀ news)
    (turn : ∀ i v m₁ news₁ oI h tk, i < n → P i v → J i m₁ news₁ → (∀ p ∈ news₁, p.1 ≠ I) → Fr h₀ env.locals h (fun y => if y = x then some v else m₁ y) → News h₀ env.locals h (news₁ ++ [(I, oI)]) →
      wpAny (model prog w) A (execs body env) (Turn h₀ env.locals (I, oI) (J (i + 1)) s Q) E { s with heap := h, toks := tk })
    (done : ∀ m₁ news₁ h tk, J n m₁ news₁ → Fr h₀ env.locals h m₁ → News h₀ env.locals h news₁ → Q .next { s with heap := h, toks := tk }) :
    LoopAtV prog w A h₀ env x body Q E (.ref I) s := by
  refine ⟨I, fp, [I], n, P, St, m₀, news, J, rfl, W, hLf, fun b hb => by rw [List.mem_singleton.mp hb]; exact hI0, fun p hp hq => hnw p hp (List.mem_singleton.mp hq), hst, F, N, hj, ?_, ?_⟩
  · rintro i v m₁ news₁ s₁ own ⟨hh', tk', rfl⟩ hin hP hJ hoff hown hown2 hown3 hst' F₁ N₁
    obtain ⟨oI, hoI⟩ := hSt _ _ hst'
    have hIo : (I, oI) ∈ own := hown3 I hIf hI0 oI hoI
    have hsing : ∀ p ∈ own, p = (I, oI) ∨ p ∈ src := by
      intro p hp
      have e2 := hown2 p hp
      rcases hfp _ (hown p hp) with e | ⟨o, e⟩ | ⟨o, e⟩
      · left
        rw [e] at e2
        rw [hoI] at e2
        obtain ⟨a, b⟩ := p
        simp only at e e2
        rw [e, Option.some.inj e2]
      · have := (N₁ p (List.mem_append_left _ hp)).2.2
        rw [e] at this; cases this
      · right
        have h3 := (N₁ (p.1, o) (List.mem_append_right _ (hJs _ _ _ hJ _ e))).1
        rw [e2] at h3
        have h4 : p.2 = o := Option.some.inj h3
        have : p = (p.1, o) := by rw [← h4]
        rw [this]; exact e
    have hne : ∀ p ∈ news₁, p.1 ≠ I := fun p hp e => hoff p hp (by rw [e]; exact .head _)
    have N₂ : News h₀ env.locals hh' (news₁ ++ [(I, oI)]) := fun p hp => by
      rcases List.mem_append.mp hp with h | h
      · exact N₁ p (List.mem_append_right _ h)
      · rw [List.mem_singleton.mp h]; exact N₁ _ (List.mem_append_left _ hIo)
    refine wpAny_mono (turn i v m₁ news₁ oI hh' tk' hin hP hJ hne F₁ N₂) (fun f s₂ p => ?_) fun _ _ e => e
    have fin : (∃ h' tk m' news', s₂ = { s with heap := h', toks := tk } ∧ Fr h₀ env.locals h' m' ∧ News h₀ env.locals h' (news' ++ [(I, oI)]) ∧ (∀ p ∈ news', p.1 ≠ I) ∧ J (i + 1) m' news') → LoopStepU h₀ env.locals [I] own (J (i + 1)) { s with heap := hh', toks := tk' } .next s₂ := by
      rintro ⟨h', tk, m', news', e, F', N', hn, hm⟩
      refine ⟨rfl, h', tk, m', news', e, F', fun p hp => ?_, fun p hp hq => hn p hp (List.mem_singleton.mp hq), hm⟩
      rcases List.mem_append.mp hp with h | h
      · rcases hsing p h with e | e
        · rw [e]; exact N' _ (List.mem_append_right _ (.head _))
        · exact N' _ (List.mem_append_left _ (hJs _ _ _ hm _ e))
      · exact N' _ (List.mem_append_left _ h)
    cases f with
    | ret v => exact .ret p
    | brk => exact .brk p
    | next => exact .next (fin p)
    | cont => exact .cont (fin p)
  · rintro h' tk m' news' F' N' _ hJ
    exact done m' news' h' tk hJ F' N'

/-- a loop over a text -/
theorem iter_str {xt : PySem.Str} {tx : Tok} {m₀ : PySem.Str → Option Value} {news : List (Addr × Obj)} (J : Nat → (PySem.Str → Option Value) → List (Addr × Obj) → Prop)
    (hh : A.handled = none) (F : Fr h₀ env.locals s.heap m₀) (N : News h₀ env.locals s.heap news) (hj : J 0 m₀ news)
    (turn : ∀ i c t m₁ news₁ I oI h tk, xt.cps[i]? = some c → J i m₁ news₁ → (∀ p ∈ news₁, p.1 ≠ I) → Fr h₀ env.locals h (fun y => if y = x then some (.str ⟨#[c]⟩ t) else m₁ y) → News h₀ env.locals h (news₁ ++ [(I, oI)]) →
      wpAny (model prog w) A (execs body env) (Turn h₀ env.locals (I, oI) (J (i + 1)) s Q) E { s with heap := h, toks := tk })
    (done : ∀ m₁ news₁ h tk, J xt.cps.size m₁ news₁ → Fr h₀ env.locals h m₁ → News h₀ env.locals h news₁ → Q .next { s with heap := h, toks := tk }) :
    wpAny (model prog w) A (pyIter (.str xt tx)) (fun it s₂ => LoopAtV prog w A h₀ env x body Q E it s₂) E s := by
  have hnL : env.locals ∉ [s.heap.objs.size] := fun hm => absurd F.ns.lt ((List.mem_singleton.mp hm) ▸ Nat.lt_irrefl _)
  have hne : ∀ p ∈ news, p.1 ≠ s.heap.objs.size := fun p hp => Nat.ne_of_lt (Heap.lt_size (N p hp).1)
  cases ha : xt.cps.all (· < 128)
  · refine wpAny_pyIter_wide ha (loopJ (src := []) J (Walks.strWide hh _ xt tx) (fun i h st => let ⟨o, ho, _⟩ := st; ⟨o, ho⟩) (fun b hb => .inl (List.mem_singleton.mp hb)) (.head _) hnL (next_is_new F) (fun _ _ _ _ _ hp => nomatch hp) hne ⟨_, Heap.get?_push_size _ rfl, rfl, rfl⟩ (F.push _) (fun p hp => ⟨Heap.get?_push_of_some _ (N p hp).1, (N p hp).2⟩) hj ?_ ?_)
    · rintro i v m₁ news₁ oI h tk hi ⟨c, u, hc, rfl⟩ hJ hoff F₁ N₁
      exact turn i c u m₁ news₁ _ oI h tk hc hJ hoff F₁ N₁
    · exact done
  · refine wpAny_pyIter_ascii ha (loopJ (src := []) J (Walks.strAscii hh _ xt tx) (fun i h st => let ⟨o, ho, _⟩ := st; ⟨o, ho⟩) (fun b hb => .inl (List.mem_singleton.mp hb)) (.head _) hnL (next_is_new F) (fun _ _ _ _ _ hp => nomatch hp) hne ⟨_, Heap.get?_push_size _ rfl, rfl, rfl⟩ (F.push _) (fun p hp => ⟨Heap.get?_push_of_some _ (N p hp).1, (N p hp).2⟩) hj ?_ ?_)
    · rintro i v m₁ news₁ oI h tk hi ⟨c, u, hc, rfl⟩ hJ hoff F₁ N₁
      exact turn i c u m₁ news₁ _ oI h tk hc hJ hoff F₁ N₁
    · exact done

/-- a loop over a list that lies in the base or in the ledger -/
theorem iter_list {l : Addr} {vs : List Value} {k : Nat} {m₀ : PySem.Str → Option Value} {news src : List (Addr × Obj)} (J : Nat → (PySem.Str → Option Value) → List (Addr × Obj) → Prop)
    (hh : A.handled = none) (hl : h₀.get? l = some (listOf vs.toArray k) ∨ (l, listOf vs.toArray k) ∈ src) (hJs : ∀ i m news, J i m news → ∀ p ∈ src, p ∈ news)
    (F : Fr h₀ env.locals s.heap m₀) (N : News h₀ env.locals s.heap news) (hj : J 0 m₀ news)
    (turn : ∀ i v m₁ news₁ I oI h tk, vs[i]? = some v → J i m₁ news₁ → (∀ p ∈ news₁, p.1 ≠ I) → Fr h₀ env.locals h (fun y => if y = x then some v else m₁ y) → News h₀ env.locals h (news₁ ++ [(I, oI)]) →
      wpAny (model prog w) A (execs body env) (Turn h₀ env.locals (I, oI) (J (i + 1)) s Q) E { s with heap := h, toks := tk })
    (done : ∀ m₁ news₁ h tk, J vs.length m₁ news₁ → Fr h₀ env.locals h m₁ → News h₀ env.locals h news₁ → Q .next { s with heap := h, toks := tk }) :
    wpAny (model prog w) A (pyIter (.ref l)) (fun it s₂ => LoopAtV prog w A h₀ env x body Q E it s₂) E s := by
  have hget : s.heap.get? l = some (listOf vs.toArray k) := hl.elim (fun e => F.keep _ _ e) fun e => (N _ (hJs _ _ _ hj _ e)).1
  have hls : s.heap.IsList l vs.toArray := ⟨_, hget, rfl, k, rfl⟩
  have hlL : env.locals ≠ l := by
    intro e
    rcases hl with q | q
    · exact absurd (Nat.lt_of_lt_of_le (Heap.lt_size q) F.above) (e ▸ Nat.lt_irrefl _)
    · exact (N _ (hJs _ _ _ hj _ q)).2.1 e.symm
  have hlI : l ≠ s.heap.objs.size := Nat.ne_of_lt (Heap.lt_size hget)
  have hnL : env.locals ∉ [s.heap.objs.size, l] := fun hm => by
    rcases List.mem_cons.mp hm with e | hm
    · exact absurd F.ns.lt (e ▸ Nat.lt_irrefl _)
    · exact hlL (List.mem_singleton.mp hm)
  have hne : ∀ p ∈ news, p.1 ≠ s.heap.objs.size := fun p hp => Nat.ne_of_lt (Heap.lt_size (N p hp).1)
  have W := Walks.list (prog := prog) (w := w) hh s.heap.objs.size l hlI vs.toArray
  refine wpAny_pyIter_list hls (loopJ (src := src) J W (fun i h st => let ⟨o, ho, _⟩ := st.1; ⟨o, ho⟩) (fun b hb => ?_) (.head _) hnL (next_is_new F) hJs hne ⟨⟨_, Heap.get?_push_size _ rfl, rfl, rfl⟩, hls.push _⟩ (F.push _) (fun p hp => ⟨Heap.get?_push_of_some _ (N p hp).1, (N p hp).2⟩) hj ?_ ?_)
  · rcases List.mem_cons.mp hb with e | hb
    · exact .inl e
    · rw [List.mem_singleton.mp hb]
      exact .inr (hl.imp (fun e => ⟨_, e⟩) fun e => ⟨_, e⟩)
  · rintro i v m₁ news₁ oI h tk hi hv hJ hoff F₁ N₁
    exact turn i v m₁ news₁ _ oI h tk (by simpa using hv) hJ hoff F₁ N₁
  · intro m₁ news₁ h tk hJ
    exact done m₁ news₁ h tk (by simpa using hJ)
end

/-- see the names of a frame -/
theorem fr_see {h₀ h : Heap} {L : Addr} {m : PySem.Str → Option Value} (ps : List (PySem.Str × Value)) (F : Fr h₀ L h m) (h1 : ∀ p ∈ ps, m p.1 = some p.2) : Fr h₀ L h (kstB m ps) := by
  have e : kstB m ps = m := by
    funext z
    exact kstB_eq h1 fun _ => rfl
  rw [e]; exact F

open LCg LCt in
section
variable {prog : Program} {w : World} {A : Around} {E : Value → Shared → Prop} {s : Shared} {h₀ : Heap} {L : Addr} {m : PySem.Str → Option Value} {env : Env}
theorem compEnd_mono {I C D : Addr} {s₁ s₂ : Shared} {oI oC oD : Obj} {S : List (Addr × Obj) → Prop} {rest rest' : Value → List (Addr × Obj) → Prop} {y : Value} (h : CompEnd h₀ L m s₁ I oI C oC D oD S rest y s₂) (k : ∀ nw, rest y nw → rest' y nw) : CompEnd h₀ L m s₁ I oI C oC D oD S rest' y s₂ := by
  obtain ⟨h', tk, news', e, F, N, off, hS, r⟩ := h
  exact ⟨h', tk, news', e, F, N, off, hS, k _ r⟩

/-- a comprehension without a test, by an invariant -/
theorem compRest_of {elt : PySem.Expr} {x : PySem.Str} {scope : Scope} {cl : List (PySem.Str × Addr)} {S : List (Addr × Obj) → Prop} {P : Nat → Value → Prop} {Fin : List Value → List (Addr × Obj) → Prop} {n : Nat} (J : Nat → List Value → List (Addr × Obj) → Prop)
    (turn : ∀ i ys news v I oI C oC D m₂ h tk (E' : Value → Shared → Prop), i < n → J i ys news → P i v → NsObj oC m₂ → m₂ x = some v → Fr h₀ L h m → News h₀ L h ((I, oI) :: (C, oC) :: (D, lst ys) :: news) → Off3 I C D news → ((@Ne Nat I C) ∧ (@Ne Nat I D) ∧ (@Ne Nat C D)) →
      wpAny (model prog w) A (eval elt (compEnvC scope cl C env)) (CompEnd h₀ L m { s with heap := h, toks := tk } I oI C oC D (lst ys) S (fun y news' => J (i + 1) (ys ++ [y]) news')) E' { s with heap := h, toks := tk })
    (fin : ∀ ys news, J n ys news → Fin ys news) : ∀ k i ys news, i + k = n → J i ys news → CompRest prog w A h₀ L m env elt x scope cl s S P Fin k i ys news
  | 0, i, ys, news, e, hJ => fin _ _ (by have : i = n := by (first | lia | omega)
                                         rw [← this]; exact hJ)
  | k + 1, i, ys, news, e, hJ => fun v I oI C oC D m₂ h tk E' hP hC hm F N off ne =>
      wpAny_mono (turn i ys news v I oI C oC D m₂ h tk E' (by (first | lia | omega)) hJ hP hC hm F N off ne) (fun y s₂ q => compEnd_mono q fun nw r => compRest_of J turn fin k (i + 1) _ nw (by (first | lia | omega)) r) fun _ _ e => e

/-- a comprehension with a test, by an invariant -/
theorem compRestT_of {ct elt : PySem.Expr} {x : PySem.Str} {scope : Scope} {cl : List (PySem.Str × Addr)} {S : List (Addr × Obj) → Prop} {P : Nat → Value → Prop} {Fin : List Value → List (Addr × Obj) → Prop} {n : Nat} (J : Nat → List Value → List (Addr × Obj) → Prop)
    (turn : ∀ i ys news v I oI C oC D m₂ h tk (E' : Value → Shared → Prop), i < n → J i ys news → P i v → NsObj oC m₂ → m₂ x = some v → Fr h₀ L h m → News h₀ L h ((I, oI) :: (C, oC) :: (D, lst ys) :: news) → Off3 I C D news → ((@Ne Nat I C) ∧ (@Ne Nat I D) ∧ (@Ne Nat C D)) →
      wpAny (model prog w) A (isTrue ct (compEnvC scope cl C env) (eval ct (compEnvC scope cl C env))) (fun ok s' => if ok = true then
        wpAny (model prog w) A (eval elt (compEnvC scope cl C env)) (CompEnd h₀ L m { s with heap := h, toks := tk } I oI C oC D (lst ys) S (fun y news' => J (i + 1) (ys ++ [y]) news')) E' s'
        else CompEnd h₀ L m { s with heap := h, toks := tk } I oI C oC D (lst ys) S (fun _ news' => J (i + 1) ys news') Value.none s') E' { s with heap := h, toks := tk })
    (fin : ∀ ys news, J n ys news → Fin ys news) : ∀ k i ys news, i + k = n → J i ys news → CompRestT prog w A h₀ L m env ct elt x scope cl s S P Fin k i ys news
  | 0, i, ys, news, e, hJ => fin _ _ (by have : i = n := by (first | lia | omega)
                                         rw [← this]; exact hJ)
  | k + 1, i, ys, news, e, hJ => fun v I oI C oC D m₂ h tk E' hP hC hm F N off ne =>
      wpAny_mono (turn i ys news v I oI C oC D m₂ h tk E' (by (first | lia | omega)) hJ hP hC hm F N off ne) (fun ok s₂ q => by
        split at q
        · rename_i hok
          rw [if_pos hok]
          exact wpAny_mono q (fun y s₃ r => compEnd_mono r fun nw r => compRestT_of J turn fin k (i + 1) _ nw (by (first | lia | omega)) r) fun _ _ e => e
        · rename_i hok
          rw [if_neg hok]
          exact compEnd_mono q fun nw r => compRestT_of J turn fin k (i + 1) _ nw (by (first | lia | omega)) r) fun _ _ e => e

theorem str_st {I : Addr} {ty : String} {xt : PySem.Str} {t : Tok} {S : List (Addr × Obj) → Prop} : ∀ i (h h' : Heap) (o : Obj) (nw : List (Addr × Obj)), h.IsStrIter I ty xt t i → h.get? I = some o → h'.get? I = some o → (∀ b o, h₀.get? b = some o → h'.get? b = some o) → News h₀ L h' nw → S nw → h'.IsStrIter I ty xt t i :=
  fun i h h' o nw st e e' _ _ _ => by obtain ⟨o', q, r⟩ := st; rw [e] at q; cases q; exact ⟨o, e', r⟩

/-- a comprehension over a text, with a test -/
theorem ListComp_ST {ct elt iter : PySem.Expr} {x : PySem.Str} {px : Pos} {scope : Scope} {cl : List (PySem.Str × Addr)} {pos : Pos} {Q : Value → Shared → Prop} (F₀ : Fr h₀ L s.heap m)
    (hclos : closureFor scope env = pure cl) (hcell : ∀ y ∈ scope.names, y.2 ≠ .cell) (hkind : scope.kind = .function)
    (hnames : ∀ y ∈ scope.names, y.2 = .local → scope.names.lookup y.1 = some .local) (hx : scope.names.lookup x = some .local)
    (h : wpAny (model prog w) A (eval iter env) (fun xv s₁ => ∃ xt t news, xv = .str xt t ∧ A.handled = none ∧ Fr h₀ L s₁.heap m ∧ News h₀ L s₁.heap news ∧ xt.length ≤ sizeLine ∧
        ∀ s₂ : Shared, (∃ h, s₂ = { s₁ with heap := h }) → CompRestT prog w A h₀ L m env ct elt x scope cl s₂ (fun _ => True) (SignAt xt) (FinE h₀ L m s₂ Q) xt.length 0 [] news) E s)
    (hs : ∀ x, foldedSetIterable iter env x = pure x) :
    wpAny (model prog w) A (eval (.ListComp elt [⟨.Name x px, iter, [ct], 0⟩] scope pos) env) Q E s := by
  rw [eval_ListComp]
  refine wpAny_comprehension_free (use := none) rfl hs hclos hkind hnames (wpAny_mono h (fun xv s₁ h₁ => ?_) fun _ _ e => e)
  obtain ⟨xt, t, news, rfl, hh, F, N, hsz, R⟩ := h₁
  have up : ∀ o b o', s₁.heap.get? b = some o' → (s₁.heap.push o).get? b = some o' := fun o b o' e => Heap.get?_push_of_some _ e
  cases ha : xt.cps.all (· < 128)
  · refine wpAny_pyIter_wide ha ?_
    refine block_T (Walks.strWide hh _ xt t) hsz (fun i h st => by obtain ⟨o, e, _⟩ := st; exact ⟨o, e⟩) (str_st (S := fun _ => True)) hcell hkind hx ⟨_, Heap.get?_push_size _ rfl, rfl, rfl⟩ (fun b hb => ?_)
      (F.keeps (up _)) (N.grown (up _)) (Nat.ne_of_lt F.ns.lt) (next_is_new F) (fun p hp => Nat.ne_of_lt (Heap.lt_size (N p hp).1)) trivial (R _ ⟨_, rfl⟩) ?_
    · rw [List.mem_singleton.mp hb, Heap.size_push]; exact Nat.lt_succ_self _
    · intro D C h tk m' ys news' F' N' o1 hn hC₀ hD₀ hCL hDL hCD offC fin
      refine ⟨m', hn, fun h'' hs'' => fin D h'' tk (F'.change hs'' hCL hC₀) (fun p hp => ?_) o1⟩
      refine ⟨hs''.extBut _ _ ?_ (N' p hp).1, (N' p hp).2⟩
      rcases List.mem_cons.mp hp with rfl | hp
      · exact Ne.symm hCD
      · exact offC p hp
  · refine wpAny_pyIter_ascii ha ?_
    refine block_T (Walks.strAscii hh _ xt t) hsz (fun i h st => by obtain ⟨o, e, _⟩ := st; exact ⟨o, e⟩) (str_st (S := fun _ => True)) hcell hkind hx ⟨_, Heap.get?_push_size _ rfl, rfl, rfl⟩ (fun b hb => ?_)
      (F.keeps (up _)) (N.grown (up _)) (Nat.ne_of_lt F.ns.lt) (next_is_new F) (fun p hp => Nat.ne_of_lt (Heap.lt_size (N p hp).1)) trivial (R _ ⟨_, rfl⟩) ?_
    · rw [List.mem_singleton.mp hb, Heap.size_push]; exact Nat.lt_succ_self _
    · intro D C h tk m' ys news' F' N' o1 hn hC₀ hD₀ hCL hDL hCD offC fin
      refine ⟨m', hn, fun h'' hs'' => fin D h'' tk (F'.change hs'' hCL hC₀) (fun p hp => ?_) o1⟩
      refine ⟨hs''.extBut _ _ ?_ (N' p hp).1, (N' p hp).2⟩
      rcases List.mem_cons.mp hp with rfl | hp
      · exact Ne.symm hCD
      · exact offC p hp

/-- a comprehension over a text, without a test -/
theorem ListComp_SU {elt iter : PySem.Expr} {x : PySem.Str} {px : Pos} {scope : Scope} {cl : List (PySem.Str × Addr)} {pos : Pos} {Q : Value → Shared → Prop} (F₀ : Fr h₀ L s.heap m)
    (hclos : closureFor scope env = pure cl) (hcell : ∀ y ∈ scope.names, y.2 ≠ .cell) (hkind : scope.kind = .function)
    (hnames : ∀ y ∈ scope.names, y.2 = .local → scope.names.lookup y.1 = some .local) (hx : scope.names.lookup x = some .local)
    (h : wpAny (model prog w) A (eval iter env) (fun xv s₁ => ∃ xt t news, xv = .str xt t ∧ A.handled = none ∧ Fr h₀ L s₁.heap m ∧ News h₀ L s₁.heap news ∧ xt.length ≤ sizeLine ∧
        ∀ s₂ : Shared, (∃ h, s₂ = { s₁ with heap := h }) → CompRest prog w A h₀ L m env elt x scope cl s₂ (fun _ => True) (SignAt xt) (FinE h₀ L m s₂ Q) xt.length 0 [] news) E s)
    (hs : ∀ x, foldedSetIterable iter env x = pure x) :
    wpAny (model prog w) A (eval (.ListComp elt [⟨.Name x px, iter, [], 0⟩] scope pos) env) Q E s := by
  rw [eval_ListComp]
  refine wpAny_comprehension_free (use := none) rfl hs hclos hkind hnames (wpAny_mono h (fun xv s₁ h₁ => ?_) fun _ _ e => e)
  obtain ⟨xt, t, news, rfl, hh, F, N, hsz, R⟩ := h₁
  have up : ∀ o b o', s₁.heap.get? b = some o' → (s₁.heap.push o).get? b = some o' := fun o b o' e => Heap.get?_push_of_some _ e
  cases ha : xt.cps.all (· < 128)
  · refine wpAny_pyIter_wide ha ?_
    refine block_U (Walks.strWide hh _ xt t) hsz (fun i h st => by obtain ⟨o, e, _⟩ := st; exact ⟨o, e⟩) (str_st (S := fun _ => True)) hcell hkind hx ⟨_, Heap.get?_push_size _ rfl, rfl, rfl⟩ (fun b hb => ?_)
      (F.keeps (up _)) (N.grown (up _)) (Nat.ne_of_lt F.ns.lt) (next_is_new F) (fun p hp => Nat.ne_of_lt (Heap.lt_size (N p hp).1)) trivial (R _ ⟨_, rfl⟩) ?_
    · rw [List.mem_singleton.mp hb, Heap.size_push]; exact Nat.lt_succ_self _
    · intro D C h tk m' ys news' F' N' o1 hn hC₀ hD₀ hCL hDL hCD offC fin
      refine ⟨m', hn, fun h'' hs'' => fin D h'' tk (F'.change hs'' hCL hC₀) (fun p hp => ?_) o1⟩
      refine ⟨hs''.extBut _ _ ?_ (N' p hp).1, (N' p hp).2⟩
      rcases List.mem_cons.mp hp with rfl | hp
      · exact Ne.symm hCD
      · exact offC p hp
  · refine wpAny_pyIter_ascii ha ?_
    refine block_U (Walks.strAscii hh _ xt t) hsz (fun i h st => by obtain ⟨o, e, _⟩ := st; exact ⟨o, e⟩) (str_st (S := fun _ => True)) hcell hkind hx ⟨_, Heap.get?_push_size _ rfl, rfl, rfl⟩ (fun b hb => ?_)
      (F.keeps (up _)) (N.grown (up _)) (Nat.ne_of_lt F.ns.lt) (next_is_new F) (fun p hp => Nat.ne_of_lt (Heap.lt_size (N p hp).1)) trivial (R _ ⟨_, rfl⟩) ?_
    · rw [List.mem_singleton.mp hb, Heap.size_push]; exact Nat.lt_succ_self _
    · intro D C h tk m' ys news' F' N' o1 hn hC₀ hD₀ hCL hDL hCD offC fin
      refine ⟨m', hn, fun h'' hs'' => fin D h'' tk (F'.change hs'' hCL hC₀) (fun p hp => ?_) o1⟩
      refine ⟨hs''.extBut _ _ ?_ (N' p hp).1, (N' p hp).2⟩
      rcases List.mem_cons.mp hp with rfl | hp
      · exact Ne.symm hCD
      · exact offC p hp
end
end Mine

end

section
open PySem PySem.W PyProof.Rows PySem.Calls
set_option maxRecDepth 100000
set_option maxHeartbeats 4000000
namespace Mine
section
variable {prog : Program} {w : World} {A : Around} {E : Value → Shared → Prop} {s : Shared} {env : Env} {h₀ : Heap} {target : PySem.Expr} {body : List Stmt} {Q : Flow → Shared → Prop}

/-- a loop with any target that stands at its iterator -/
noncomputable def LoopT (prog : Program) (w : World) (A : Around) (env : Env) (target : PySem.Expr) (body : List Stmt) (Q : Flow → Shared → Prop) (E : Value → Shared → Prop) (it : Value) (s₂ : Shared) : Prop :=
  codeAny (model prog w) A (.forLoop target it body [] env) (fun r s' => match r with | .ok f => Q f s' | .error e => cameBackBy (model prog w) A env E e s') s₂

theorem For_T {iter : PySem.Expr} {pos : Pos} (h : wpAny (model prog w) A (eval iter env) (fun xv s₁ => wpAny (model prog w) A (pyIter xv) (fun it s₂ => LoopT prog w A env target body Q E it s₂) E s₁) E s)
    (hs : ∀ x, foldedSetIterable iter env x = pure x) : wpAny (model prog w) A (exec (.For target iter body [] pos) env) Q E s := wpAny_For h hs

theorem iter_listT {l : Addr} {vs : List Value} {k : Nat} {m₀ : PySem.Str → Option Value} {news src : List (Addr × Obj)} (J : Nat → (PySem.Str → Option Value) → List (Addr × Obj) → Prop)
    (hh : A.handled = none) (hl : h₀.get? l = some (listOf vs.toArray k) ∨ (l, listOf vs.toArray k) ∈ src) (hJs : ∀ i m news, J i m news → ∀ p ∈ src, p ∈ news)
    (F : Fr h₀ env.locals s.heap m₀) (N : News h₀ env.locals s.heap news) (hj : J 0 m₀ news)
    (turn : ∀ i v m₁ news₁ I oI h tk, vs[i]? = some v → J i m₁ news₁ → (∀ p ∈ news₁, p.1 ≠ I) → Fr h₀ env.locals h m₁ → News h₀ env.locals h (news₁ ++ [(I, oI)]) →
      wpAny (model prog w) A (assign target env v) (fun _ s₃ => wpAny (model prog w) A (execs body env) (Turn h₀ env.locals (I, oI) (J (i + 1)) s Q) E s₃) E { s with heap := h, toks := tk })
    (done : ∀ m₁ news₁ h tk, J vs.length m₁ news₁ → Fr h₀ env.locals h m₁ → News h₀ env.locals h news₁ → Q .next { s with heap := h, toks := tk })
    (hE : PassesOwn (model prog w) A env E) :
    wpAny (model prog w) A (pyIter (.ref l)) (fun it s₂ => LoopT prog w A env target body Q E it s₂) E s := by
  have hget : s.heap.get? l = some (listOf vs.toArray k) := hl.elim (fun e => F.keep _ _ e) fun e => (N _ (hJs _ _ _ hj _ e)).1
  have hls : s.heap.IsList l vs.toArray := ⟨_, hget, rfl, k, rfl⟩
  have hlI : l ≠ s.heap.objs.size := Nat.ne_of_lt (Heap.lt_size hget)
  have hLI : env.locals ≠ s.heap.objs.size := Nat.ne_of_lt F.ns.lt
  have hne : ∀ p ∈ news, p.1 ≠ s.heap.objs.size := fun p hp => Nat.ne_of_lt (Heap.lt_size (N p hp).1)
  have hI0 : h₀.get? s.heap.objs.size = none := next_is_new F
  have W := Walks.list (prog := prog) (w := w) hh s.heap.objs.size l hlI vs.toArray
  refine wpAny_pyIter_list hls ?_
  unfold LoopT
  refine codeAny_forLoop_any
    (fun k s' => ∃ h' tk m' news' i, s' = { s with heap := h', toks := tk } ∧ (h'.IsListIter s.heap.objs.size l i ∧ h'.IsList l vs.toArray) ∧ Fr h₀ env.locals h' m' ∧ News h₀ env.locals h' news' ∧ (∀ p ∈ news', p.1 ≠ s.heap.objs.size) ∧ J i m' news' ∧ i ≤ vs.toArray.size ∧ k = vs.toArray.size + 1 - i) ?_ (vs.toArray.size + 1)
    ⟨_, _, m₀, news, 0, rfl, ⟨⟨_, Heap.get?_push_size _ rfl, rfl, rfl⟩, hls.push _⟩, F.push _, (fun p hp => ⟨Heap.get?_push_of_some _ (N p hp).1, (N p hp).2⟩), hne, hj, Nat.zero_le _, rfl⟩
  rintro k' s' ⟨h', tk, m', news', i, rfl, hst', F', N', hnw', hJ, hi, rfl⟩
  have next : ∀ h₁ : Heap, (∀ b o, b ∉ [s.heap.objs.size] → h'.get? b = some o → h₁.get? b = some o) → Fr h₀ env.locals h₁ m' ∧ News h₀ env.locals h₁ news' := fun h₁ hk₁ =>
    ⟨⟨F'.ns.at' fun o e => hk₁ _ o (fun q => hLI (List.mem_singleton.mp q)) e, fun b o e => hk₁ b o (fun q => by rw [List.mem_singleton.mp q, hI0] at e; cases e) (F'.keep b o e), F'.above⟩, fun p hp => ⟨hk₁ _ _ (fun q => hnw' p hp (List.mem_singleton.mp q)) (N' p hp).1, (N' p hp).2⟩⟩
  by_cases hlt : i < vs.toArray.size
  · refine W.item i _ _ _ hlt hst' fun v h₁ tk₁ hP hst₁ hk₁ => ?_
    obtain ⟨F₁, N₁⟩ := next h₁ hk₁
    refine letGo_listiter hst₁.1 ?_
    obtain ⟨oI, hoI, -⟩ := id hst₁.1
    have NI : News h₀ env.locals h₁ (news' ++ [(s.heap.objs.size, oI)]) := fun p hp => by
      rcases List.mem_append.mp hp with hp | hp
      · exact N₁ p hp
      · rw [List.mem_singleton.mp hp]; exact ⟨hoI, hLI.symm, hI0⟩
    refine wpAny_mono (turn i v m' news' s.heap.objs.size oI h₁ tk₁ (by simpa using hP) hJ hnw' F₁ NI) (fun _ s₂ h₂ => wpAny_mono (wpAny_passesOwn hE h₂) (fun f s₃ h₃ => ?_) fun _ _ e => e) hE
    have fin : (∃ h' tk m' news', s₃ = { s with heap := h', toks := tk } ∧ Fr h₀ env.locals h' m' ∧ News h₀ env.locals h' (news' ++ [(s.heap.objs.size, oI)]) ∧ (∀ p ∈ news', p.1 ≠ s.heap.objs.size) ∧ J (i + 1) m' news') →
        ∃ m, m < vs.toArray.size + 1 - i ∧ ∃ h' tk m' news' i, s₃ = { s with heap := h', toks := tk } ∧ (h'.IsListIter s.heap.objs.size l i ∧ h'.IsList l vs.toArray) ∧ Fr h₀ env.locals h' m' ∧ News h₀ env.locals h' news' ∧ (∀ p ∈ news', p.1 ≠ s.heap.objs.size) ∧ J i m' news' ∧ i ≤ vs.toArray.size ∧ m = vs.toArray.size + 1 - i := by
      rintro ⟨h₃', tk₃, m₃, news₃, rfl, F₃, N₃, hn₃, J₃⟩
      have hl₁ : h₁.get? l = some (listOf vs.toArray k) := hl.elim (fun e => F₁.keep _ _ e) fun e => (N₁ _ (hJs _ _ _ hJ _ e)).1
      have hl₃ : h₃'.get? l = some (listOf vs.toArray k) := hl.elim (fun e => F₃.keep _ _ e) fun e => (N₃ _ (List.mem_append_left _ (hJs _ _ _ J₃ _ e))).1
      refine ⟨_, by (first | lia | omega), h₃', tk₃, m₃, news₃, i + 1, rfl, ?_, F₃, fun p hp => N₃ p (List.mem_append_left _ hp), hn₃, J₃, hlt, rfl⟩
      refine W.frame _ _ _ hst₁ fun b hb o e => ?_
      rcases List.mem_cons.mp hb with rfl | hb
      · rw [hoI] at e; cases e
        exact (N₃ _ (List.mem_append_right _ (.head _))).1
      · rw [List.mem_singleton.mp hb] at e ⊢
        rw [hl₁] at e; cases e; exact hl₃
    cases f with
    | ret v => exact h₃
    | brk => exact h₃
    | next => exact fin h₃
    | cont => exact fin h₃
  · have hin : i = vs.toArray.size := by (first | lia | omega)
    subst hin
    refine W.done _ _ _ hst' fun h₁ tk₁ hk₁ => wpAny_execs_nil ?_
    obtain ⟨F₁, N₁⟩ := next h₁ hk₁
    exact done m' news' h₁ tk₁ (by simpa using hJ) F₁ N₁
end
end Mine

end

local macro_rules | `(tactic| walk_at "mine append") => `(tactic| (k_here; (dsimp only [List.cons_append, List.nil_append]); (with_reducible show PySem.wpAny _ _ (PySem.call (PySem.Value.builtin _) [PySem.Value.ref _, _]) _ _ _); k_dflt (refine' PySem.W.append_K ?k1 ?k2 ?k3 ?_ ?z; (case k1 => k_asm); (case k2 => k_asm); (case k3 => k_upd); (case z => size_fits); k_whole); intro h' F' N'; (try simp only [List.push_toArray] at N'); (try k_sweep)))

section
open PySem PySem.W PyProof.Rows PySem.Calls
set_option maxRecDepth 100000
set_option maxHeartbeats 4000000
namespace Mine

theorem fill2 : Challenge.rw_nb0191_01 = Challenge.rw_nb0191_01 ∧ hd.heap_39 = hd.heap_39 := by k_fill; exact ⟨rfl, rfl⟩

noncomputable abbrev PhlSt := List PySem.Str × PySem.Str × Bool × Bool
noncomputable def phlS (st : PhlSt) (c : Nat) : PhlSt :=
  let (res, part, esc, q) := st
  if esc then (res, part ++ ⟨#[c]⟩, false, q)
  else if q then
    if c = 92 then (res, part, true, q)
    else (res, part ++ ⟨#[c]⟩, false, !(c == 34))
  else if c = 44 then (res ++ [part], PySem.Str.ofString "", false, false)
  else (res, part ++ ⟨#[c]⟩, false, c == 34)

noncomputable def phlF (l : List Nat) : PhlSt := l.foldl phlS ([], PySem.Str.ofString "", false, false)

noncomputable def PhlJ (x : PySem.Str) (l : Addr) (i : Nat) (m : PySem.Str → Option Value) (news : List (Addr × Obj)) : Prop :=
  ∃ vs res part tp esc q n, news = [(l, listOf (List.toArray vs) n)] ∧ StrsAre vs res ∧ phlF (x.cps.toList.take i) = (res, part, esc, q) ∧ part.length ≤ i ∧ res.length ≤ i ∧ (∀ r ∈ res, r.length ≤ i) ∧
    m (PySem.Str.ofString "part") = some (.str part tp) ∧ m (PySem.Str.ofString "escape") = some (.bool esc) ∧ m (PySem.Str.ofString "quote") = some (.bool q) ∧ m (PySem.Str.ofString "res") = some (.ref l)

noncomputable def phlEnd (st : PhlSt) : List PySem.Str := (if st.2.1.length = 0 then st.1 else st.1 ++ [st.2.1]).map Txt.strip
/-- what parse_http_list gives back -/
noncomputable def phlR (x : PySem.Str) : List PySem.Str := phlEnd (phlF x.cps.toList)

theorem phl_snoc {x : PySem.Str} {i c : Nat} {st : PhlSt} (h : phlF (x.cps.toList.take i) = st) (hc : x.cps[i]? = some c) : phlF (x.cps.toList.take (i + 1)) = phlS st c := by
  have : x.cps.toList.take (i + 1) = x.cps.toList.take i ++ [c] := by simp [List.take_add_one, hc]
  rw [this, phlF, List.foldl_append]
  unfold phlF at h
  rw [h]; rfl

theorem one_comma {c : Nat} {b : Bool} (h : ((⟨#[c]⟩ : PySem.Str) == PySem.Str.ofString ",") = b) : (c == 44) = b := by
  rw [← h, show PySem.Str.ofString "," = ⟨#[44]⟩ from by decide +kernel]
  rw [Bool.eq_iff_iff]; simp
theorem one_quote {c : Nat} {b : Bool} (h : ((⟨#[c]⟩ : PySem.Str) == PySem.Str.ofString "\"") = b) : (c == 34) = b := by
  rw [← h, show PySem.Str.ofString "\"" = ⟨#[34]⟩ from by decide +kernel]
  rw [Bool.eq_iff_iff]; simp
theorem one_slash {c : Nat} {b : Bool} (h : ((⟨#[c]⟩ : PySem.Str) == PySem.Str.ofString "\\") = b) : (c == 92) = b := by
  rw [← h, show PySem.Str.ofString "\\" = ⟨#[92]⟩ from by decide +kernel]
  rw [Bool.eq_iff_iff]; simp

local macro_rules | `(tactic| walk_at "call builtin:list.append") => `(tactic| walk_at "mine append")
theorem len_one (part : PySem.Str) (c : Nat) : (part ++ (⟨#[c]⟩ : PySem.Str)).length = part.length + 1 := by rw [PySem.Str.length_append]; rfl

theorem phl_call {prog : Program} {w : World} {base h₀ : Heap} {env : Env} {L : Addr} {m : PySem.Str → Option Value} {news : List (Addr × Obj)} {s : Shared} {p : Program} {loose : List PySem.Str} {mean : ExcName → Option Value} {mg mb : PySem.Str → Option Value} {x : PySem.Str} {t : Tok} {Q : Value → Shared → Prop} {E : Value → Shared → Prop}
  (B : Below callerA base [] h₀) (F : Fr h₀ L s.heap m) (X : (hd.heap_39 w.params).In h₀) (N : News h₀ L s.heap news) (T : Top p loose mean mg mb h₀) (hf : env.frame = some L) (hk : env.scope.kind = .function) (hx : x.length ≤ 100000)
  (hQ : ∀ l vs n h' tk, StrsAre vs (phlR x) → Fr h₀ L h' m → News h₀ L h' ((l, listOf vs.toArray n) :: news) → (∀ p ∈ news, p.1 ≠ l) → Q (.ref l) { s with heap := h', toks := tk }) :
  wpAny (model prog w) (callerA.deeper env) (call (.ref 43) [.str x t] []) Q E s := by
  w_on
  w_strict (
  (refine' call_fz (live := []) (rest := news) ?k1 ?k2 ?k3 ?k4 ?k5 ?kA ?kF ?kK ?k6 ?k7 ?k8 ?k9 ?kB ?kD ?_ ?c2 ?c3 ?c4 ?c5; (case kA => exact rfl); (case kF => exact hf); (case kK => exact hk); (case k1 => k_asm); (case k2 => k_asm); (case k3 => k_asm); (case k4 => k_asm); (case k5 => k_asm); (case k6 => k_is); (case k7 => k_is); (case k8 => k_room); (case k9 => first | exact BindsTo.of_eq rfl | exact binds_K (by k_in) rfl (by k_is) rfl rfl rfl | fail "k_enter: no rule for these arguments"); (case c5 => decide); (case kB => exact locs rfl); (case c2 => exact rfl); (case c3 => exact rfl); (case c4 => exact rfl); (case kD => exact fun _ _ _ h => nomatch h); k_whole; intro g' L' h' hkeep st' F' N' l' B' X' T'; (try dsimp only); (try k_lift B'); (try k_fold))
  have hnews : ∀ p ∈ news, s.heap.get? p.1 = some p.2 := fun p hp => (N p hp).1
  clear N F
  (repeat' ((fail_if_success ((first | (with_reducible show Turn _ _ _ _ _ _ _ _) | (with_reducible show LCg.CompSrc _ _ _ _ _ _ _ _ _ _ _ _ _ _) | (with_reducible show LCg.CompEnd _ _ _ _ _ _ _ _ _ _ _ _ _ _) | (with_reducible show LCt.CompSrcT _ _ _ _ _ _ _ _ _ _ _ _ _ _ _) | (with_reducible show Back _ _ _ _ _ _ _ _ _) | (with_reducible show wpAny _ _ (exec (Stmt.For _ _ _ _ _) _) _ _ _) | (with_reducible show wpAny _ _ (exec (Stmt.While _ _ _ _) _) _ _ _) | (with_reducible show wpAny _ _ (eval (PySem.Expr.ListComp _ _ _ _) _) _ _ _)))); first | (k_unfold; (try dsimp only)) | walk1 | (dsimp only; walk1)))
  rename Fr _ _ _ _ => F1
  rename News _ _ _ _ => N1
  rename_i l1 _ _ _ _ _ _
  refine For_invVF F1 rfl rfl ?_
  walk1
  refine iter_str (PhlJ x l1) rfl F1 N1 ?h0 ?turn ?done
  case h0 => exact ⟨[], [], PySem.Str.ofString "", _, false, false, 0, rfl, .nil, rfl, Nat.le_refl _, Nat.le_refl _, (fun _ h => nomatch h), rfl, rfl, rfl, rfl⟩
  case turn =>
    rintro i c t m₁ news₁ I oI h tk hc ⟨vs, res, part, tp, esc, q, n, rfl, hvs, hfold, hlp, hlr, hlen, mp, me, mq, mr⟩ hoff F2 N2
    have F3 := fr_see [(PySem.Str.ofString "cur", .str ⟨#[c]⟩ t), (PySem.Str.ofString "part", .str part tp), (PySem.Str.ofString "escape", .bool esc), (PySem.Str.ofString "quote", .bool q), (PySem.Str.ofString "res", .ref l1)] F2 (by
      intro p hp
      simp only [List.mem_cons, List.not_mem_nil, or_false] at hp
      rcases hp with rfl | rfl | rfl | rfl | rfl
      · rfl
      · exact mp
      · exact me
      · exact mq
      · exact mr)
    clear F2 mp me mq mr F1 N1
    have hxi : i < x.length := (Array.getElem?_eq_some_iff.mp hc).1
    have hlp2 : part.length ≤ 100000 := by (first | lia | omega)
    have hvl : vs.length ≤ 100000 := by have := hvs.length; (first | lia | omega)
    have hne : @Ne Nat l1 I := hoff _ (.head _)
    have hoff2 : ∀ vs' n', ∀ p ∈ [(l1, listOf (List.toArray vs') n')], p.1 ≠ I := fun vs' n' p hp => by rw [List.mem_singleton.mp hp]; exact hne
    have hs := phl_snoc hfold hc
    simp only [List.cons_append, List.nil_append] at N2
    (repeat' ((fail_if_success ((first | (with_reducible show Turn _ _ _ _ _ _ _ _) | (with_reducible show LCg.CompSrc _ _ _ _ _ _ _ _ _ _ _ _ _ _) | (with_reducible show LCg.CompEnd _ _ _ _ _ _ _ _ _ _ _ _ _ _) | (with_reducible show LCt.CompSrcT _ _ _ _ _ _ _ _ _ _ _ _ _ _ _) | (with_reducible show Back _ _ _ _ _ _ _ _ _) | (with_reducible show wpAny _ _ (exec (Stmt.For _ _ _ _ _) _) _ _ _) | (with_reducible show wpAny _ _ (exec (Stmt.While _ _ _ _) _) _ _ _) | (with_reducible show wpAny _ _ (eval (PySem.Expr.ListComp _ _ _ _) _) _ _ _)))); first | (k_unfold; (try dsimp only)) | walk1 | (dsimp only; walk1)))
    all_goals first
      | refine Turn.cont (by assumption) (by assumption) (hoff2 _ _) ⟨_, _, _, _, _, _, _, rfl, by first | exact hvs | exact KStt.strs_snoc hvs, ?_, ?_, ?_, ?_, rfl, rfl, rfl, rfl⟩
      | refine Turn.next (by assumption) (by assumption) (hoff2 _ _) ⟨_, _, _, _, _, _, _, rfl, by first | exact hvs | exact KStt.strs_snoc hvs, ?_, ?_, ?_, ?_, rfl, rfl, rfl, rfl⟩
    all_goals first
      | (rw [hs]; unfold phlS; (try have h1 := one_comma ‹(PySem.Str.mk _ == PySem.Str.ofString ",") = _›); (try have h2 := one_quote ‹(PySem.Str.mk _ == PySem.Str.ofString "\"") = _›); (try have h3 := one_slash ‹(PySem.Str.mk _ == PySem.Str.ofString "\\") = _›); simp_all; done)
      | (first | (first | lia | omega) | (rw [len_one]; (first | lia | omega)) | (simp only [List.length_append, List.length_cons, List.length_nil]; (first | lia | omega)) | (show 0 ≤ _; (first | lia | omega)))
      | (intro r hr; first
          | (have := hlen r hr; (first | lia | omega))
          | (rcases List.mem_append.mp hr with hr | hr
             · have := hlen r hr; (first | lia | omega)
             · rw [List.mem_singleton.mp hr]; (first | lia | omega)))
  case done =>
    rintro m₁ news₁ h tk ⟨vs, res, part, tp, esc, q, n, rfl, hvs, hfold, hlp, hlr, hlen, mp, me, mq, mr⟩ F2 N2
    have F3 := fr_see [(PySem.Str.ofString "part", .str part tp), (PySem.Str.ofString "res", .ref l1)] F2 (by
      intro p hp
      simp only [List.mem_cons, List.not_mem_nil, or_false] at hp
      rcases hp with rfl | rfl
      · exact mp
      · exact mr)
    have hlp2 : part.length ≤ 100000 := Nat.le_trans hlp hx
    have hvl : vs.length ≤ 100000 := by have := hvs.length; have := Nat.le_trans hlr hx; (first | lia | omega)
    have hfold' : phlF x.cps.toList = (res, part, esc, q) := by rw [← hfold, ← Array.length_toList, List.take_length]
    clear F2 mp me mq mr F1 N1
    dsimp only
    (repeat' ((fail_if_success ((first | (with_reducible show Turn _ _ _ _ _ _ _ _) | (with_reducible show LCg.CompSrc _ _ _ _ _ _ _ _ _ _ _ _ _ _) | (with_reducible show LCg.CompEnd _ _ _ _ _ _ _ _ _ _ _ _ _ _) | (with_reducible show LCt.CompSrcT _ _ _ _ _ _ _ _ _ _ _ _ _ _ _) | (with_reducible show Back _ _ _ _ _ _ _ _ _) | (with_reducible show wpAny _ _ (exec (Stmt.For _ _ _ _ _) _) _ _ _) | (with_reducible show wpAny _ _ (exec (Stmt.While _ _ _ _) _) _ _ _) | (with_reducible show wpAny _ _ (eval (PySem.Expr.ListComp _ _ _ _) _) _ _ _)))); first | (k_unfold; (try dsimp only)) | walk1 | (dsimp only; walk1)))
    · have hvs' : StrsAre (vs ++ [Value.str part tp]) (res ++ [part]) := KStt.strs_snoc hvs
      have hvl' : (vs ++ [Value.str part tp]).length ≤ 100001 := by (try simp only [List.length_append, List.length_cons, List.length_nil]); (first | lia | omega)
      have hlen' : ∀ r ∈ res ++ [part], r.length ≤ 100000 := fun r hr => by
        rcases List.mem_append.mp hr with hr | hr
        · exact Nat.le_trans (hlen r hr) hx
        · rw [List.mem_singleton.mp hr]; (first | lia | omega)
      have hphl : phlEnd (phlF x.cps.toList) = (res ++ [part]).map Txt.strip := by
        rw [hfold']; unfold phlEnd; rw [if_neg (by simp_all)]
      refine LCg.ListComp_U (F₀ := by k_asm) (by with_unfolding_all rfl) (by decide) (by rfl) (by decide) (by rfl) ?_
      (repeat' ((fail_if_success ((first | (with_reducible show Turn _ _ _ _ _ _ _ _) | (with_reducible show LCg.CompSrc _ _ _ _ _ _ _ _ _ _ _ _ _ _) | (with_reducible show LCg.CompEnd _ _ _ _ _ _ _ _ _ _ _ _ _ _) | (with_reducible show LCt.CompSrcT _ _ _ _ _ _ _ _ _ _ _ _ _ _ _) | (with_reducible show Back _ _ _ _ _ _ _ _ _) | (with_reducible show wpAny _ _ (exec (Stmt.For _ _ _ _ _) _) _ _ _) | (with_reducible show wpAny _ _ (exec (Stmt.While _ _ _ _) _) _ _ _) | (with_reducible show wpAny _ _ (eval (PySem.Expr.ListComp _ _ _ _) _) _ _ _)))); first | (k_unfold; (try dsimp only)) | walk1 | (dsimp only; walk1)))
      rename News _ _ _ _ => N4
      rename Fr _ _ _ _ => F4
      refine LCg.CompSrc.ledger (by rfl) F4 N4 (.head _) (by rw [List.size_toArray, sizeLine_eq]; (first | lia | omega)) fun g => ?_
      refine compRest_of (fun i ys nw => nw = [(l1, listOf (vs ++ [Value.str part tp]).toArray (n + 1))] ∧ StrsAre ys (((res ++ [part]).take i).map Txt.strip)) ?_ ?_ _ 0 _ _ (Nat.zero_add _) ⟨rfl, .nil⟩
      · rintro i ys _ v I oI C oC D m₂ h tk E' hi ⟨rfl, hys⟩ hv hC hm F5 N5 off ne
        obtain ⟨y, t, rfl, hy⟩ := hvs'.item i v (by simpa using hv)
        clear N4 F4
        have hyl : y.length ≤ 100000 := hlen' y (List.mem_of_getElem? hy)
        (repeat' ((fail_if_success ((first | (with_reducible show Turn _ _ _ _ _ _ _ _) | (with_reducible show LCg.CompSrc _ _ _ _ _ _ _ _ _ _ _ _ _ _) | (with_reducible show LCg.CompEnd _ _ _ _ _ _ _ _ _ _ _ _ _ _) | (with_reducible show LCt.CompSrcT _ _ _ _ _ _ _ _ _ _ _ _ _ _ _) | (with_reducible show Back _ _ _ _ _ _ _ _ _) | (with_reducible show wpAny _ _ (exec (Stmt.For _ _ _ _ _) _) _ _ _) | (with_reducible show wpAny _ _ (exec (Stmt.While _ _ _ _) _) _ _ _) | (with_reducible show wpAny _ _ (eval (PySem.Expr.ListComp _ _ _ _) _) _ _ _)))); first | (k_unfold; (try dsimp only)) | walk1 | (dsimp only; walk1)))
        refine LCg.CompEnd.intro F5 N5 _ (fun _ hp => hp) off (.inr ⟨_, .head _, rfl, _, rfl⟩) ⟨rfl, ?_⟩
        rw [List.take_add_one, hy, List.map_append]
        exact KStt.strs_snoc hys
      · rintro ys _ ⟨rfl, hys⟩ D h tk F6 N6 off
        show Back _ _ _ _ _ _ _ _ _
        refine ⟨_, [(D, LCg.lst ys)], F6, fun p hp => N6 p (by rw [List.mem_singleton.mp hp]; exact .head _), fun F7 N7 => hQ D ys _ _ _ ?_ F7 N7 fun p hp e => ?_⟩
        · have hl : (res ++ [part]).length = (vs ++ [Value.str part tp]).toArray.size := by rw [List.size_toArray]; exact hvs'.length.symm
          rw [← hl, List.take_length] at hys
          rw [phlR, hphl]
          exact hys
        · have h1 := hkeep p.1 p.2 (fun _ h => nomatch h) (hnews p hp)
          have h2 := (N6 _ (.head _)).2.2
          rw [e] at h1; rw [h1] at h2; cases h2
    · have hvs' : StrsAre (vs) (res) := hvs
      have hvl' : (vs).length ≤ 100001 := by (try simp only [List.length_append, List.length_cons, List.length_nil]); (first | lia | omega)
      have hlen' : ∀ r ∈ res, r.length ≤ 100000 := fun r hr => Nat.le_trans (hlen r hr) hx
      have hphl : phlEnd (phlF x.cps.toList) = res.map Txt.strip := by
        rw [hfold']; unfold phlEnd; rw [if_pos (by simp_all)]
      refine LCg.ListComp_U (F₀ := by k_asm) (by with_unfolding_all rfl) (by decide) (by rfl) (by decide) (by rfl) ?_
      (repeat' ((fail_if_success ((first | (with_reducible show Turn _ _ _ _ _ _ _ _) | (with_reducible show LCg.CompSrc _ _ _ _ _ _ _ _ _ _ _ _ _ _) | (with_reducible show LCg.CompEnd _ _ _ _ _ _ _ _ _ _ _ _ _ _) | (with_reducible show LCt.CompSrcT _ _ _ _ _ _ _ _ _ _ _ _ _ _ _) | (with_reducible show Back _ _ _ _ _ _ _ _ _) | (with_reducible show wpAny _ _ (exec (Stmt.For _ _ _ _ _) _) _ _ _) | (with_reducible show wpAny _ _ (exec (Stmt.While _ _ _ _) _) _ _ _) | (with_reducible show wpAny _ _ (eval (PySem.Expr.ListComp _ _ _ _) _) _ _ _)))); first | (k_unfold; (try dsimp only)) | walk1 | (dsimp only; walk1)))
      rename News _ _ _ _ => N4
      rename Fr _ _ _ _ => F4
      refine LCg.CompSrc.ledger (by rfl) F4 N4 (.head _) (by rw [List.size_toArray, sizeLine_eq]; (first | lia | omega)) fun g => ?_
      refine compRest_of (fun i ys nw => nw = [(l1, listOf (vs).toArray (n))] ∧ StrsAre ys (((res).take i).map Txt.strip)) ?_ ?_ _ 0 _ _ (Nat.zero_add _) ⟨rfl, .nil⟩
      · rintro i ys _ v I oI C oC D m₂ h tk E' hi ⟨rfl, hys⟩ hv hC hm F5 N5 off ne
        obtain ⟨y, t, rfl, hy⟩ := hvs'.item i v (by simpa using hv)
        clear N4 F4
        have hyl : y.length ≤ 100000 := hlen' y (List.mem_of_getElem? hy)
        (repeat' ((fail_if_success ((first | (with_reducible show Turn _ _ _ _ _ _ _ _) | (with_reducible show LCg.CompSrc _ _ _ _ _ _ _ _ _ _ _ _ _ _) | (with_reducible show LCg.CompEnd _ _ _ _ _ _ _ _ _ _ _ _ _ _) | (with_reducible show LCt.CompSrcT _ _ _ _ _ _ _ _ _ _ _ _ _ _ _) | (with_reducible show Back _ _ _ _ _ _ _ _ _) | (with_reducible show wpAny _ _ (exec (Stmt.For _ _ _ _ _) _) _ _ _) | (with_reducible show wpAny _ _ (exec (Stmt.While _ _ _ _) _) _ _ _) | (with_reducible show wpAny _ _ (eval (PySem.Expr.ListComp _ _ _ _) _) _ _ _)))); first | (k_unfold; (try dsimp only)) | walk1 | (dsimp only; walk1)))
        refine LCg.CompEnd.intro F5 N5 _ (fun _ hp => hp) off (.inr ⟨_, .head _, rfl, _, rfl⟩) ⟨rfl, ?_⟩
        rw [List.take_add_one, hy, List.map_append]
        exact KStt.strs_snoc hys
      · rintro ys _ ⟨rfl, hys⟩ D h tk F6 N6 off
        show Back _ _ _ _ _ _ _ _ _
        refine ⟨_, [(D, LCg.lst ys)], F6, fun p hp => N6 p (by rw [List.mem_singleton.mp hp]; exact .head _), fun F7 N7 => hQ D ys _ _ _ ?_ F7 N7 fun p hp e => ?_⟩
        · have hl : (res).length = (vs).toArray.size := by rw [List.size_toArray]; exact hvs'.length.symm
          rw [← hl, List.take_length] at hys
          rw [phlR, hphl]
          exact hys
        · have h1 := hkeep p.1 p.2 (fun _ h => nomatch h) (hnews p hp)
          have h2 := (N6 _ (.head _)).2.2
          rw [e] at h1; rw [h1] at h2; cases h2
  )
end Mine

end

section
set_option maxRecDepth 100000
set_option linter.unusedSimpArgs false
set_option linter.unusedVariables false
namespace Mine
open PySem.Sre
open PySem hiding run Frame Kept

theorem runFor_done (n : Nat) {m : M} (h : m.outcome.isSome = true) : m.runFor n = m := by
  cases n with
  | zero => rfl
  | succ n => simp [M.runFor, h]
theorem runFor_add (a b : Nat) : ∀ m : M, m.runFor (a + b) = (m.runFor a).runFor b := by
  induction a with
  | zero => intro m; simp [M.runFor]
  | succ a ih =>
    intro m
    rw [Nat.succ_add]
    by_cases h : m.outcome.isSome = true
    · rw [runFor_done _ h, runFor_done _ h, runFor_done _ h]
    · simp only [M.runFor, h, if_false, Bool.false_eq_true]
      exact ih _

/-- from `m` the machine comes within `n` steps to a state of `R` -/
noncomputable def Ends (n : Nat) (m : M) (R : M → Prop) : Prop := ∃ k, k ≤ n ∧ R (m.runFor k)

theorem Ends.here {n : Nat} {m : M} {R : M → Prop} (h : R m) : Ends n m R := ⟨0, Nat.zero_le _, h⟩
theorem Ends.step {n : Nat} {m : M} {R : M → Prop} (ho : m.outcome = none) (h : Ends n m.step R) : Ends (n + 1) m R := by
  obtain ⟨k, hk, r⟩ := h
  refine ⟨k + 1, by (first | lia | omega), ?_⟩
  simp only [M.runFor, ho, Option.isSome_none, Bool.false_eq_true, if_false]
  exact r
theorem Ends.bind {n n' : Nat} {m : M} {R R' : M → Prop} (h : Ends n m R) (h' : ∀ m', R m' → Ends n' m' R') : Ends (n + n') m R' := by
  obtain ⟨k, hk, r⟩ := h
  obtain ⟨k', hk', r'⟩ := h' _ r
  exact ⟨k + k', by (first | lia | omega), by rw [runFor_add]; exact r'⟩
theorem Ends.mono {n n' : Nat} {m : M} {R R' : M → Prop} (h : Ends n m R) (hn : n ≤ n') (hR : ∀ m', R m' → R' m') : Ends n' m R' := by
  obtain ⟨k, hk, r⟩ := h
  exact ⟨k, by (first | lia | omega), hR _ r⟩

/-- the machine is about to execute a word -/
structure Live (m : M) : Prop where
  o : m.outcome = none
  a : m.answer = none
  z : m.pc < m.code.size

theorem step_exec {m : M} (h : Live m) : m.step = m.exec := by
  unfold M.step
  simp [h.o, h.a, h.z]

/-- a word that takes one sign -/
noncomputable def one (m : M) (w : Nat) : M :=
  if m.pos ≥ m.lim then { m with seen := m.seen.add w, answer := some false } else
  match accepts m.code m.pc (m.text.getD m.pos 0) (m.seen.add w) with
  | .error why => M.stick { m with seen := m.seen.add w } why
  | .ok (false, seen) => { m with seen, answer := some false }
  | .ok (true, seen) => { m with seen, pc := m.pc + itemWidth m.code m.pc, pos := m.pos + 1 }

section ops
variable {m : M}

/- the words of the code, one by one (the same binders in each, so that the compiled body of `exec` is shared) -/
theorem exec_at (h0 : m.word 0 = 6) : m.exec = (match m.isAt (m.word 1) with
    | .error why => M.stick { m with seen := m.seen.add 6 } why
    | .ok yes => if yes then { m with seen := (m.seen.add 6).add (43 + m.word 1), pc := m.pc + 2 } else { m with seen := (m.seen.add 6).add (43 + m.word 1), answer := some false }) := by
  unfold M.exec
  rw [h0]
  rfl
theorem exec_lit (h0 : m.word 0 = 16) : m.exec = one m 16 := by
  unfold M.exec
  rw [h0]
  rfl
theorem exec_any (h0 : m.word 0 = 2) : m.exec = one m 2 := by
  unfold M.exec
  rw [h0]
  rfl
theorem exec_in (h0 : m.word 0 = 13) : m.exec = one m 13 := by
  unfold M.exec
  rw [h0]
  rfl
theorem exec_mark (h0 : m.word 0 = 17) : m.exec = M.mark { m with seen := m.seen.add 17 } (m.word 1) := by
  unfold M.exec
  rw [h0]
  rfl
theorem exec_succ (h0 : m.word 0 = 1) : m.exec = (if m.outermost && ((m.wholeText && m.pos != m.lim) || (m.mustAdvance && m.pos == m.start)) then { m with seen := m.seen.add 1, answer := some false }
    else { m with seen := m.seen.add 1, handed := m.pos, answer := some true }) := by
  unfold M.exec
  rw [h0]
  rfl
theorem exec_rep (h0 : m.word 0 = 24) : m.exec =
    (if (m.word 2 : Int) > (m.lim : Int) - m.pos then { m with seen := m.seen.add 24, answer := some false } else
    match run m.code m.text (m.pc + 4) (min (m.word 3) ((m.lim : Int) - m.pos).toNat) m.pos 0 ((m.seen.add 24).add (m.word 4)) with
    | .error why => M.stick { m with seen := m.seen.add 24 } why
    | .ok (n, seen) => if n < m.word 2 then { m with seen, answer := some false } else M.afterRun { m with seen, pos := m.pos + n } .giveBack n (M.keep { m with seen, pos := m.pos + n } m.inner.isSome)) := by
  unfold M.exec
  rw [h0]
  rfl

theorem isAt_0 : m.isAt 0 = .ok (m.pos == 0) := rfl
theorem step_at_ok (h : Live m) (h0 : m.word 0 = 6) (h1 : m.word 1 = 0) (hp : m.pos = 0) : ∃ sn, m.step = { m with seen := sn, pc := m.pc + 2 } := by
  rw [step_exec h, exec_at h0, h1, isAt_0, beq_iff_eq.mpr hp]
  exact ⟨_, rfl⟩
theorem step_at_no (h : Live m) (h0 : m.word 0 = 6) (h1 : m.word 1 = 0) (hp : m.pos ≠ 0) : ∃ sn, m.step = { m with seen := sn, answer := some false } := by
  rw [step_exec h, exec_at h0, h1, isAt_0, beq_eq_false_iff_ne.mpr hp]
  exact ⟨_, rfl⟩

/-- a sign is taken, or not, by the one-sign item at `i` -/
noncomputable def Acc (code : Array Nat) (i : Nat) (c : Nat) (b : Bool) : Prop := ∀ seen, ∃ seen', accepts code i c seen = .ok (b, seen')

theorem one_ok {w k : Nat} (h : Live m) (h0 : m.exec = one m w) (hk : itemWidth m.code m.pc = k) (hp : m.pos < m.lim) (hc : Acc m.code m.pc (m.text.getD m.pos 0) true) : ∃ sn, m.step = { m with seen := sn, pc := m.pc + k, pos := m.pos + 1 } := by
  rw [step_exec h, h0]
  unfold one
  obtain ⟨sn, e⟩ := hc (m.seen.add w)
  rw [if_neg (Nat.not_le.mpr hp), e, hk]
  exact ⟨sn, rfl⟩
theorem acc_lit {code : Array Nat} {i c : Nat} {b : Bool} (h0 : code.getD i 0 = 16) (hc : (c == code.getD (i + 1) 0) = b) : Acc code i c b := fun seen => by
  unfold accepts
  rw [h0, ← hc]
  exact ⟨seen, rfl⟩
theorem acc_any {code : Array Nat} {i c : Nat} {b : Bool} (h0 : code.getD i 0 = 2) (hc : (c != 10) = b) : Acc code i c b := fun seen => by
  unfold accepts
  rw [h0, ← hc]
  exact ⟨seen, rfl⟩
theorem width_lit {code : Array Nat} {i : Nat} (h0 : code.getD i 0 = 16) : itemWidth code i = 2 := by
  unfold itemWidth
  rw [h0]
  rfl
theorem width_any {code : Array Nat} {i : Nat} (h0 : code.getD i 0 = 2) : itemWidth code i = 1 := by
  unfold itemWidth
  rw [h0]
  rfl
theorem width_in {code : Array Nat} {i : Nat} (h0 : code.getD i 0 = 13) : itemWidth code i = 1 + code.getD (i + 1) 0 := by
  unfold itemWidth
  rw [h0]
  rfl
theorem step_lit_ok (h : Live m) (h0 : m.word 0 = 16) (hp : m.pos < m.lim) (hc : m.text.getD m.pos 0 = m.word 1) : ∃ sn, m.step = { m with seen := sn, pc := m.pc + 2, pos := m.pos + 1 } :=
  one_ok h (exec_lit h0) (width_lit h0) hp (acc_lit h0 (beq_iff_eq.mpr hc))
theorem step_lit_no (h : Live m) (h0 : m.word 0 = 16) (hc : m.pos < m.lim → m.text.getD m.pos 0 ≠ m.word 1) : ∃ sn, m.step = { m with seen := sn, answer := some false } := by
  rw [step_exec h, exec_lit h0]
  unfold one
  by_cases hp : m.pos < m.lim
  · obtain ⟨sn, e⟩ := acc_lit (i := m.pc) (c := m.text.getD m.pos 0) h0 (beq_eq_false_iff_ne.mpr (hc hp)) (m.seen.add 16)
    rw [if_neg (Nat.not_le.mpr hp), e]
    exact ⟨sn, rfl⟩
  · rw [if_pos (Nat.not_lt.mp hp)]
    exact ⟨_, rfl⟩
theorem step_any_ok (h : Live m) (h0 : m.word 0 = 2) (hp : m.pos < m.lim) (hc : m.text.getD m.pos 0 ≠ 10) : ∃ sn, m.step = { m with seen := sn, pc := m.pc + 1, pos := m.pos + 1 } :=
  one_ok h (exec_any h0) (width_any h0) hp (acc_any h0 (bne_iff_ne.mpr hc))
theorem step_in_ok (h : Live m) (h0 : m.word 0 = 13) (hp : m.pos < m.lim) (hc : Acc m.code m.pc (m.text.getD m.pos 0) true) : ∃ sn, m.step = { m with seen := sn, pc := m.pc + 1 + m.word 1, pos := m.pos + 1 } := by
  rw [Nat.add_assoc]
  exact one_ok h (exec_in h0) (width_in h0) hp hc

theorem step_mark {i : Nat} (h : Live m) (h0 : m.word 0 = 17) (h1 : m.word 1 = i) (hl : (i : Int) ≤ m.lastmark + 1) :
    ∃ sn, m.step = { m with seen := sn, marks := m.marks.setIfInBounds i (some m.pos), lastmark := max m.lastmark i, lastindex := if i % 2 == 1 then (i / 2 + 1 : Nat) else m.lastindex, pc := m.pc + 2 } := by
  rw [step_exec h, exec_mark h0, h1]
  unfold M.mark
  rw [if_pos (show (i : Int) ≤ ({ m with seen := m.seen.add 17 } : M).lastmark + 1 from hl)]
  exact ⟨_, rfl⟩

theorem step_success (h : Live m) (h0 : m.word 0 = 1) (hw : m.wholeText = true → m.outermost = true → m.pos = m.lim) (ha : m.mustAdvance = true → m.outermost = true → m.pos ≠ m.start) :
    ∃ sn, m.step = { m with seen := sn, handed := m.pos, answer := some true } := by
  rw [step_exec h, exec_succ h0, if_neg]
  · exact ⟨_, rfl⟩
  · simp only [Bool.and_eq_true, Bool.or_eq_true, bne_iff_ne, beq_iff_eq]
    exact fun q => q.2.elim (fun c => c.2 (hw c.1 q.1)) fun c => ha c.1 q.1 c.2
theorem step_success_no (h : Live m) (h0 : m.word 0 = 1) (hw : m.wholeText = true) (hq : m.outermost = true) (hp : m.pos ≠ m.lim) :
    ∃ sn, m.step = { m with seen := sn, answer := some false } := by
  rw [step_exec h, exec_succ h0, if_pos]
  · exact ⟨_, rfl⟩
  · rw [hw, hq, bne_iff_ne.mpr hp]; rfl

/-- a run of signs -/
theorem run_spec {code text : Array Nat} {i : Nat} : ∀ (k n p f : Nat) (seen : Sre.Seen), k ≤ n → (∀ j, j < k → Acc code i (text.getD (p + j) 0) true) → (k < n → Acc code i (text.getD (p + k) 0) false) → ∃ sn, run code text i n p f seen = .ok (f + k, sn)
  | 0, n, p, f, seen, _, _, h2 => by
    cases n with
    | zero => exact ⟨seen, rfl⟩
    | succ n =>
      obtain ⟨sn, e⟩ := h2 (Nat.succ_pos _) seen
      rw [Nat.add_zero] at e
      refine ⟨sn, ?_⟩
      simp only [run, e]
      rfl
  | k + 1, n, p, f, seen, hk, h1, h2 => by
    cases n with
    | zero => (first | lia | omega)
    | succ n =>
      obtain ⟨sn, e⟩ := h1 0 (Nat.succ_pos _) seen
      rw [Nat.add_zero] at e
      obtain ⟨sn', e'⟩ := run_spec (i := i) k n (p + 1) (f + 1) sn (by (first | lia | omega)) (fun j hj => by have := h1 (j + 1) (by (first | lia | omega)); rwa [show p + 1 + j = p + (j + 1) by (first | lia | omega)]) (fun hn => by have := h2 (by (first | lia | omega)); rwa [show p + 1 + k = p + (k + 1) by (first | lia | omega)])
      refine ⟨sn', ?_⟩
      simp only [run, e]
      show run code text i n (p + 1) (f + 1) sn = _
      rw [e']
      congr 2
      (first | lia | omega)

/-- what lies on the stack behind a run -/
noncomputable def gb (m : M) (count : Int) (kept : Sre.Kept) : Frame := { m.frame .giveBack with count, kept }

theorem attempt_eq (f : Sre.Frame) (t p : Nat) (q : Bool) (hw : m.weight + 1 + f.kept.marks.size ≤ 16777216) :
    m.attempt f t p q = { m with frames := f :: m.frames, weight := m.weight + 1 + f.kept.marks.size, pc := t, pos := p, handed := p, outermost := q } := by
  unfold M.attempt
  rw [if_neg (by (first | lia | omega))]

theorem afterRun_eq (count : Int) (kept : Sre.Kept) (hw : m.weight + 1 + kept.marks.size ≤ 16777216) :
    m.afterRun .giveBack count kept = { m with frames := gb m count kept :: m.frames, weight := m.weight + 1 + kept.marks.size, pc := m.pc + 1 + m.word 1, handed := m.pos } := by
  unfold M.afterRun
  rw [attempt_eq _ _ _ _ hw]
  rfl

theorem step_repK {k : Nat} {kept : Sre.Kept} (h : Live m) (h0 : m.word 0 = 24) (h3 : m.word 3 = maxRepeat) (hl : m.lim ≤ 16777216) (hle : m.pos + k ≤ m.lim) (h2 : m.word 2 ≤ k) (h1 : ∀ j, j < k → Acc m.code (m.pc + 4) (m.text.getD (m.pos + j) 0) true)
    (hs : m.pos + k < m.lim → Acc m.code (m.pc + 4) (m.text.getD (m.pos + k) 0) false) (hk : m.keep m.inner.isSome = kept) (hw : m.weight + 1 + kept.marks.size ≤ 16777216) :
    ∃ sn, m.step = { m with seen := sn, pos := m.pos + k, frames := { wait := .giveBack, pc := m.pc, pos := m.pos + k, outermost := m.outermost, count := k, kept := kept } :: m.frames, weight := m.weight + 1 + kept.marks.size, pc := m.pc + 1 + m.word 1, handed := m.pos + k } := by
  rw [step_exec h, exec_rep h0]
  have hroom : ((m.lim : Int) - (m.pos : Int)).toNat = m.lim - m.pos := by (first | lia | omega)
  have hr1 : ¬ ((m.word 2 : Nat) : Int) > (m.lim : Int) - (m.pos : Int) := by (first | lia | omega)
  have hmin : min maxRepeat (m.lim - m.pos) = m.lim - m.pos := by unfold maxRepeat; (first | lia | omega)
  obtain ⟨sn, e⟩ := run_spec (code := m.code) (text := m.text) (i := m.pc + 4) k (m.lim - m.pos) m.pos 0 ((m.seen.add 24).add (m.word 4)) (by (first | lia | omega)) h1 (fun hn => hs (by (first | lia | omega)))
  rw [Nat.zero_add] at e
  have hnl : ¬ k < m.word 2 := by (first | lia | omega)
  rw [if_neg hr1, h3, hroom, hmin, e]
  refine ⟨sn, ?_⟩
  show (if k < m.word 2 then _ else _) = _
  rw [if_neg hnl]
  have hk' : M.keep { m with seen := sn, pos := m.pos + k } m.inner.isSome = kept := hk
  rw [hk']
  exact (afterRun_eq (m := { m with seen := sn, pos := m.pos + k }) _ _ hw).trans rfl
theorem step_rep {k : Nat} (h : Live m) (h0 : m.word 0 = 24) (h3 : m.word 3 = maxRepeat) (hl : m.lim ≤ 16777216) (hle : m.pos + k ≤ m.lim) (h2 : m.word 2 ≤ k) (h1 : ∀ j, j < k → Acc m.code (m.pc + 4) (m.text.getD (m.pos + j) 0) true)
    (hs : m.pos + k < m.lim → Acc m.code (m.pc + 4) (m.text.getD (m.pos + k) 0) false) (hi : m.inner = none) (hw : m.weight + 1 ≤ 16777216) :
    ∃ sn, m.step = { m with seen := sn, pos := m.pos + k, frames := { wait := .giveBack, pc := m.pc, pos := m.pos + k, outermost := m.outermost, count := k, kept := { lastmark := m.lastmark, lastindex := m.lastindex } } :: m.frames, weight := m.weight + 1, pc := m.pc + 1 + m.word 1, handed := m.pos + k } :=
  step_repK h h0 h3 hl hle h2 h1 hs (by rw [hi]; rfl) hw
theorem step_rep_no (h : Live m) (h0 : m.word 0 = 24) (h3 : m.word 3 = maxRepeat) (h2 : m.word 2 = 1) (hl : m.pos ≤ m.lim)
    (hs : m.pos < m.lim → Acc m.code (m.pc + 4) (m.text.getD m.pos 0) false) :
    ∃ sn, m.step = { m with seen := sn, answer := some false } := by
  rw [step_exec h, exec_rep h0, h2, h3]
  by_cases hr : m.pos < m.lim
  · have hroom : ((m.lim : Int) - (m.pos : Int)).toNat = m.lim - m.pos := by (first | lia | omega)
    have hr1 : ¬ ((1 : Nat) : Int) > (m.lim : Int) - (m.pos : Int) := by (first | lia | omega)
    have hmin : ∃ q, min maxRepeat (m.lim - m.pos) = q + 1 := ⟨min maxRepeat (m.lim - m.pos) - 1, by unfold maxRepeat; (first | lia | omega)⟩
    obtain ⟨q, hq⟩ := hmin
    obtain ⟨sn, e⟩ := run_spec (code := m.code) (text := m.text) (i := m.pc + 4) 0 (q + 1) m.pos 0 ((m.seen.add 24).add (m.word 4)) (by (first | lia | omega)) (fun j hj => by (first | lia | omega)) (fun _ => hs hr)
    rw [Nat.zero_add] at e
    rw [if_neg hr1, hroom, hq, e]
    exact ⟨sn, rfl⟩
  · have hr1 : ((1 : Nat) : Int) > (m.lim : Int) - (m.pos : Int) := by (first | lia | omega)
    rw [if_pos hr1]
    exact ⟨_, rfl⟩
end ops

section stack
variable {m : M}
/-- the machine has an answer and goes back to the last frame -/
theorem step_back {f : Sre.Frame} {rest : List Sre.Frame} {yes : Bool} (ho : m.outcome = none) (ha : m.answer = some yes) (hf : m.frames = f :: rest) :
    m.step = M.resume { m with answer := none, frames := rest, weight := m.weight - (1 + f.kept.marks.size), pc := f.pc, pos := f.pos, outermost := f.outermost } f yes := by
  unfold M.step
  simp [ho, ha, hf]
theorem step_end {yes : Bool} (ho : m.outcome = none) (ha : m.answer = some yes) (hf : m.frames = []) : m.step = { m with outcome := some (if yes then .matched else .failed) } := by
  unfold M.step
  simp [ho, ha, hf]

noncomputable def Sre.Frame.passes (f : Sre.Frame) : Bool := match f.wait with
  | .nextStart | .giveBack | .closeLoop | .maxMore | .maxTail => true
  | _ => false

theorem passes_cases {f : Sre.Frame} (h : Sre.Frame.passes f = true) : f.wait = .nextStart ∨ f.wait = .giveBack ∨ f.wait = .closeLoop ∨ f.wait = .maxMore ∨ f.wait = .maxTail := by
  unfold Sre.Frame.passes at h
  split at h
  · exact .inl ‹_›
  · exact .inr (.inl ‹_›)
  · exact .inr (.inr (.inl ‹_›))
  · exact .inr (.inr (.inr (.inl ‹_›)))
  · exact .inr (.inr (.inr (.inr ‹_›)))
  · cases h
theorem res_next {f : Sre.Frame} (h : f.wait = .nextStart) : M.resume m f true = m.say true := by
  unfold M.resume
  rw [h]
  rfl
theorem res_give {f : Sre.Frame} (h : f.wait = .giveBack) : M.resume m f true = m.say true := by
  unfold M.resume
  rw [h]
  rfl
theorem res_close {f : Sre.Frame} (h : f.wait = .closeLoop) : M.resume m f true = M.say { m with inner := (m.loopAt f.loop).outer, loops := m.loops.pop } true := by
  unfold M.resume
  rw [h]
theorem res_more {f : Sre.Frame} (h : f.wait = .maxMore) : M.resume m f true = M.say (m.setLoop f.loop fun l => { l with began := f.began }) true := by
  unfold M.resume
  rw [h]
  rfl
theorem res_tail {f : Sre.Frame} (h : f.wait = .maxTail) : M.resume m f true = M.say { m with inner := some f.loop } true := by
  unfold M.resume
  rw [h]
theorem res_yes {f : Sre.Frame} (hp : Sre.Frame.passes f = true) (ho : m.outcome = none) : ∃ m₁, M.resume m f true = m₁ ∧ m₁.frames = m.frames ∧ m₁.outcome = none ∧ m₁.answer = some true ∧
        m₁.marks = m.marks ∧ m₁.lastmark = m.lastmark ∧ m₁.lastindex = m.lastindex ∧ m₁.start = m.start ∧ m₁.handed = m.handed := by
  rcases passes_cases hp with h | h | h | h | h
  · exact ⟨_, res_next h, rfl, ho, rfl, rfl, rfl, rfl, rfl, rfl⟩
  · exact ⟨_, res_give h, rfl, ho, rfl, rfl, rfl, rfl, rfl, rfl⟩
  · exact ⟨_, res_close h, rfl, ho, rfl, rfl, rfl, rfl, rfl, rfl⟩
  · exact ⟨_, res_more h, rfl, ho, rfl, rfl, rfl, rfl, rfl, rfl⟩
  · exact ⟨_, res_tail h, rfl, ho, rfl, rfl, rfl, rfl, rfl, rfl⟩
/-- a yes goes through to the end -/
theorem unwind : ∀ (fs : List Sre.Frame) (m : M), m.frames = fs → fs.all Sre.Frame.passes = true → m.outcome = none → m.answer = some true →
    Ends (fs.length + 1) m (fun m' => (match m'.outcome with | some .matched => True | _ => False) ∧ m'.marks = m.marks ∧ m'.lastmark = m.lastmark ∧ m'.lastindex = m.lastindex ∧ m'.start = m.start ∧ m'.handed = m.handed) := by
  intro fs
  induction fs with
  | nil =>
    intro m hf _ ho ha
    refine .step ho ?_
    rw [step_end ho ha hf]
    exact .here ⟨trivial, rfl, rfl, rfl, rfl, rfl⟩
  | cons f rest ih =>
    intro m hf hp ho ha
    refine .step ho ?_
    rw [step_back ho ha hf]
    rw [List.all_cons, Bool.and_eq_true] at hp
    obtain ⟨m₁, e, h1, h2, h3, h4, h5, h6, h7, h8⟩ := res_yes (m := { m with answer := none, frames := rest, weight := m.weight - (1 + f.kept.marks.size), pc := f.pc, pos := f.pos, outermost := f.outermost }) hp.1 ho
    rw [e]
    refine (ih m₁ h1 hp.2 h2 h3).mono (Nat.le_refl _) fun m' q => ⟨q.1, q.2.1.trans h4, q.2.2.1.trans h5, q.2.2.2.1.trans h6, q.2.2.2.2.1.trans h7, q.2.2.2.2.2.trans h8⟩
end stack
end Mine

end

section
set_option maxRecDepth 100000
set_option linter.unusedSimpArgs false
set_option linter.unusedVariables false
namespace Mine
open PySem.Sre
open PySem hiding run Frame Kept

theorem Ends.via {n : Nat} {m : M} {R : M → Prop} {f : Sre.Seen → M} (ho : m.outcome = none) (h : ∃ sn, m.step = f sn) (k : ∀ sn, Ends n (f sn) R) : Ends (n + 1) m R := by
  obtain ⟨sn, e⟩ := h
  exact .step ho (e ▸ k sn)

noncomputable def Failed (m : M) : Prop := match m.outcome with | some .failed => True | _ => False
noncomputable def Matched (m : M) : Prop := match m.outcome with | some .matched => True | _ => False

theorem ends_fail {m : M} (ho : m.outcome = none) (ha : m.answer = some false) (hf : m.frames = []) : Ends 1 m Failed := by
  refine .step ho (.here ?_)
  rw [step_end ho ha hf]
  trivial

theorem fail_rest {code : Array Nat} {ls : Nat} (hc : code.getD 5 0 = 6) (hc1 : code.getD 6 0 = 0) (hcs : 5 < code.size) (hfs : (code.getD 2 0 == 4) = false) :
    ∀ (d s : Nat) (m : M), ls - s = d → m.code = code → m.lastStart = ls → m.outcome = none → m.answer = some false → m.weight ≤ 1 →
      (∃ o c k b, m.frames = [{ wait := .nextStart, pc := 5, pos := s, outermost := o, count := c, loop := k, began := b }]) → Ends (2 * d + 2) m Failed := by
  intro d
  induction d using Nat.strongRecOn with
  | ind d ih =>
    rintro s m hd h1 h2 h3 h4 h5 ⟨o, c, k, b, h6⟩
    have hfs' : ∀ m' : M, m'.code = code → m'.hasFirstSet = false := fun m' e => by unfold M.hasFirstSet; rw [e, hfs, Bool.and_false]
    by_cases hlt : s < ls
    · have e1 : m.step = { m with answer := none, frames := [{ wait := .nextStart, pc := 5, pos := s + 1, outermost := false }], weight := 1, pc := 5, pos := s + 1, handed := s + 1, start := s + 1, lastmark := -1, lastindex := -1, mustAdvance := false, outermost := false } := by
        rw [step_back h3 h4 h6]
        unfold M.resume
        simp only [Bool.false_eq_true, if_false, h2, hlt, if_true]
        unfold M.attemptFrom
        rw [hfs' _ (by exact h1)]
        simp only [Bool.not_false, if_true]
        unfold M.attemptAt
        rw [attempt_eq _ _ _ _ (by show m.weight - (1 + 0) + 1 + 0 ≤ _; (first | lia | omega))]
        have hw : m.weight - 1 + 1 + 0 = 1 := by (first | lia | omega)
        simp [hw]
      have hd' : 2 * d + 2 = (2 * (d - 1) + 2) + 1 + 1 := by (first | lia | omega)
      rw [hd']
      refine .step h3 ?_
      rw [e1]
      have hl : Live { m with answer := none, frames := [{ wait := .nextStart, pc := 5, pos := s + 1, outermost := false }], weight := 1, pc := 5, pos := s + 1, handed := s + 1, start := s + 1, lastmark := -1, lastindex := -1, mustAdvance := false, outermost := false } := ⟨h3, rfl, by show 5 < m.code.size; rw [h1]; exact hcs⟩
      refine .via h3 (step_at_no hl (by show m.code.getD 5 0 = 6; rw [h1]; exact hc) (by show m.code.getD 6 0 = 0; rw [h1]; exact hc1) (by show s + 1 ≠ 0; (first | lia | omega))) fun sn => ?_
      exact ih (d - 1) (by (first | lia | omega)) (s + 1) _ (by (first | lia | omega)) h1 h2 h3 rfl (Nat.le_refl _) ⟨_, _, _, _, rfl⟩
    · have e1 : m.step = { m with answer := some false, frames := [], weight := m.weight - (1 + 0), pc := 5, pos := s, outermost := o } := by
        rw [step_back h3 h4 h6]
        unfold M.resume
        simp only [Bool.false_eq_true, if_false, h2, hlt]
        rfl
      refine .step h3 ?_
      rw [e1]
      exact .mono (ends_fail h3 rfl rfl) (by (first | lia | omega)) fun _ x => x

/-- what a failing tail leaves as it was -/
structure Same (m n : M) : Prop where
  code : n.code = m.code
  text : n.text = m.text
  lim : n.lim = m.lim
  start : n.start = m.start
  lastStart : n.lastStart = m.lastStart
  whole : n.wholeText = m.wholeText
  must : n.mustAdvance = m.mustAdvance
  loops : n.loops = m.loops
  inner : n.inner = m.inner
  o : n.outcome = none
end Mine

end

section
set_option maxRecDepth 100000
set_option linter.unusedSimpArgs false
set_option linter.unusedVariables false
namespace Mine
open PySem.Sre
open PySem hiding run Frame Kept

noncomputable def C1 : Array Nat := #[14, 4, 0, 1, 4294967295, 6, 0, 24, 9, 0, 4294967295, 13, 4, 8, 12, 0, 1, 17, 0, 24, 19, 1, 4294967295, 13, 14, 21, 9, 0, 671092736, 0, 0, 0, 0, 0, 0, 8, 12, 0, 1, 17, 1, 1]
noncomputable def C2 : Array Nat := #[14, 4, 0, 3, 4294967295, 6, 0, 24, 9, 0, 4294967295, 13, 4, 8, 12, 0, 1, 16, 61, 24, 9, 0, 4294967295, 13, 4, 8, 12, 0, 1, 16, 34, 17, 0, 24, 12, 0, 4294967295, 13, 7, 21, 16, 34, 16, 92, 0, 1, 23, 19, 0, 4294967295, 16, 92, 2, 24, 12, 0, 4294967295, 13, 7, 21, 16, 34, 16, 92, 0, 1, 18, 17, 1, 16, 34, 1]
noncomputable def C3 : Array Nat := #[14, 4, 0, 1, 4294967295, 6, 0, 24, 9, 0, 4294967295, 13, 4, 8, 12, 0, 1, 16, 61, 24, 9, 0, 4294967295, 13, 4, 8, 12, 0, 1, 17, 0, 24, 14, 0, 4294967295, 13, 9, 21, 8, 12, 16, 59, 16, 44, 0, 1, 17, 1, 1]
noncomputable def C4 : Array Nat := #[14, 8, 1, 2, 2, 1, 1, 92, 0, 16, 92, 17, 0, 2, 17, 1, 1]
noncomputable def C6 : Array Nat := #[14, 4, 0, 1, 4294967295, 24, 16, 1, 4294967295, 13, 11, 9, 0, 67071226, 3355443198, 1476395007, 0, 0, 0, 0, 0, 1, 1]
noncomputable def C7 : Array Nat := #[14, 9, 4, 1, 1, 16, 34, 16, 92, 0, 17, 0, 13, 6, 16, 34, 16, 92, 0, 17, 1, 1]

/-- a sign that the name of a parameter may hold -/
noncomputable def isTok (c : Nat) : Bool := !(c == 44 || c == 59 || c == 61 || Unicode.isSpace c)

theorem cat12 (c : Nat) : category 12 c = .ok (Unicode.isSpace c) := by
  unfold category
  show (Except.ok (Unicode.isSpace c)).map (· != false) = _
  simp [Except.map]

theorem inSet_cat {code : Array Nat} {c f i : Nat} {yes : Bool} {seen : Sre.Seen} (h0 : code.getD i 0 = 8) (h1 : code.getD (i + 1) 0 = 12) :
    inSet code c (f + 1) i yes seen = if Unicode.isSpace c then .ok (yes, (seen.add 8).add 67) else inSet code c f (i + 2) yes ((seen.add 8).add 67) := by
  rw [inSet]
  simp only [Nat.add_zero, h0, h1, ops, cat12]
  cases Unicode.isSpace c <;> rfl
theorem inSet_end {code : Array Nat} {c f i : Nat} {yes : Bool} {seen : Sre.Seen} (h0 : code.getD i 0 = 0) : inSet code c (f + 1) i yes seen = .ok (!yes, seen.add 0) := by
  rw [inSet]
  simp only [Nat.add_zero, h0, ops]
  rfl
theorem inSet_neg {code : Array Nat} {c f i : Nat} {yes : Bool} {seen : Sre.Seen} (h0 : code.getD i 0 = 21) : inSet code c (f + 1) i yes seen = inSet code c f (i + 1) (!yes) (seen.add 21) := by
  rw [inSet]
  simp only [Nat.add_zero, h0, ops]
  rfl
theorem inSet_lit {code : Array Nat} {c f i k : Nat} {yes : Bool} {seen : Sre.Seen} (h0 : code.getD i 0 = 16) (h1 : code.getD (i + 1) 0 = k) : inSet code c (f + 1) i yes seen = if c == k then .ok (yes, seen.add 16) else inSet code c f (i + 2) yes (seen.add 16) := by
  rw [inSet]
  simp only [Nat.add_zero, h0, h1, ops]
  rfl
theorem inSet_charset {code : Array Nat} {c f i : Nat} {yes b : Bool} {seen : Sre.Seen} (h0 : code.getD i 0 = 9) (h1 : (decide (c < 256) && (code.getD (i + (1 + c / 32)) 0).testBit (c % 32)) = b) : inSet code c (f + 1) i yes seen = if b then .ok (yes, seen.add 9) else inSet code c f (i + 9) yes (seen.add 9) := by
  rw [inSet]
  simp only [Nat.add_zero, h0, ops, h1]
  rfl

theorem acc_in {code : Array Nat} {i c : Nat} {b : Bool} (h0 : code.getD i 0 = 13) (h : ∀ seen, ∃ sn, inSet code c code.size (i + 2) true seen = .ok (b, sn)) : Acc code i c b := by
  intro seen
  unfold accepts
  rw [h0]
  exact h seen

theorem acc_space {code : Array Nat} {i c f : Nat} (hs : code.size = f + 2) (h0 : code.getD i 0 = 13) (h1 : code.getD (i + 2) 0 = 8) (h2 : code.getD (i + 3) 0 = 12) (h3 : code.getD (i + 4) 0 = 0) : Acc code i c (Unicode.isSpace c) := by
  refine acc_in h0 fun seen => ?_
  rw [hs, inSet_cat h1 h2]
  cases h : Unicode.isSpace c
  · exact ⟨_, inSet_end h3⟩
  · exact ⟨_, rfl⟩

theorem acc1_space (c : Nat) : Acc C1 11 c (Unicode.isSpace c) := acc_space (f := 40) rfl rfl rfl rfl rfl
theorem acc2_space (c : Nat) : Acc C2 11 c (Unicode.isSpace c) := acc_space (f := 70) rfl rfl rfl rfl rfl
theorem acc2_space' (c : Nat) : Acc C2 23 c (Unicode.isSpace c) := acc_space (f := 70) rfl rfl rfl rfl rfl
theorem acc3_space (c : Nat) : Acc C3 11 c (Unicode.isSpace c) := acc_space (f := 47) rfl rfl rfl rfl rfl
theorem acc3_space' (c : Nat) : Acc C3 23 c (Unicode.isSpace c) := acc_space (f := 47) rfl rfl rfl rfl rfl

theorem charset1 (c : Nat) : (decide (c < 256) && (C1.getD (26 + (1 + c / 32)) 0).testBit (c % 32)) = (c == 44 || c == 59 || c == 61) := by
  by_cases h : c < 256
  · have : ∀ c : Fin 256, (decide (c.1 < 256) && (C1.getD (26 + (1 + c.1 / 32)) 0).testBit (c.1 % 32)) = (c.1 == 44 || c.1 == 59 || c.1 == 61) := by decide +kernel
    exact this ⟨c, h⟩
  · have h1 : (c == 44) = false := by rw [beq_eq_false_iff_ne]; (first | lia | omega)
    have h2 : (c == 59) = false := by rw [beq_eq_false_iff_ne]; (first | lia | omega)
    have h3 : (c == 61) = false := by rw [beq_eq_false_iff_ne]; (first | lia | omega)
    simp [h, h1, h2, h3]
theorem acc1_tok (c : Nat) : Acc C1 23 c (isTok c) := by
  refine acc_in rfl fun seen => ?_
  rw [show C1.size = 39 + 1 + 1 + 1 from rfl, inSet_neg (by rfl), inSet_charset (by rfl) (charset1 c)]
  unfold isTok
  cases h : (c == 44 || c == 59 || c == 61)
  · simp only [Bool.false_eq_true, if_false]
    rw [inSet_cat (by rfl) (by rfl)]
    cases h2 : Unicode.isSpace c
    · simp only [Bool.false_eq_true, if_false]
      exact ⟨_, inSet_end (by rfl)⟩
    · simp only [if_true]
      exact ⟨_, rfl⟩
  · simp only [if_true]
    exact ⟨_, rfl⟩
/-- not a mark, not a backslash -/
noncomputable def isPlain (c : Nat) : Bool := !(c == 34 || c == 92)
theorem acc2_plain {i : Nat} (c : Nat) (h0 : C2.getD i 0 = 13) (h1 : C2.getD (i + 2) 0 = 21) (h2 : C2.getD (i + 3) 0 = 16) (h3 : C2.getD (i + 4) 0 = 34) (h4 : C2.getD (i + 5) 0 = 16) (h5 : C2.getD (i + 6) 0 = 92) (h6 : C2.getD (i + 7) 0 = 0) : Acc C2 i c (isPlain c) := by
  refine acc_in h0 fun seen => ?_
  rw [show C2.size = 68 + 1 + 1 + 1 + 1 from rfl, inSet_neg h1, inSet_lit (k := 34) h2 h3]
  unfold isPlain
  cases h : (c == 34)
  · simp only [Bool.false_eq_true, if_false]
    rw [inSet_lit (k := 92) h4 h5]
    cases h' : (c == 92)
    · simp only [Bool.false_eq_true, if_false]
      exact ⟨_, inSet_end h6⟩
    · simp only [if_true]
      exact ⟨_, rfl⟩
  · simp only [if_true]
    exact ⟨_, rfl⟩
/-- a sign that a bare value may hold -/
noncomputable def isBare (c : Nat) : Bool := !(Unicode.isSpace c || c == 59 || c == 44)
theorem acc3_bare (c : Nat) : Acc C3 35 c (isBare c) := by
  refine acc_in rfl fun seen => ?_
  rw [show C3.size = 44 + 1 + 1 + 1 + 1 + 1 from rfl, inSet_neg (by rfl), inSet_cat (by rfl) (by rfl)]
  unfold isBare
  cases h : Unicode.isSpace c
  · simp only [Bool.false_eq_true, if_false]
    rw [inSet_lit (k := 59) (by rfl) (by rfl)]
    cases h' : (c == 59)
    · simp only [Bool.false_eq_true, if_false]
      rw [inSet_lit (k := 44) (by rfl) (by rfl)]
      cases h'' : (c == 44)
      · simp only [Bool.false_eq_true, if_false]
        exact ⟨_, inSet_end (by rfl)⟩
      · simp only [if_true]
        exact ⟨_, rfl⟩
    · simp only [if_true]
      exact ⟨_, rfl⟩
  · simp only [if_true]
    exact ⟨_, rfl⟩
theorem acc7 (c : Nat) : Acc C7 12 c (!(isPlain c)) := by
  refine acc_in rfl fun seen => ?_
  rw [show C7.size = 19 + 1 + 1 + 1 from rfl, inSet_lit (k := 34) (by rfl) (by rfl)]
  unfold isPlain
  cases h : (c == 34)
  · simp only [Bool.false_eq_true, if_false]
    rw [inSet_lit (k := 92) (by rfl) (by rfl)]
    cases h' : (c == 92)
    · simp only [Bool.false_eq_true, if_false]
      exact ⟨_, inSet_end (by rfl)⟩
    · simp only [if_true]
      exact ⟨_, rfl⟩
  · simp only [if_true]
    exact ⟨_, rfl⟩
/-- a sign of a written token -/
noncomputable def isWritten (c : Nat) : Bool := decide (c < 256) && (C6.getD (11 + (1 + c / 32)) 0).testBit (c % 32)
theorem acc6 (c : Nat) : Acc C6 9 c (isWritten c) := by
  refine acc_in rfl fun seen => ?_
  rw [show C6.size = 21 + 1 + 1 from rfl, inSet_charset (b := isWritten c) (by rfl) rfl]
  cases h : isWritten c
  · simp only [Bool.false_eq_true, if_false]
    exact ⟨_, inSet_end (by rfl)⟩
  · simp only [if_true]
    exact ⟨_, rfl⟩
end Mine

end

section
set_option maxRecDepth 100000
set_option linter.unusedSimpArgs false
set_option linter.unusedVariables false
namespace Mine
open PySem.Sre
open PySem hiding run Frame Kept

/-- what a run of the machine hangs on -/
structure Cfg where
  code : Array Nat
  text : Array Nat
  lim : Nat
  ls : Nat
  st : Nat
  wh : Bool
  mu : Bool
  om : Bool
  lp : Array Loop
  inn : Option Nat
  pc : Nat
  pos : Nat
  ms : Array (Option Nat)
  lm : Int
  li : Int
  fs : List Sre.Frame
  wt : Nat

structure At (m : M) (c : Cfg) : Prop where
  code : m.code = c.code
  text : m.text = c.text
  lim : m.lim = c.lim
  ls : m.lastStart = c.ls
  st : m.start = c.st
  wh : m.wholeText = c.wh
  mu : m.mustAdvance = c.mu
  om : m.outermost = c.om
  lp : m.loops = c.lp
  inn : m.inner = c.inn
  pc : m.pc = c.pc
  pos : m.pos = c.pos
  ms : m.marks = c.ms
  lm : m.lastmark = c.lm
  li : m.lastindex = c.li
  fs : m.frames = c.fs
  wt : m.weight = c.wt
  a : m.answer = none
  o : m.outcome = none

theorem At.live {m : M} {c : Cfg} (h : At m c) (hz : c.pc < c.code.size) : Live m := ⟨h.o, h.a, by rw [h.pc, h.code]; exact hz⟩
theorem At.word {m : M} {c : Cfg} (h : At m c) (k : Nat) : m.word k = c.code.getD (c.pc + k) 0 := by unfold M.word; rw [h.code, h.pc]

/-- it answered no, and stands else as it stood -/
structure No (m : M) (c : Cfg) : Prop where
  code : m.code = c.code
  text : m.text = c.text
  lim : m.lim = c.lim
  ls : m.lastStart = c.ls
  st : m.start = c.st
  wh : m.wholeText = c.wh
  mu : m.mustAdvance = c.mu
  lp : m.loops = c.lp
  inn : m.inner = c.inn
  fs : m.frames = c.fs
  wt : m.weight = c.wt
  mks : m.marks.size = c.ms.size
  a : m.answer = some false
  o : m.outcome = none

section
variable {m : M} {c : Cfg}
theorem at_at (h : At m c) (hz : c.pc < c.code.size) (h0 : c.code.getD c.pc 0 = 6) (h1 : c.code.getD (c.pc + 1) 0 = 0) (hp : c.pos = 0) : Ends 1 m (fun m' => At m' { c with pc := c.pc + 2 }) :=
  .via h.o (step_at_ok (h.live hz) ((h.word 0).trans h0) ((h.word 1).trans h1) (h.pos.trans hp)) fun sn => .here ⟨h.code, h.text, h.lim, h.ls, h.st, h.wh, h.mu, h.om, h.lp, h.inn, by show m.pc + 2 = _; rw [h.pc], h.pos, h.ms, h.lm, h.li, h.fs, h.wt, h.a, h.o⟩
theorem at_at_no (h : At m c) (hz : c.pc < c.code.size) (h0 : c.code.getD c.pc 0 = 6) (h1 : c.code.getD (c.pc + 1) 0 = 0) (hp : c.pos ≠ 0) : Ends 1 m (fun m' => No m' c) :=
  .via h.o (step_at_no (h.live hz) ((h.word 0).trans h0) ((h.word 1).trans h1) (by rw [h.pos]; exact hp)) fun sn => .here ⟨h.code, h.text, h.lim, h.ls, h.st, h.wh, h.mu, h.lp, h.inn, h.fs, h.wt, congrArg _ h.ms, rfl, h.o⟩
theorem at_lit (h : At m c) (hz : c.pc < c.code.size) (h0 : c.code.getD c.pc 0 = 16) (hp : c.pos < c.lim) (hc : c.text.getD c.pos 0 = c.code.getD (c.pc + 1) 0) : Ends 1 m (fun m' => At m' { c with pc := c.pc + 2, pos := c.pos + 1 }) :=
  .via h.o (step_lit_ok (h.live hz) ((h.word 0).trans h0) (by rw [h.pos, h.lim]; exact hp) (by rw [h.text, h.pos, h.word 1]; exact hc)) fun sn => .here ⟨h.code, h.text, h.lim, h.ls, h.st, h.wh, h.mu, h.om, h.lp, h.inn, by show m.pc + 2 = _; rw [h.pc], by show m.pos + 1 = _; rw [h.pos], h.ms, h.lm, h.li, h.fs, h.wt, h.a, h.o⟩
theorem at_lit_no (h : At m c) (hz : c.pc < c.code.size) (h0 : c.code.getD c.pc 0 = 16) (hc : c.pos < c.lim → c.text.getD c.pos 0 ≠ c.code.getD (c.pc + 1) 0) : Ends 1 m (fun m' => No m' c) :=
  .via h.o (step_lit_no (h.live hz) ((h.word 0).trans h0) (fun hp => by rw [h.pos, h.lim] at hp; rw [h.text, h.pos, h.word 1]; exact hc hp)) fun sn => .here ⟨h.code, h.text, h.lim, h.ls, h.st, h.wh, h.mu, h.lp, h.inn, h.fs, h.wt, congrArg _ h.ms, rfl, h.o⟩
theorem at_any (h : At m c) (hz : c.pc < c.code.size) (h0 : c.code.getD c.pc 0 = 2) (hp : c.pos < c.lim) (hc : c.text.getD c.pos 0 ≠ 10) : Ends 1 m (fun m' => At m' { c with pc := c.pc + 1, pos := c.pos + 1 }) :=
  .via h.o (step_any_ok (h.live hz) ((h.word 0).trans h0) (by rw [h.pos, h.lim]; exact hp) (by rw [h.text, h.pos]; exact hc)) fun sn => .here ⟨h.code, h.text, h.lim, h.ls, h.st, h.wh, h.mu, h.om, h.lp, h.inn, by show m.pc + 1 = _; rw [h.pc], by show m.pos + 1 = _; rw [h.pos], h.ms, h.lm, h.li, h.fs, h.wt, h.a, h.o⟩
theorem at_in (h : At m c) (hz : c.pc < c.code.size) (h0 : c.code.getD c.pc 0 = 13) (hp : c.pos < c.lim) (hc : Acc c.code c.pc (c.text.getD c.pos 0) true) : Ends 1 m (fun m' => At m' { c with pc := c.pc + 1 + c.code.getD (c.pc + 1) 0, pos := c.pos + 1 }) :=
  .via h.o (step_in_ok (h.live hz) ((h.word 0).trans h0) (by rw [h.pos, h.lim]; exact hp) (by rw [h.text, h.pos, h.code, h.pc]; exact hc)) fun sn => .here ⟨h.code, h.text, h.lim, h.ls, h.st, h.wh, h.mu, h.om, h.lp, h.inn, by show m.pc + 1 + m.word 1 = _; rw [h.pc, h.word 1], by show m.pos + 1 = _; rw [h.pos], h.ms, h.lm, h.li, h.fs, h.wt, h.a, h.o⟩
theorem at_mark {i : Nat} (h : At m c) (hz : c.pc < c.code.size) (h0 : c.code.getD c.pc 0 = 17) (h1 : c.code.getD (c.pc + 1) 0 = i) (hl : (i : Int) ≤ c.lm + 1) :
    Ends 1 m (fun m' => At m' { c with pc := c.pc + 2, ms := c.ms.setIfInBounds i (some c.pos), lm := max c.lm i, li := if i % 2 == 1 then (i / 2 + 1 : Nat) else c.li }) :=
  .via h.o (step_mark (i := i) (h.live hz) ((h.word 0).trans h0) ((h.word 1).trans h1) (by rw [h.lm]; exact hl)) fun sn => .here ⟨h.code, h.text, h.lim, h.ls, h.st, h.wh, h.mu, h.om, h.lp, h.inn, by show m.pc + 2 = _; rw [h.pc], h.pos, by show m.marks.setIfInBounds i (some m.pos) = _; rw [h.ms, h.pos], by show max m.lastmark _ = _; rw [h.lm], by show (if _ then _ else m.lastindex) = _; rw [h.li], h.fs, h.wt, h.a, h.o⟩
theorem at_rep {k : Nat} (h : At m c) (hz : c.pc < c.code.size) (h0 : c.code.getD c.pc 0 = 24) (h3 : c.code.getD (c.pc + 3) 0 = maxRepeat) (hl : c.lim ≤ 16777216) (hle : c.pos + k ≤ c.lim) (h2 : c.code.getD (c.pc + 2) 0 ≤ k) (h1 : ∀ j, j < k → Acc c.code (c.pc + 4) (c.text.getD (c.pos + j) 0) true)
    (hs : c.pos + k < c.lim → Acc c.code (c.pc + 4) (c.text.getD (c.pos + k) 0) false) (hi : c.inn = none) (hw : c.wt + 1 ≤ 16777216) :
    Ends 1 m (fun m' => At m' { c with pc := c.pc + 1 + c.code.getD (c.pc + 1) 0, pos := c.pos + k, wt := c.wt + 1, fs := { wait := .giveBack, pc := c.pc, pos := c.pos + k, outermost := c.om, count := k, kept := { lastmark := c.lm, lastindex := c.li } } :: c.fs }) :=
  .via h.o (step_rep (k := k) (h.live hz) ((h.word 0).trans h0) ((h.word 3).trans h3) (by rw [h.lim]; exact hl) (by rw [h.lim, h.pos]; exact hle) (by rw [h.word 2]; exact h2) (fun j hj => by rw [h.code, h.pc, h.text, h.pos]; exact h1 j hj)
    (fun hh => by rw [h.lim, h.pos] at hh; rw [h.code, h.pc, h.text, h.pos]; exact hs hh) (h.inn.trans hi) (by rw [h.wt]; exact hw)) fun sn =>
    .here ⟨h.code, h.text, h.lim, h.ls, h.st, h.wh, h.mu, h.om, h.lp, h.inn, by show m.pc + 1 + m.word 1 = _; rw [h.pc, h.word 1], by show m.pos + k = _; rw [h.pos], h.ms, h.lm, h.li, by show (_ :: m.frames) = _; rw [h.pc, h.pos, h.om, h.lm, h.li, h.fs], by show m.weight + 1 = _; rw [h.wt], h.a, h.o⟩
theorem at_rep_no (h : At m c) (hz : c.pc < c.code.size) (h0 : c.code.getD c.pc 0 = 24) (h3 : c.code.getD (c.pc + 3) 0 = maxRepeat) (h2 : c.code.getD (c.pc + 2) 0 = 1) (hl : c.pos ≤ c.lim)
    (hs : c.pos < c.lim → Acc c.code (c.pc + 4) (c.text.getD c.pos 0) false) : Ends 1 m (fun m' => No m' c) :=
  .via h.o (step_rep_no (h.live hz) ((h.word 0).trans h0) ((h.word 3).trans h3) ((h.word 2).trans h2) (by rw [h.pos, h.lim]; exact hl) (fun hh => by rw [h.lim, h.pos] at hh; rw [h.code, h.pc, h.text, h.pos]; exact hs hh)) fun sn =>
    .here ⟨h.code, h.text, h.lim, h.ls, h.st, h.wh, h.mu, h.lp, h.inn, h.fs, h.wt, congrArg _ h.ms, rfl, h.o⟩
/-- the whole is found -/
theorem at_success (h : At m c) (hz : c.pc < c.code.size) (h0 : c.code.getD c.pc 0 = 1) (hw : c.wh = true → c.om = true → c.pos = c.lim) (ha : c.mu = true → c.om = true → c.pos ≠ c.st) (hf : c.fs.all Sre.Frame.passes = true) :
    Ends (c.fs.length + 2) m (fun m' => Matched m' ∧ m'.marks = c.ms ∧ m'.lastmark = c.lm ∧ m'.lastindex = c.li ∧ m'.start = c.st ∧ m'.handed = c.pos) := by
  refine .via h.o (step_success (h.live hz) ((h.word 0).trans h0) (by rw [h.wh, h.om, h.pos, h.lim]; exact hw) (by rw [h.mu, h.om, h.pos, h.st]; exact ha)) fun sn => ?_
  refine .mono (unwind c.fs _ (by exact h.fs) hf (by exact h.o) rfl) (Nat.le_refl _) fun _ q => ⟨q.1, q.2.1.trans h.ms, q.2.2.1.trans h.lm, q.2.2.2.1.trans h.li, q.2.2.2.2.1.trans h.st, q.2.2.2.2.2.trans h.pos⟩
theorem at_success_no (h : At m c) (hz : c.pc < c.code.size) (h0 : c.code.getD c.pc 0 = 1) (hw : c.wh = true) (ho : c.om = true) (hp : c.pos ≠ c.lim) : Ends 1 m (fun m' => No m' c) :=
  .via h.o (step_success_no (h.live hz) ((h.word 0).trans h0) (h.wh.trans hw) (h.om.trans ho) (by rw [h.pos, h.lim]; exact hp)) fun sn =>
    .here ⟨h.code, h.text, h.lim, h.ls, h.st, h.wh, h.mu, h.lp, h.inn, h.fs, h.wt, congrArg _ h.ms, rfl, h.o⟩

/-- a greedy run whose tail fails wherever it ends -/
theorem at_giveBack {pcR pcT K least q wt : Nat} {lm li : Int} {fs : List Sre.Frame} (o : Bool) (hom : c.om = o) (hwt : wt < 16777216) (h2 : c.code.getD (pcR + 2) 0 = least) (h1 : pcR + 1 + c.code.getD (pcR + 1) 0 = pcT) (hpc : c.pc = pcT) (hlm : c.lm = lm) (hw : c.wt = wt + 1)
    (j : Nat) (hpos : c.pos = q + j)
    (hfs : c.fs = { wait := .giveBack, pc := pcR, pos := q + j, outermost := o, count := j, kept := { lastmark := lm, lastindex := li } } :: fs)
    (tail : ∀ (j' : Nat) (m : M) (ms : Array (Option Nat)) (li' : Int), j' ≤ j → ms.size = c.ms.size → At m { c with pos := q + j', ms := ms, li := li', fs := { wait := .giveBack, pc := pcR, pos := q + j', outermost := o, count := j', kept := { lastmark := lm, lastindex := li } } :: fs } →
      Ends K m (fun m' => No m' { c with pos := q + j', ms := ms, li := li', fs := { wait := .giveBack, pc := pcR, pos := q + j', outermost := o, count := j', kept := { lastmark := lm, lastindex := li } } :: fs }))
    (h : At m c) : Ends ((K + 1) * (j + 1)) m (fun m' => No m' { c with fs := fs, wt := wt }) := by
  obtain ⟨code, text, lim, ls, st, wh, mu, om, lp, inn, pc, pos, ms, lm', li₀, fs', wt'⟩ := c
  simp only at hom h2 h1 hpc hlm hw hpos hfs tail
  subst hom hpc hlm hw hpos hfs
  suffices H : ∀ (j' : Nat) (m : M) (ms' : Array (Option Nat)) (li' : Int), j' ≤ j → ms'.size = ms.size → At m ⟨code, text, lim, ls, st, wh, mu, om, lp, inn, pc, q + j', ms', lm', li', { wait := .giveBack, pc := pcR, pos := q + j', outermost := om, count := j', kept := { lastmark := lm', lastindex := li } } :: fs, wt + 1⟩ →
      Ends ((K + 1) * (j' + 1)) m (fun m' => No m' ⟨code, text, lim, ls, st, wh, mu, om, lp, inn, pc, q + j', ms, lm', li₀, fs, wt⟩) by
    refine (H j m ms li₀ (Nat.le_refl _) rfl h).mono (Nat.le_refl _) fun m' n => ⟨n.code, n.text, n.lim, n.ls, n.st, n.wh, n.mu, n.lp, n.inn, n.fs, n.wt, n.mks, n.a, n.o⟩
  clear h
  intro j'
  induction j' with
  | zero =>
    intro m ms' li' hj hmk h
    refine .mono (n := K + 1) (.bind (tail 0 m ms' li' hj hmk h) fun n' nn => ?_) (by (first | lia | omega)) fun _ x => x
    have hfr : n'.frames = _ := nn.fs
    have e : n'.step = { n' with answer := some false, frames := fs, weight := wt, pc := pcR, pos := q + 0, outermost := om, lastmark := lm', lastindex := li } := by
      rw [step_back nn.o nn.a hfr]
      unfold M.resume
      have h3 : n'.code.getD (pcR + 2) 0 = least := by rw [nn.code]; exact h2
      have hl : ((0 : Nat) : Int) - 1 < (least : Int) := by (first | lia | omega)
      simp only [Bool.false_eq_true, if_false, M.word, h3, hl, if_true, M.putBack, M.say]
      simp [nn.wt]
    refine .step nn.o (.here ?_)
    rw [e]
    exact ⟨nn.code, nn.text, nn.lim, nn.ls, nn.st, nn.wh, nn.mu, nn.lp, nn.inn, rfl, rfl, nn.mks.trans hmk, rfl, nn.o⟩
  | succ j' ih =>
    intro m ms' li' hj hmk h
    refine .mono (n := K + ((K + 1) * (j' + 1) + 1)) (.bind (tail (j' + 1) m ms' li' hj hmk h) fun n' nn => ?_) (by rw [Nat.mul_succ (K + 1) (j' + 1)]; (first | lia | omega)) fun _ x => x
    have hfr : n'.frames = _ := nn.fs
    have h3 : n'.code.getD (pcR + 2) 0 = least := by rw [nn.code]; exact h2
    have h4 : pcR + 1 + n'.code.getD (pcR + 1) 0 = pc := by rw [nn.code]; exact h1
    by_cases hl : ((j' + 1 : Nat) : Int) - 1 < (least : Int)
    · have e : n'.step = { n' with answer := some false, frames := fs, weight := wt, pc := pcR, pos := q + (j' + 1), outermost := om, lastmark := lm', lastindex := li } := by
        rw [step_back nn.o nn.a hfr]
        unfold M.resume
        simp only [Bool.false_eq_true, if_false, M.word, h3, hl, if_true, M.putBack, M.say]
        simp [nn.wt]
      refine .step nn.o (.here ?_)
      rw [e]
      exact ⟨nn.code, nn.text, nn.lim, nn.ls, nn.st, nn.wh, nn.mu, nn.lp, nn.inn, rfl, rfl, nn.mks.trans hmk, rfl, nn.o⟩
    · have e : n'.step = { n' with answer := none, frames := { wait := .giveBack, pc := pcR, pos := q + j', outermost := om, count := j', kept := { lastmark := lm', lastindex := li } } :: fs, weight := wt + 1, pc := pc, pos := q + j', handed := q + j', outermost := om, lastmark := lm', lastindex := li } := by
        rw [step_back nn.o nn.a hfr]
        unfold M.resume
        simp only [Bool.false_eq_true, if_false, M.word, h3, hl]
        rw [afterRun_eq _ _ (by simp [M.putBack, nn.wt]; (first | lia | omega))]
        have h5 : q + (j' + 1) - 1 = q + j' := by (first | lia | omega)
        have h6 : ((j' + 1 : Nat) : Int) - 1 = (j' : Int) := by (first | lia | omega)
        simp only [M.word, gb, M.frame, M.putBack, h4, h5, h6]
        simp [nn.wt]
      refine .step nn.o ?_
      rw [e]
      refine .mono (ih _ n'.marks li (by (first | lia | omega)) (nn.mks.trans hmk) (by exact ⟨nn.code, nn.text, nn.lim, nn.ls, nn.st, nn.wh, nn.mu, rfl, nn.lp, nn.inn, rfl, rfl, rfl, rfl, rfl, rfl, rfl, rfl, nn.o⟩)) (Nat.le_refl _) fun m' n => ⟨n.code, n.text, n.lim, n.ls, n.st, n.wh, n.mu, n.lp, n.inn, n.fs, n.wt, n.mks, n.a, n.o⟩

/-- nothing is found at the first start: nothing is found -/
theorem no_start (hc : c.code.getD 5 0 = 6) (hc1 : c.code.getD 6 0 = 0) (hcs : 5 < c.code.size) (hfs : (c.code.getD 2 0 == 4) = false) (hf : c.fs = [{ wait := .nextStart, pc := 5, pos := 0, outermost := true }]) (hw : c.wt ≤ 1) (h : No m c) : Ends (2 * c.ls + 2) m Failed :=
  fail_rest hc hc1 hcs hfs c.ls 0 m (by (first | lia | omega)) h.code h.ls h.o h.a (by rw [h.wt]; exact hw) ⟨_, _, _, _, h.fs.trans hf⟩
end

/-- where a search begins -/
noncomputable def cfg0 (code T : Array Nat) (g lim ls p : Nat) (mu : Bool) (pc : Nat) : Cfg :=
  { code := code, text := T, lim := lim, ls := ls, st := p, wh := false, mu := mu, om := true, lp := #[], inn := none, pc := pc, pos := p, ms := Array.replicate (2 * g) none, lm := -1, li := -1, fs := [{ wait := .nextStart, pc := pc, pos := p, outermost := true }], wt := 1 }

theorem start1 {T : Array Nat} {n : Nat} (h : 1 ≤ n) : At (forSearch C1 T 1 0 n false) (cfg0 C1 T 1 n n 0 false 5) := by
  have e : forSearch C1 T 1 0 n false = { code := C1, text := T, lim := n, start := 0, lastStart := n, mustAdvance := false, pc := 5, pos := 0, handed := 0, outermost := true, marks := Array.replicate (2 * 1) none, lastmark := -1, lastindex := -1, frames := [{ wait := .nextStart, pc := 5, pos := 0, outermost := true }], weight := 1, seen := ({} : Sre.Seen).add 14 } := by
    show (if (decide (0 > n) || decide (n - 0 < 1)) = true then _ else _) = _
    rw [if_neg (by simp; (first | lia | omega))]
    rfl
  rw [e]
  exact ⟨rfl, rfl, rfl, rfl, rfl, rfl, rfl, rfl, rfl, rfl, rfl, rfl, rfl, rfl, rfl, rfl, rfl, rfl, rfl⟩
theorem start1_nil {T : Array Nat} : Ends 2 (forSearch C1 T 1 0 0 false) Failed := ⟨1, by (first | lia | omega), trivial⟩
end Mine

end

section
set_option maxRecDepth 100000
set_option linter.unusedSimpArgs false
set_option linter.unusedVariables false
namespace Mine
open PySem.Sre
open PySem hiding run Frame Kept

theorem space_tok {c : Nat} (h : isTok c = true) : Unicode.isSpace c = false := by
  unfold isTok at h
  cases h' : Unicode.isSpace c
  · rfl
  · rw [h'] at h; simp at h

/-- what a search tells of the place that it found -/
structure Found (m : M) (b e : Nat) (s t : Nat) : Prop where
  ok : Matched m
  marks : m.marks = #[some b, some e]
  lm : m.lastmark = 1
  li : m.lastindex = 1
  st : m.start = s
  hd : m.handed = t

noncomputable abbrev ns0 : Frame := { wait := .nextStart, pc := 5, pos := 0, outermost := true }

/-- HEADER_TOKEN_RE finds a name -/
theorem tok_ok {T : Array Nat} {a b : Nat} (hn : T.size ≤ 1000000) (hab : a < b) (hb : b ≤ T.size) (hsp : ∀ j, j < a → Unicode.isSpace (T.getD j 0) = true) (htk : ∀ j, a ≤ j → j < b → isTok (T.getD j 0) = true) (hend : b < T.size → isTok (T.getD b 0) = false) :
    Ends 20 (forSearch C1 T 1 0 T.size false) (fun m => Found m a b 0 b) := by
  have hsa := space_tok (htk a (Nat.le_refl _) hab)
  refine .mono (n := 1 + (1 + (1 + (1 + (1 + 5))))) ?_ (by decide) fun _ x => x
  refine .bind (at_at (start1 (by (first | lia | omega))) (by dsimp only [cfg0]; decide) rfl rfl rfl) fun m1 h1 => ?_
  have h1 : At m1 ⟨C1, T, T.size, T.size, 0, false, false, true, #[], none, 7, 0, #[none, none], -1, -1, [ns0], 1⟩ := h1
  refine .bind (at_rep (k := a) h1 (by dsimp only [cfg0]; decide) rfl rfl (by show T.size ≤ _; (first | lia | omega)) (by show 0 + a ≤ T.size; (first | lia | omega)) (Nat.zero_le _) (fun j hj => ?_) (fun _ => ?_) rfl (by dsimp only [cfg0]; decide)) fun m2 h2 => ?_
  · have := acc1_space (T.getD (0 + j) 0); rw [Nat.zero_add, hsp j hj] at this; show Acc C1 11 (T.getD (0 + j) 0) true; rw [Nat.zero_add]; exact this
  · have := acc1_space (T.getD (0 + a) 0); rw [Nat.zero_add, hsa] at this; show Acc C1 11 (T.getD (0 + a) 0) false; rw [Nat.zero_add]; exact this
  have h2 : At m2 ⟨C1, T, T.size, T.size, 0, false, false, true, #[], none, 17, 0 + a, #[none, none], -1, -1, [{ wait := .giveBack, pc := 7, pos := 0 + a, outermost := true, count := a, kept := { lastmark := -1, lastindex := -1 } }, ns0], 2⟩ := h2
  refine .bind (at_mark (i := 0) h2 (by show 17 < C1.size; decide) rfl rfl (by dsimp only [cfg0]; decide)) fun m3 h3 => ?_
  have h3 : At m3 ⟨C1, T, T.size, T.size, 0, false, false, true, #[], none, 19, 0 + a, #[some (0 + a), none], 0, -1, [{ wait := .giveBack, pc := 7, pos := 0 + a, outermost := true, count := a, kept := { lastmark := -1, lastindex := -1 } }, ns0], 2⟩ := h3
  refine .bind (at_rep (k := b - a) h3 (by show 19 < C1.size; decide) rfl rfl (by show T.size ≤ _; (first | lia | omega)) (by show 0 + a + (b - a) ≤ T.size; (first | lia | omega)) (by show 1 ≤ b - a; (first | lia | omega)) (fun j hj => ?_) (fun h => ?_) rfl (by show 2 + 1 ≤ _; decide)) fun m4 h4 => ?_
  · have := acc1_tok (T.getD (0 + a + j) 0); rw [htk (0 + a + j) (by (first | lia | omega)) (by (first | lia | omega))] at this; exact this
  · have e : 0 + a + (b - a) = b := by (first | lia | omega)
    have h' : 0 + a + (b - a) < T.size := h
    rw [e] at h'
    have := acc1_tok (T.getD (0 + a + (b - a)) 0)
    rw [e, hend h'] at this
    show Acc C1 23 (T.getD (0 + a + (b - a)) 0) false
    rw [e]; exact this
  have e : 0 + a + (b - a) = b := by (first | lia | omega)
  have h4 : At m4 ⟨C1, T, T.size, T.size, 0, false, false, true, #[], none, 39, 0 + a + (b - a), #[some (0 + a), none], 0, -1, [{ wait := .giveBack, pc := 19, pos := 0 + a + (b - a), outermost := true, count := ((b - a : Nat) : Int), kept := { lastmark := 0, lastindex := -1 } }, { wait := .giveBack, pc := 7, pos := 0 + a, outermost := true, count := a, kept := { lastmark := -1, lastindex := -1 } }, ns0], 3⟩ := h4
  refine .bind (at_mark (i := 1) h4 (by show 39 < C1.size; decide) rfl rfl (by dsimp only [cfg0]; decide)) fun m5 h5 => ?_
  have h5 : At m5 ⟨C1, T, T.size, T.size, 0, false, false, true, #[], none, 41, 0 + a + (b - a), #[some (0 + a), some (0 + a + (b - a))], 1, 1, [{ wait := .giveBack, pc := 19, pos := 0 + a + (b - a), outermost := true, count := ((b - a : Nat) : Int), kept := { lastmark := 0, lastindex := -1 } }, { wait := .giveBack, pc := 7, pos := 0 + a, outermost := true, count := a, kept := { lastmark := -1, lastindex := -1 } }, ns0], 3⟩ := h5
  refine .mono (at_success h5 (by show 41 < C1.size; decide) rfl (fun h => by cases h) (fun h => by cases h) rfl) (Nat.le_refl _) fun m' q => ⟨q.1, ?_, q.2.2.1, q.2.2.2.1, q.2.2.2.2.1, ?_⟩
  · rw [q.2.1, e, Nat.zero_add]
  · rw [q.2.2.2.2.2]; exact e

/-- HEADER_TOKEN_RE finds none -/
theorem tok_no {T : Array Nat} {a : Nat} (hn : T.size ≤ 1000000) (ha : a ≤ T.size) (hsp : ∀ j, j < a → Unicode.isSpace (T.getD j 0) = true) (hend : a < T.size → isTok (T.getD a 0) = false ∧ Unicode.isSpace (T.getD a 0) = false) :
    Ends (6 * T.size + 20) (forSearch C1 T 1 0 T.size false) Failed := by
  by_cases h0 : T.size = 0
  · rw [h0]; exact start1_nil.mono (by (first | lia | omega)) fun _ x => x
  refine .mono (n := 1 + (1 + ((2 + 1) * (a + 1) + (2 * T.size + 2)))) ?_ (by (first | lia | omega)) fun _ x => x
  refine .bind (at_at (start1 (by (first | lia | omega))) (by dsimp only [cfg0]; decide) rfl rfl rfl) fun m1 h1 => ?_
  have h1 : At m1 ⟨C1, T, T.size, T.size, 0, false, false, true, #[], none, 7, 0, #[none, none], -1, -1, [ns0], 1⟩ := h1
  refine .bind (at_rep (k := a) h1 (by dsimp only [cfg0]; decide) rfl rfl (by show T.size ≤ _; (first | lia | omega)) (by show 0 + a ≤ T.size; (first | lia | omega)) (Nat.zero_le _) (fun j hj => ?_) (fun h => ?_) rfl (by dsimp only [cfg0]; decide)) fun m2 h2 => ?_
  · have := acc1_space (T.getD (0 + j) 0); rw [Nat.zero_add, hsp j hj] at this; show Acc C1 11 (T.getD (0 + j) 0) true; rw [Nat.zero_add]; exact this
  · have h' : 0 + a < T.size := h
    have := acc1_space (T.getD (0 + a) 0); rw [Nat.zero_add, (hend (by (first | lia | omega))).2] at this; show Acc C1 11 (T.getD (0 + a) 0) false; rw [Nat.zero_add]; exact this
  have h2 : At m2 ⟨C1, T, T.size, T.size, 0, false, false, true, #[], none, 17, 0 + a, #[none, none], -1, -1, [{ wait := .giveBack, pc := 7, pos := 0 + a, outermost := true, count := a, kept := { lastmark := -1, lastindex := -1 } }, ns0], 2⟩ := h2
  refine .bind (at_giveBack (pcR := 7) (pcT := 17) (K := 2) (least := 0) (q := 0) (wt := 1) (lm := -1) (li := -1) (fs := [ns0]) true rfl (by decide) rfl rfl rfl rfl rfl a rfl rfl ?_ h2) fun m3 h3 => ?_
  · intro j m ms li' hj hms h
    refine .bind (n := 1) (n' := 1) (at_mark (i := 0) h (by show 17 < C1.size; decide) rfl rfl (by show (0 : Int) ≤ -1 + 1; decide)) fun m4 h4 => ?_
    refine .mono (at_rep_no h4 (by show 19 < C1.size; decide) rfl rfl rfl (by show 0 + j ≤ T.size; (first | lia | omega)) fun hh => ?_) (Nat.le_refl _) fun m' n => ⟨n.code, n.text, n.lim, n.ls, n.st, n.wh, n.mu, n.lp, n.inn, n.fs, n.wt, n.mks.trans (Array.size_setIfInBounds ..), n.a, n.o⟩
    have hh' : 0 + j < T.size := hh
    have hf : isTok (T.getD (0 + j) 0) = false := by
      rw [Nat.zero_add]
      rcases Nat.lt_or_eq_of_le hj with q | q
      · cases h' : isTok (T.getD j 0)
        · rfl
        · have := space_tok h'; rw [hsp j q] at this; cases this
      · rw [q]; exact (hend (by (first | lia | omega))).1
    have := acc1_tok (T.getD (0 + j) 0)
    rw [hf] at this
    exact this
  · exact no_start rfl rfl (by show 5 < C1.size; decide) rfl rfl (Nat.le_refl _) h3
end Mine

end

section
set_option maxRecDepth 100000
set_option linter.unusedSimpArgs false
set_option linter.unusedVariables false
namespace Mine
open PySem.Sre
open PySem hiding run Frame Kept

theorem start3 {T : Array Nat} {n : Nat} (h : 1 ≤ n) : At (forSearch C3 T 1 0 n false) (cfg0 C3 T 1 n n 0 false 5) := by
  have e : forSearch C3 T 1 0 n false = { code := C3, text := T, lim := n, start := 0, lastStart := n, mustAdvance := false, pc := 5, pos := 0, handed := 0, outermost := true, marks := Array.replicate (2 * 1) none, lastmark := -1, lastindex := -1, frames := [{ wait := .nextStart, pc := 5, pos := 0, outermost := true }], weight := 1, seen := ({} : Sre.Seen).add 14 } := by
    show (if (decide (0 > n) || decide (n - 0 < 1)) = true then _ else _) = _
    rw [if_neg (by simp; (first | lia | omega))]
    rfl
  rw [e]
  exact ⟨rfl, rfl, rfl, rfl, rfl, rfl, rfl, rfl, rfl, rfl, rfl, rfl, rfl, rfl, rfl, rfl, rfl, rfl, rfl⟩
theorem start3_nil {T : Array Nat} : Ends 2 (forSearch C3 T 1 0 0 false) Failed := ⟨1, by (first | lia | omega), trivial⟩
theorem start2 {T : Array Nat} {n : Nat} (h : 3 ≤ n) : At (forSearch C2 T 1 0 n false) (cfg0 C2 T 1 n (max 0 (n - 2)) 0 false 5) := by
  have e : forSearch C2 T 1 0 n false = { code := C2, text := T, lim := n, start := 0, lastStart := max 0 (n - 2), mustAdvance := false, pc := 5, pos := 0, handed := 0, outermost := true, marks := Array.replicate (2 * 1) none, lastmark := -1, lastindex := -1, frames := [{ wait := .nextStart, pc := 5, pos := 0, outermost := true }], weight := 1, seen := ({} : Sre.Seen).add 14 } := by
    show (if (decide (0 > n) || decide (n - 0 < 3)) = true then _ else _) = _
    rw [if_neg (by simp; (first | lia | omega))]
    rfl
  rw [e]
  exact ⟨rfl, rfl, rfl, rfl, rfl, rfl, rfl, rfl, rfl, rfl, rfl, rfl, rfl, rfl, rfl, rfl, rfl, rfl, rfl⟩
theorem start2_nil {T : Array Nat} {n : Nat} (h : n < 3) : Ends 2 (forSearch C2 T 1 0 n false) Failed := by
  have : n = 0 ∨ n = 1 ∨ n = 2 := by (first | lia | omega)
  rcases this with rfl | rfl | rfl <;> exact ⟨1, by (first | lia | omega), trivial⟩

theorem space_eq : Unicode.isSpace 61 = false := by decide +kernel
theorem space_mark : Unicode.isSpace 34 = false := by decide +kernel
theorem space_slash : Unicode.isSpace 92 = false := by decide +kernel

/-- the head ^\s*= does not fit -/
theorem eq_no {C T : Array Nat} {g ls a : Nat} {m : M} (hC : C.getD 5 0 = 6 ∧ C.getD 6 0 = 0 ∧ C.getD 7 0 = 24 ∧ C.getD 8 0 = 9 ∧ C.getD 9 0 = 0 ∧ C.getD 10 0 = maxRepeat ∧ C.getD 17 0 = 16 ∧ C.getD 18 0 = 61 ∧ (C.getD 2 0 == 4) = false ∧ 17 < C.size)
    (hacc : ∀ c, Acc C 11 c (Unicode.isSpace c)) (hn : T.size ≤ 1000000) (ha : a ≤ T.size) (hsp : ∀ j, j < a → Unicode.isSpace (T.getD j 0) = true) (hend : a < T.size → T.getD a 0 ≠ 61 ∧ Unicode.isSpace (T.getD a 0) = false)
    (h0 : At m (cfg0 C T g T.size ls 0 false 5)) : Ends (2 * a + 2 * ls + 20) m Failed := by
  obtain ⟨c5, c6, c7, c8, c9, c10, c17, c18, c2, hz⟩ := hC
  refine .mono (n := 1 + (1 + ((1 + 1) * (a + 1) + (2 * ls + 2)))) ?_ (by (first | lia | omega)) fun _ x => x
  refine .bind (at_at h0 (by show 5 < C.size; (first | lia | omega)) c5 c6 rfl) fun m1 h1 => ?_
  have h1 : At m1 ⟨C, T, T.size, ls, 0, false, false, true, #[], none, 7, 0, Array.replicate (2 * g) none, -1, -1, [ns0], 1⟩ := h1
  refine .bind (at_rep (k := a) h1 (by show 7 < C.size; (first | lia | omega)) c7 c10 (by show T.size ≤ _; (first | lia | omega)) (by show 0 + a ≤ T.size; (first | lia | omega)) (by rw [show C.getD (7 + 2) 0 = 0 from c9]; (first | lia | omega)) (fun j hj => ?_) (fun h => ?_) rfl (by dsimp only; decide)) fun m2 h2 => ?_
  · have := hacc (T.getD (0 + j) 0); rw [Nat.zero_add, hsp j hj] at this; show Acc C 11 (T.getD (0 + j) 0) true; rw [Nat.zero_add]; exact this
  · have h' : 0 + a < T.size := h
    have := hacc (T.getD (0 + a) 0); rw [Nat.zero_add, (hend (by (first | lia | omega))).2] at this; show Acc C 11 (T.getD (0 + a) 0) false; rw [Nat.zero_add]; exact this
  have h2 : At m2 ⟨C, T, T.size, ls, 0, false, false, true, #[], none, 7 + 1 + C.getD 8 0, 0 + a, Array.replicate (2 * g) none, -1, -1, [{ wait := .giveBack, pc := 7, pos := 0 + a, outermost := true, count := a, kept := { lastmark := -1, lastindex := -1 } }, ns0], 2⟩ := h2
  rw [c8] at h2
  refine .bind (at_giveBack (pcR := 7) (pcT := 17) (K := 1) (least := 0) (q := 0) (wt := 1) (lm := -1) (li := -1) (fs := [ns0]) true rfl (by decide) c9 (by rw [show C.getD (7 + 1) 0 = 9 from c8]) rfl rfl rfl a rfl rfl ?_ h2) fun m3 h3 => ?_
  · intro j m ms li' hj hms h
    refine at_lit_no h hz c17 fun hh => ?_
    have hh' : 0 + j < T.size := hh
    show T.getD (0 + j) 0 ≠ C.getD 18 0
    rw [Nat.zero_add, c18]
    rcases Nat.lt_or_eq_of_le hj with q | q
    · intro e; have := hsp j q; rw [e, space_eq] at this; cases this
    · rw [q]; exact (hend (by (first | lia | omega))).1
  · exact no_start c5 c6 (by show 5 < C.size; (first | lia | omega)) c2 rfl (Nat.le_refl _) h3

/-- HEADER_VALUE_RE finds no value -/
theorem val_no {T : Array Nat} {a : Nat} (hn : T.size ≤ 1000000) (ha : a ≤ T.size) (hsp : ∀ j, j < a → Unicode.isSpace (T.getD j 0) = true) (hend : a < T.size → T.getD a 0 ≠ 61 ∧ Unicode.isSpace (T.getD a 0) = false) :
    Ends (4 * T.size + 20) (forSearch C3 T 1 0 T.size false) Failed := by
  by_cases h0 : T.size = 0
  · rw [h0]; exact start3_nil.mono (by (first | lia | omega)) fun _ x => x
  · exact (eq_no ⟨rfl, rfl, rfl, rfl, rfl, rfl, rfl, rfl, rfl, by decide⟩ acc3_space hn ha hsp hend (start3 (by (first | lia | omega)))).mono (by (first | lia | omega)) fun _ x => x
/-- HEADER_QUOTED_VALUE_RE finds no = -/
theorem quo_no1 {T : Array Nat} {a : Nat} (hn : T.size ≤ 1000000) (ha : a ≤ T.size) (hsp : ∀ j, j < a → Unicode.isSpace (T.getD j 0) = true) (hend : a < T.size → T.getD a 0 ≠ 61 ∧ Unicode.isSpace (T.getD a 0) = false) :
    Ends (4 * T.size + 20) (forSearch C2 T 1 0 T.size false) Failed := by
  by_cases h0 : T.size < 3
  · exact (start2_nil h0).mono (by (first | lia | omega)) fun _ x => x
  · exact (eq_no ⟨rfl, rfl, rfl, rfl, rfl, rfl, rfl, rfl, rfl, by decide⟩ acc2_space hn ha hsp hend (start2 (by (first | lia | omega)))).mono (by (first | lia | omega)) fun _ x => x

/-- HEADER_QUOTED_VALUE_RE finds an = and no mark -/
theorem quo_no2 {T : Array Nat} {a : Nat} (hn : T.size ≤ 1000000) (ha : 1 + a ≤ T.size) (h61 : T.getD 0 0 = 61) (hsp : ∀ j, j < a → Unicode.isSpace (T.getD (1 + j) 0) = true) (hend : 1 + a < T.size → T.getD (1 + a) 0 ≠ 34 ∧ Unicode.isSpace (T.getD (1 + a) 0) = false) :
    Ends (4 * T.size + 40) (forSearch C2 T 1 0 T.size false) Failed := by
  by_cases h0 : T.size < 3
  · exact (start2_nil h0).mono (by (first | lia | omega)) fun _ x => x
  refine .mono (n := 1 + (1 + ((1 + (1 + ((1 + 1) * (a + 1))) + 1) * (0 + 1) + (2 * (max 0 (T.size - 2)) + 2)))) ?_ (by (first | lia | omega)) fun _ x => x
  refine .bind (at_at (start2 (by (first | lia | omega))) (by dsimp only [cfg0]; decide) rfl rfl rfl) fun m1 h1 => ?_
  have h1 : At m1 ⟨C2, T, T.size, max 0 (T.size - 2), 0, false, false, true, #[], none, 7, 0, #[none, none], -1, -1, [ns0], 1⟩ := h1
  refine .bind (at_rep (k := 0) h1 (by dsimp only; decide) rfl rfl (by show T.size ≤ _; (first | lia | omega)) (by show 0 + 0 ≤ T.size; (first | lia | omega)) (Nat.le_refl _) (fun j hj => by (first | lia | omega)) (fun h => ?_) rfl (by dsimp only; decide)) fun m2 h2 => ?_
  · have := acc2_space (T.getD 0 0); rw [h61, space_eq] at this; show Acc C2 11 (T.getD (0 + 0) 0) false; rw [Nat.zero_add, h61]; exact this
  have h2 : At m2 ⟨C2, T, T.size, max 0 (T.size - 2), 0, false, false, true, #[], none, 17, 0 + 0, #[none, none], -1, -1, [{ wait := .giveBack, pc := 7, pos := 0 + 0, outermost := true, count := (0 : Nat), kept := { lastmark := -1, lastindex := -1 } }, ns0], 2⟩ := h2
  refine .bind (at_giveBack (pcR := 7) (pcT := 17) (K := 1 + (1 + ((1 + 1) * (a + 1)))) (least := 0) (q := 0) (wt := 1) (lm := -1) (li := -1) (fs := [ns0]) true rfl (by decide) rfl rfl rfl rfl rfl 0 rfl rfl ?_ h2) fun m3 h3 => ?_
  · intro j m ms li' hj hms h
    obtain rfl : j = 0 := by (first | lia | omega)
    have h : At m ⟨C2, T, T.size, max 0 (T.size - 2), 0, false, false, true, #[], none, 17, 0, ms, -1, li', [{ wait := .giveBack, pc := 7, pos := 0 + 0, outermost := true, count := (0 : Nat), kept := { lastmark := -1, lastindex := -1 } }, ns0], 2⟩ := h
    refine .bind (at_lit h (by show 17 < C2.size; decide) rfl (by show 0 < T.size; (first | lia | omega)) h61) fun m4 h4 => ?_
    have h4 : At m4 ⟨C2, T, T.size, max 0 (T.size - 2), 0, false, false, true, #[], none, 19, 1, ms, -1, li', [{ wait := .giveBack, pc := 7, pos := 0 + 0, outermost := true, count := (0 : Nat), kept := { lastmark := -1, lastindex := -1 } }, ns0], 2⟩ := h4
    refine .bind (at_rep (k := a) h4 (by show 19 < C2.size; decide) rfl rfl (by show T.size ≤ _; (first | lia | omega)) ha (Nat.zero_le _) (fun j hj => ?_) (fun h => ?_) rfl (by show 2 + 1 ≤ 16777216; decide)) fun m5 h5 => ?_
    · have := acc2_space' (T.getD (1 + j) 0); rw [hsp j hj] at this; exact this
    · have := acc2_space' (T.getD (1 + a) 0); rw [(hend h).2] at this; exact this
    have h5 : At m5 ⟨C2, T, T.size, max 0 (T.size - 2), 0, false, false, true, #[], none, 29, 1 + a, ms, -1, li', [{ wait := .giveBack, pc := 19, pos := 1 + a, outermost := true, count := a, kept := { lastmark := -1, lastindex := li' } }, { wait := .giveBack, pc := 7, pos := 0 + 0, outermost := true, count := (0 : Nat), kept := { lastmark := -1, lastindex := -1 } }, ns0], 3⟩ := h5
    refine .mono (at_giveBack (pcR := 19) (pcT := 29) (K := 1) (least := 0) (q := 1) (wt := 2) (lm := -1) (li := li') (fs := [{ wait := .giveBack, pc := 7, pos := 0 + 0, outermost := true, count := (0 : Nat), kept := { lastmark := -1, lastindex := -1 } }, ns0]) true rfl (by decide) rfl rfl rfl rfl rfl a rfl rfl ?_ h5) (Nat.le_refl _) fun m' n => ⟨n.code, n.text, n.lim, n.ls, n.st, n.wh, n.mu, n.lp, n.inn, n.fs, n.wt, n.mks, n.a, n.o⟩
    intro j m ms' li'' hj hms' h
    refine at_lit_no h (by show 29 < C2.size; decide) rfl fun hh => ?_
    have hh' : 1 + j < T.size := hh
    show T.getD (1 + j) 0 ≠ 34
    rcases Nat.lt_or_eq_of_le hj with q | q
    · intro e; have := hsp j q; rw [e, space_mark] at this; cases this
    · rw [q]; exact (hend (by (first | lia | omega))).1
  · exact no_start rfl rfl (by show 5 < C2.size; decide) rfl rfl (Nat.le_refl _) h3

/-- HEADER_VALUE_RE finds a bare value -/
theorem val_ok {T : Array Nat} {a e : Nat} (hn : T.size ≤ 1000000) (he : 1 + a ≤ e) (heT : e ≤ T.size) (h61 : T.getD 0 0 = 61) (hsp : ∀ j, j < a → Unicode.isSpace (T.getD (1 + j) 0) = true) (hns : 1 + a < T.size → Unicode.isSpace (T.getD (1 + a) 0) = false)
    (hb : ∀ j, 1 + a ≤ j → j < e → isBare (T.getD j 0) = true) (hend : e < T.size → isBare (T.getD e 0) = false) :
    Ends 20 (forSearch C3 T 1 0 T.size false) (fun m => Found m (1 + a) e 0 e) := by
  have ee : 1 + a + (e - (1 + a)) = e := by (first | lia | omega)
  refine .mono (n := 1 + (1 + (1 + (1 + (1 + (1 + (1 + 6))))))) ?_ (by decide) fun _ x => x
  refine .bind (at_at (start3 (by (first | lia | omega))) (by dsimp only [cfg0]; decide) rfl rfl rfl) fun m1 h1 => ?_
  have h1 : At m1 ⟨C3, T, T.size, T.size, 0, false, false, true, #[], none, 7, 0, #[none, none], -1, -1, [ns0], 1⟩ := h1
  refine .bind (at_rep (k := 0) h1 (by dsimp only; decide) rfl rfl (by show T.size ≤ _; (first | lia | omega)) (by show 0 + 0 ≤ T.size; (first | lia | omega)) (Nat.le_refl _) (fun j hj => by (first | lia | omega)) (fun h => ?_) rfl (by dsimp only; decide)) fun m2 h2 => ?_
  · have := acc3_space (T.getD 0 0); rw [h61, space_eq] at this; show Acc C3 11 (T.getD (0 + 0) 0) false; rw [Nat.zero_add, h61]; exact this
  have h2 : At m2 ⟨C3, T, T.size, T.size, 0, false, false, true, #[], none, 17, 0, #[none, none], -1, -1, [{ wait := .giveBack, pc := 7, pos := 0, outermost := true, count := (0 : Nat), kept := { lastmark := -1, lastindex := -1 } }, ns0], 2⟩ := h2
  refine .bind (at_lit h2 (by show 17 < C3.size; decide) rfl (by show 0 < T.size; (first | lia | omega)) h61) fun m4 h4 => ?_
  have h4 : At m4 ⟨C3, T, T.size, T.size, 0, false, false, true, #[], none, 19, 1, #[none, none], -1, -1, [{ wait := .giveBack, pc := 7, pos := 0, outermost := true, count := (0 : Nat), kept := { lastmark := -1, lastindex := -1 } }, ns0], 2⟩ := h4
  refine .bind (at_rep (k := a) h4 (by show 19 < C3.size; decide) rfl rfl (by show T.size ≤ _; (first | lia | omega)) (by show 1 + a ≤ T.size; (first | lia | omega)) (Nat.zero_le _) (fun j hj => ?_) (fun h => ?_) rfl (by show 2 + 1 ≤ 16777216; decide)) fun m5 h5 => ?_
  · have := acc3_space' (T.getD (1 + j) 0); rw [hsp j hj] at this; exact this
  · have := acc3_space' (T.getD (1 + a) 0); rw [hns h] at this; exact this
  have h5 : At m5 ⟨C3, T, T.size, T.size, 0, false, false, true, #[], none, 29, 1 + a, #[none, none], -1, -1, [{ wait := .giveBack, pc := 19, pos := 1 + a, outermost := true, count := a, kept := { lastmark := -1, lastindex := -1 } }, { wait := .giveBack, pc := 7, pos := 0, outermost := true, count := (0 : Nat), kept := { lastmark := -1, lastindex := -1 } }, ns0], 3⟩ := h5
  refine .bind (at_mark (i := 0) h5 (by show 29 < C3.size; decide) rfl rfl (by show (0 : Int) ≤ -1 + 1; decide)) fun m6 h6 => ?_
  have h6 : At m6 ⟨C3, T, T.size, T.size, 0, false, false, true, #[], none, 31, 1 + a, #[some (1 + a), none], 0, -1, [{ wait := .giveBack, pc := 19, pos := 1 + a, outermost := true, count := a, kept := { lastmark := -1, lastindex := -1 } }, { wait := .giveBack, pc := 7, pos := 0, outermost := true, count := (0 : Nat), kept := { lastmark := -1, lastindex := -1 } }, ns0], 3⟩ := h6
  refine .bind (at_rep (k := e - (1 + a)) h6 (by show 31 < C3.size; decide) rfl rfl (by show T.size ≤ _; (first | lia | omega)) (by show 1 + a + (e - (1 + a)) ≤ T.size; (first | lia | omega)) (Nat.zero_le _) (fun j hj => ?_) (fun h => ?_) rfl (by show 3 + 1 ≤ 16777216; decide)) fun m7 h7 => ?_
  · have := acc3_bare (T.getD (1 + a + j) 0); rw [hb (1 + a + j) (by (first | lia | omega)) (by (first | lia | omega))] at this; exact this
  · have h' : 1 + a + (e - (1 + a)) < T.size := h
    rw [ee] at h'
    have := acc3_bare (T.getD e 0)
    rw [hend h'] at this
    show Acc C3 35 (T.getD (1 + a + (e - (1 + a))) 0) false
    rw [ee]; exact this
  have h7 : At m7 ⟨C3, T, T.size, T.size, 0, false, false, true, #[], none, 46, 1 + a + (e - (1 + a)), #[some (1 + a), none], 0, -1, [{ wait := .giveBack, pc := 31, pos := 1 + a + (e - (1 + a)), outermost := true, count := ((e - (1 + a) : Nat) : Int), kept := { lastmark := 0, lastindex := -1 } }, { wait := .giveBack, pc := 19, pos := 1 + a, outermost := true, count := a, kept := { lastmark := -1, lastindex := -1 } }, { wait := .giveBack, pc := 7, pos := 0, outermost := true, count := (0 : Nat), kept := { lastmark := -1, lastindex := -1 } }, ns0], 4⟩ := h7
  refine .bind (at_mark (i := 1) h7 (by show 46 < C3.size; decide) rfl rfl (by show (1 : Int) ≤ 0 + 1; decide)) fun m8 h8 => ?_
  have h8 : At m8 ⟨C3, T, T.size, T.size, 0, false, false, true, #[], none, 48, 1 + a + (e - (1 + a)), #[some (1 + a), some (1 + a + (e - (1 + a)))], 1, 1, [{ wait := .giveBack, pc := 31, pos := 1 + a + (e - (1 + a)), outermost := true, count := ((e - (1 + a) : Nat) : Int), kept := { lastmark := 0, lastindex := -1 } }, { wait := .giveBack, pc := 19, pos := 1 + a, outermost := true, count := a, kept := { lastmark := -1, lastindex := -1 } }, { wait := .giveBack, pc := 7, pos := 0, outermost := true, count := (0 : Nat), kept := { lastmark := -1, lastindex := -1 } }, ns0], 4⟩ := h8
  refine .mono (at_success h8 (by show 48 < C3.size; decide) rfl (fun h => by cases h) (fun h => by cases h) rfl) (Nat.le_refl _) fun m' q => ⟨q.1, ?_, q.2.2.1, q.2.2.2.1, q.2.2.2.2.1, ?_⟩
  · rw [q.2.1, ee]
  · rw [q.2.2.2.2.2]; exact ee
end Mine

end

section
set_option maxRecDepth 100000
set_option linter.unusedSimpArgs false
set_option linter.unusedVariables false
namespace Mine
open PySem.Sre
open PySem hiding run Frame Kept

section
variable {m : M} {c : Cfg}
/-- a run inside a group that repeats -/
theorem at_repK {k : Nat} {kept : Sre.Kept} (h : At m c) (hz : c.pc < c.code.size) (h0 : c.code.getD c.pc 0 = 24) (h3 : c.code.getD (c.pc + 3) 0 = maxRepeat) (hl : c.lim ≤ 16777216) (hle : c.pos + k ≤ c.lim) (h2 : c.code.getD (c.pc + 2) 0 ≤ k) (h1 : ∀ j, j < k → Acc c.code (c.pc + 4) (c.text.getD (c.pos + j) 0) true)
    (hs : c.pos + k < c.lim → Acc c.code (c.pc + 4) (c.text.getD (c.pos + k) 0) false) (hk : kept = { lastmark := c.lm, lastindex := c.li, whole := c.inn.isSome, marks := if c.inn.isSome then c.ms.extract 0 (c.lm + 1).toNat else #[] }) (hw : c.wt + 1 + kept.marks.size ≤ 16777216) :
    Ends 1 m (fun m' => At m' { c with pc := c.pc + 1 + c.code.getD (c.pc + 1) 0, pos := c.pos + k, wt := c.wt + 1 + kept.marks.size, fs := { wait := .giveBack, pc := c.pc, pos := c.pos + k, outermost := c.om, count := k, kept := kept } :: c.fs }) :=
  .via h.o (step_repK (k := k) (kept := kept) (h.live hz) ((h.word 0).trans h0) ((h.word 3).trans h3) (by rw [h.lim]; exact hl) (by rw [h.lim, h.pos]; exact hle) (by rw [h.word 2]; exact h2) (fun j hj => by rw [h.code, h.pc, h.text, h.pos]; exact h1 j hj)
    (fun hh => by rw [h.lim, h.pos] at hh; rw [h.code, h.pc, h.text, h.pos]; exact hs hh) (by rw [hk]; unfold M.keep; rw [h.lm, h.li, h.inn, h.ms]) (by rw [h.wt]; exact hw)) fun sn =>
    .here ⟨h.code, h.text, h.lim, h.ls, h.st, h.wh, h.mu, h.om, h.lp, h.inn, by show m.pc + 1 + m.word 1 = _; rw [h.pc, h.word 1], by show m.pos + k = _; rw [h.pos], h.ms, h.lm, h.li, by show (_ :: m.frames) = _; rw [h.pc, h.pos, h.om, h.fs], by show m.weight + 1 + _ = _; rw [h.wt], h.a, h.o⟩

/-- a group that repeats begins -/
theorem at_repeat (h : At m c) (hz : c.pc < c.code.size) (h0 : c.code.getD c.pc 0 = 23) (hlp : c.lp = #[]) (hw : c.wt + 1 ≤ 16777216) :
    Ends 1 m (fun m' => At m' { c with lp := #[{ pc := c.pc, outer := c.inn }], inn := some 0, pc := c.pc + 1 + c.code.getD (c.pc + 1) 0, wt := c.wt + 1, fs := { wait := .closeLoop, pc := c.pc, pos := c.pos, outermost := c.om, loop := 0 } :: c.fs }) := by
  have e : m.exec = M.attempt { m with seen := m.seen.add 23, loops := m.loops.push { pc := m.pc, outer := m.inner }, inner := some m.loops.size } { wait := .closeLoop, pc := m.pc, pos := m.pos, outermost := m.outermost, loop := m.loops.size } (m.pc + 1 + m.word 1) m.pos m.outermost := by
    unfold M.exec
    rw [(h.word 0).trans h0]
    rfl
  have e2 : ∃ sn, m.step = { m with seen := sn, loops := m.loops.push { pc := m.pc, outer := m.inner }, inner := some m.loops.size, frames := { wait := .closeLoop, pc := m.pc, pos := m.pos, outermost := m.outermost, loop := m.loops.size } :: m.frames, weight := m.weight + 1, pc := m.pc + 1 + m.word 1, handed := m.pos } := by
    rw [step_exec (h.live hz), e, attempt_eq _ _ _ _ (by show m.weight + 1 + 0 ≤ _; rw [h.wt]; (first | lia | omega))]
    exact ⟨_, rfl⟩
  refine .via h.o e2 fun sn => .here ?_
  have hl : m.loops = #[] := h.lp.trans hlp
  exact ⟨h.code, h.text, h.lim, h.ls, h.st, h.wh, h.mu, h.om, by show m.loops.push _ = _; rw [hl, h.pc, h.inn]; rfl, by show some m.loops.size = _; rw [hl]; rfl, by show m.pc + 1 + m.word 1 = _; rw [h.pc, h.word 1], h.pos, h.ms, h.lm, h.li, by show (_ :: m.frames) = _; rw [h.pc, h.pos, h.om, h.fs, hl]; rfl, by show m.weight + 1 = _; rw [h.wt], h.a, h.o⟩

theorem modify_one (l : Loop) (f : Loop → Loop) : (#[l] : Array Loop).modify 0 f = #[f l] := rfl

theorem until_eq {l : Loop} {kept : Sre.Kept} (hi : m.inner = some 0) (hl : m.loops = #[l]) (h2 : m.code.getD (l.pc + 2) 0 = 0) (h3 : m.code.getD (l.pc + 3) 0 = maxRepeat) (hlc : -1 ≤ l.count) (hb : l.began ≠ some m.pos) (hk : m.keep true = kept) (hw : m.weight + 1 + kept.marks.size ≤ 16777216) :
    m.until_ true = { m with loops := #[{ l with count := l.count + 1, began := some m.pos }], frames := { wait := .maxMore, pc := m.pc, pos := m.pos, outermost := m.outermost, loop := 0, count := l.count + 1, kept := kept, began := l.began } :: m.frames, weight := m.weight + 1 + kept.marks.size, pc := l.pc + 4, handed := m.pos } := by
  have hla : m.loopAt 0 = l := by unfold M.loopAt; rw [hl]; rfl
  have hlt : ¬ (l.count + 1 < ((0 : Nat) : Int)) := by (first | lia | omega)
  have hb' : (l.began != some m.pos) = true := by simpa using hb
  have hu : m.until_ true = (if (m.loopAt 0).count + 1 < ((m.code.getD ((m.loopAt 0).pc + 2) 0 : Nat) : Int) then m.round .maxBelow 0 ((m.loopAt 0).count + 1) false {} else if (!true) = true then m.afterLoop .minTail 0 ((m.loopAt 0).count + 1) (·.isSome) else if ((decide ((m.loopAt 0).count + 1 < ((m.code.getD ((m.loopAt 0).pc + 3) 0 : Nat) : Int)) || m.code.getD ((m.loopAt 0).pc + 3) 0 == maxRepeat) && (m.loopAt 0).began != some m.pos) = true then m.round .maxMore 0 ((m.loopAt 0).count + 1) true (m.keep true) else m.afterLoop .maxTail 0 ((m.loopAt 0).count + 1) fun _ => false) := by
    unfold M.until_
    rw [hi]
    rfl
  rw [hu, hla, h2, h3, if_neg hlt, if_neg (by decide), if_pos (by rw [hb']; simp), hk]
  unfold M.round
  rw [hla]
  rw [attempt_eq _ _ _ _ (by exact hw)]
  simp only [M.setLoop, M.frame, hl, modify_one, if_true]

/-- another round of the group -/
theorem at_until {lc : Int} {b : Option Nat} {lpc : Nat} {kept : Sre.Kept} (h : At m c) (hz : c.pc < c.code.size) (h0 : c.code.getD c.pc 0 = 18) (hlp : c.lp = #[{ pc := lpc, count := lc, began := b, outer := none }]) (hinn : c.inn = some 0) (h2 : c.code.getD (lpc + 2) 0 = 0) (h3 : c.code.getD (lpc + 3) 0 = maxRepeat) (hlc : -1 ≤ lc) (hb : b ≠ some c.pos)
    (hk : kept = { lastmark := c.lm, lastindex := c.li, whole := true, marks := c.ms.extract 0 (c.lm + 1).toNat }) (hw : c.wt + 1 + kept.marks.size ≤ 16777216) :
    Ends 1 m (fun m' => At m' { c with lp := #[{ pc := lpc, count := lc + 1, began := some c.pos, outer := none }], pc := lpc + 4, wt := c.wt + 1 + kept.marks.size, fs := { wait := .maxMore, pc := c.pc + 1, pos := c.pos, outermost := c.om, loop := 0, count := lc + 1, kept := kept, began := b } :: c.fs }) := by
  have e : m.exec = M.until_ { m with seen := m.seen.add 18, pc := m.pc + 1 } true := by
    unfold M.exec
    rw [(h.word 0).trans h0]
    rfl
  have e3 := until_eq (m := { m with seen := m.seen.add 18, pc := m.pc + 1 }) (l := { pc := lpc, count := lc, began := b, outer := none }) (kept := kept) (h.inn.trans hinn) (h.lp.trans hlp) (by show m.code.getD _ _ = _; rw [h.code]; exact h2) (by show m.code.getD _ _ = _; rw [h.code]; exact h3) hlc (by show b ≠ some m.pos; rw [h.pos]; exact hb)
    (by rw [hk]; unfold M.keep; rw [← h.lm, ← h.li, ← h.ms]; rfl) (by show m.weight + 1 + _ ≤ _; rw [h.wt]; exact hw)
  refine .via (f := fun sn => { m with seen := sn, loops := #[{ pc := lpc, count := lc + 1, began := some m.pos, outer := none }], frames := { wait := .maxMore, pc := m.pc + 1, pos := m.pos, outermost := m.outermost, loop := 0, count := lc + 1, kept := kept, began := b } :: m.frames, weight := m.weight + 1 + kept.marks.size, pc := lpc + 4, handed := m.pos }) h.o ⟨m.seen.add 18, (step_exec (h.live hz)).trans (e.trans e3)⟩ fun sn => .here ?_
  exact ⟨h.code, h.text, h.lim, h.ls, h.st, h.wh, h.mu, h.om, by show #[_] = _; rw [h.pos], h.inn, rfl, h.pos, h.ms, h.lm, h.li, by show (_ :: m.frames) = _; rw [h.pc, h.pos, h.om, h.fs], by show m.weight + 1 + _ = _; rw [h.wt], h.a, h.o⟩

/-- no further round: on behind the group -/
theorem no_more {lc : Int} {b b' : Option Nat} {lpc pc' pos' : Nat} {lm li : Int} {mks : Array (Option Nat)} {om : Bool} {fs : List Sre.Frame} (h : No m c) (hlp : c.lp = #[{ pc := lpc, count := lc, began := b', outer := none }])
    (hfs : c.fs = { wait := .maxMore, pc := pc', pos := pos', outermost := om, loop := 0, count := lc, kept := { lastmark := lm, lastindex := li, whole := true, marks := mks }, began := b } :: fs) (hms : mks.size ≤ m.marks.size) (hw : c.wt = c.wt - (1 + mks.size) + (1 + mks.size)) (hw2 : c.wt + 1 ≤ 16777216) :
    Ends 1 m (fun m' => ∃ lp ms, At m' { c with om := om, lp := lp, inn := none, pc := pc', pos := pos', ms := ms, lm := lm, li := li, wt := c.wt - (1 + mks.size) + 1, fs := { wait := .maxTail, pc := pc', pos := pos', outermost := om, loop := 0, count := lc, kept := { lastmark := lm, lastindex := li } } :: fs } ∧ ms = mks ++ m.marks.extract mks.size m.marks.size) := by
  have hl : m.loops = #[{ pc := lpc, count := lc, began := b', outer := none }] := h.lp.trans hlp
  have e2 : m.step = { m with answer := none, loops := #[{ pc := lpc, count := lc - 1, began := b, outer := none }], inner := none, lastmark := lm, lastindex := li, marks := mks ++ m.marks.extract mks.size m.marks.size, pc := pc', pos := pos', handed := pos', outermost := om, weight := m.weight - (1 + mks.size) + 1, frames := { wait := .maxTail, pc := pc', pos := pos', outermost := om, loop := 0, count := lc, kept := { lastmark := lm, lastindex := li } } :: fs } := by
    rw [step_back h.o h.a (h.fs.trans hfs)]
    unfold M.resume
    simp only [Bool.false_eq_true, if_false]
    unfold M.afterLoop
    rw [attempt_eq _ _ _ _ (by
      show m.weight - (1 + mks.size) + 1 + 0 ≤ _
      rw [h.wt]; (first | lia | omega))]
    simp only [M.setLoop, M.putBack, M.loopAt, M.frame, M.keep, hl]
    simp
  refine .step h.o (.here ?_)
  rw [e2]
  exact ⟨_, _, ⟨h.code, h.text, h.lim, h.ls, h.st, h.wh, h.mu, rfl, rfl, rfl, rfl, rfl, rfl, rfl, rfl, rfl, by show m.weight - _ + 1 = _; rw [h.wt], rfl, h.o⟩, rfl⟩
end

/-- backslashes with their sign, and plain signs, up to the mark at `e` -/
inductive Blocks (T : Array Nat) : Nat → Nat → Nat → Prop
  | nil {e : Nat} : e < T.size → T.getD e 0 = 34 → Blocks T e e 0
  | cons {p q e k : Nat} : p + 2 ≤ q → q < T.size → T.getD p 0 = 92 → T.getD (p + 1) 0 ≠ 10 → (∀ j, p + 2 ≤ j → j < q → isPlain (T.getD j 0) = true) → isPlain (T.getD q 0) = false → Blocks T q e k → Blocks T p e (k + 1)

theorem Blocks.size {T : Array Nat} {p e k : Nat} (h : Blocks T p e k) : p + 2 * k ≤ e ∧ e < T.size ∧ T.getD e 0 = 34 := by
  induction h with
  | nil h1 h2 => exact ⟨by (first | lia | omega), h1, h2⟩
  | cons h1 _ _ _ _ _ _ ih => exact ⟨by (first | lia | omega), ih.2⟩

theorem acc2_plainA (c : Nat) : Acc C2 37 c (isPlain c) := acc2_plain c rfl rfl rfl rfl rfl rfl rfl
theorem acc2_plainB (c : Nat) : Acc C2 57 c (isPlain c) := acc2_plain c rfl rfl rfl rfl rfl rfl rfl

theorem quo_loop {T : Array Nat} {ls b₀ : Nat} (hn : T.size ≤ 1000000) {p e k : Nat} (hB : Blocks T p e k) : ∀ (m : M) (lc : Int) (b : Option Nat) (fs : List Sre.Frame) (wt : Nat), -1 ≤ lc → b ≠ some p → (∀ x, b = some x → x < p) → fs.all Sre.Frame.passes = true → wt + 4 * k + 10 ≤ 16777216 →
    At m ⟨C2, T, T.size, ls, 0, false, false, true, #[{ pc := 46, count := lc, began := b, outer := none }], some 0, 66, p, #[some b₀, none], 0, -1, fs, wt⟩ →
    Ends (8 * k + fs.length + 20) m (fun m => Found m b₀ e 0 (e + 1)) := by
  induction hB with
  | @nil p h1 h2 =>
    intro m lc b fs wt hlc hb hbl hf hw h
    refine .mono (n := 1 + (1 + (1 + (1 + (1 + (fs.length + 1 + 2)))))) ?_ (by (first | lia | omega)) fun _ x => x
    refine .bind (at_until (kept := { lastmark := 0, lastindex := -1, whole := true, marks := #[some b₀] }) h (by show 66 < C2.size; decide) rfl rfl rfl rfl rfl hlc hb rfl (by show wt + 1 + 1 ≤ _; (first | lia | omega))) fun m1 h1' => ?_
    have h1' : At m1 ⟨C2, T, T.size, ls, 0, false, false, true, #[{ pc := 46, count := lc + 1, began := some p, outer := none }], some 0, 50, p, #[some b₀, none], 0, -1, { wait := .maxMore, pc := 67, pos := p, outermost := true, loop := 0, count := lc + 1, kept := { lastmark := 0, lastindex := -1, whole := true, marks := #[some b₀] }, began := b } :: fs, wt + 1 + 1⟩ := h1'
    refine .bind (at_lit_no h1' (by show 50 < C2.size; decide) rfl (fun _ => by show T.getD p 0 ≠ 92; rw [h2]; decide)) fun m2 h2' => ?_
    have hms : m2.marks.size = 2 := h2'.mks
    refine .bind (no_more h2' rfl rfl (by rw [hms]; exact Nat.le_succ 1) (by show wt + 1 + 1 = wt + 1 + 1 - (1 + 1) + (1 + 1); (first | lia | omega)) (by show wt + 1 + 1 + 1 ≤ _; (first | lia | omega))) fun m3 ⟨lp, ms, h3, hms3⟩ => ?_
    have h3 : At m3 ⟨C2, T, T.size, ls, 0, false, false, true, lp, none, 67, p, ms, 0, -1, { wait := .maxTail, pc := 67, pos := p, outermost := true, loop := 0, count := lc + 1, kept := { lastmark := 0, lastindex := -1 } } :: fs, wt + 1 + 1 - (1 + 1) + 1⟩ := h3
    have hms4 : ms.setIfInBounds 1 (some p) = #[some b₀, some p] := by
      rw [hms3]
      cases hm : m2.marks with
      | mk l =>
        rw [hm] at hms
        have hl : l.length = 2 := by simpa using hms
        match l, hl with
        | [x, y], _ => rfl
    refine .bind (at_mark (i := 1) h3 (by show 67 < C2.size; decide) rfl rfl (by show (1 : Int) ≤ 0 + 1; decide)) fun m4 h4 => ?_
    have h4 : At m4 ⟨C2, T, T.size, ls, 0, false, false, true, lp, none, 69, p, ms.setIfInBounds 1 (some p), 1, 1, { wait := .maxTail, pc := 67, pos := p, outermost := true, loop := 0, count := lc + 1, kept := { lastmark := 0, lastindex := -1 } } :: fs, wt + 1 + 1 - (1 + 1) + 1⟩ := h4
    rw [hms4] at h4
    refine .bind (at_lit h4 (by show 69 < C2.size; decide) rfl h1 h2) fun m5 h5 => ?_
    have h5 : At m5 ⟨C2, T, T.size, ls, 0, false, false, true, lp, none, 71, p + 1, #[some b₀, some p], 1, 1, { wait := .maxTail, pc := 67, pos := p, outermost := true, loop := 0, count := lc + 1, kept := { lastmark := 0, lastindex := -1 } } :: fs, wt + 1 + 1 - (1 + 1) + 1⟩ := h5
    exact .mono (at_success h5 (by show 71 < C2.size; decide) rfl (fun h => by cases h) (fun h => by cases h) (by rw [List.all_cons, hf]; rfl)) (Nat.le_refl _) fun _ q => ⟨q.1, q.2.1, q.2.2.1, q.2.2.2.1, q.2.2.2.2.1, q.2.2.2.2.2⟩
  | @cons p q e k g1 g2 g3 g4 g5 g6 bl ih =>
    intro m lc b fs wt hlc hb hbl hf hw h
    refine .mono (n := 1 + (1 + (1 + (1 + (8 * k + (fs.length + 2) + 20))))) ?_ (by (first | lia | omega)) fun _ x => x
    have eq : p + 1 + 1 + (q - (p + 2)) = q := by (first | lia | omega)
    refine .bind (at_until (kept := { lastmark := 0, lastindex := -1, whole := true, marks := #[some b₀] }) h (by show 66 < C2.size; decide) rfl rfl rfl rfl rfl hlc hb rfl (by show wt + 1 + 1 ≤ _; (first | lia | omega))) fun m1 h1' => ?_
    have h1' : At m1 ⟨C2, T, T.size, ls, 0, false, false, true, #[{ pc := 46, count := lc + 1, began := some p, outer := none }], some 0, 50, p, #[some b₀, none], 0, -1, { wait := .maxMore, pc := 67, pos := p, outermost := true, loop := 0, count := lc + 1, kept := { lastmark := 0, lastindex := -1, whole := true, marks := #[some b₀] }, began := b } :: fs, wt + 1 + 1⟩ := h1'
    refine .bind (at_lit h1' (by show 50 < C2.size; decide) rfl (by show p < T.size; (first | lia | omega)) g3) fun m2 h2' => ?_
    have h2' : At m2 ⟨C2, T, T.size, ls, 0, false, false, true, #[{ pc := 46, count := lc + 1, began := some p, outer := none }], some 0, 52, p + 1, #[some b₀, none], 0, -1, { wait := .maxMore, pc := 67, pos := p, outermost := true, loop := 0, count := lc + 1, kept := { lastmark := 0, lastindex := -1, whole := true, marks := #[some b₀] }, began := b } :: fs, wt + 1 + 1⟩ := h2'
    refine .bind (at_any h2' (by show 52 < C2.size; decide) rfl (by show p + 1 < T.size; (first | lia | omega)) g4) fun m3 h3 => ?_
    have h3 : At m3 ⟨C2, T, T.size, ls, 0, false, false, true, #[{ pc := 46, count := lc + 1, began := some p, outer := none }], some 0, 53, p + 1 + 1, #[some b₀, none], 0, -1, { wait := .maxMore, pc := 67, pos := p, outermost := true, loop := 0, count := lc + 1, kept := { lastmark := 0, lastindex := -1, whole := true, marks := #[some b₀] }, began := b } :: fs, wt + 1 + 1⟩ := h3
    refine .bind (at_repK (k := q - (p + 2)) (kept := { lastmark := 0, lastindex := -1, whole := true, marks := #[some b₀] }) h3 (by show 53 < C2.size; decide) rfl rfl (by show T.size ≤ _; (first | lia | omega)) (by show p + 1 + 1 + (q - (p + 2)) ≤ T.size; (first | lia | omega)) (Nat.zero_le _) (fun j hj => ?_) (fun hh => ?_) rfl (by show wt + 1 + 1 + 1 + 1 ≤ _; (first | lia | omega))) fun m4 h4 => ?_
    · have := acc2_plainB (T.getD (p + 1 + 1 + j) 0); rw [g5 (p + 1 + 1 + j) (by (first | lia | omega)) (by (first | lia | omega))] at this; exact this
    · have := acc2_plainB (T.getD q 0); rw [g6] at this
      show Acc C2 57 (T.getD (p + 1 + 1 + (q - (p + 2))) 0) false
      rw [eq]; exact this
    have h4 : At m4 ⟨C2, T, T.size, ls, 0, false, false, true, #[{ pc := 46, count := lc + 1, began := some p, outer := none }], some 0, 66, p + 1 + 1 + (q - (p + 2)), #[some b₀, none], 0, -1, { wait := .giveBack, pc := 53, pos := p + 1 + 1 + (q - (p + 2)), outermost := true, count := ((q - (p + 2) : Nat) : Int), kept := { lastmark := 0, lastindex := -1, whole := true, marks := #[some b₀] } } :: { wait := .maxMore, pc := 67, pos := p, outermost := true, loop := 0, count := lc + 1, kept := { lastmark := 0, lastindex := -1, whole := true, marks := #[some b₀] }, began := b } :: fs, wt + 1 + 1 + 1 + 1⟩ := h4
    rw [eq] at h4
    exact ih m4 (lc + 1) (some p) _ (wt + 1 + 1 + 1 + 1) (by (first | lia | omega)) (fun hh => by have := Option.some.inj hh; (first | lia | omega)) (fun x hx => by have := Option.some.inj hx; (first | lia | omega)) (by rw [List.all_cons, List.all_cons, hf]; rfl) (by (first | lia | omega)) h4

/-- HEADER_QUOTED_VALUE_RE finds a value in marks -/
theorem quo_ok {T : Array Nat} {q e k : Nat} (hn : T.size ≤ 1000000) (h61 : T.getD 0 0 = 61) (h34 : T.getD 1 0 = 34) (hq : 2 ≤ q) (hqT : q < T.size) (hpl : ∀ j, 2 ≤ j → j < q → isPlain (T.getD j 0) = true) (hnp : isPlain (T.getD q 0) = false) (hb : Blocks T q e k) :
    Ends (8 * T.size + 60) (forSearch C2 T 1 0 T.size false) (fun m => Found m 2 e 0 (e + 1)) := by
  have hsz := hb.size
  have e2 : 2 + (q - 2) = q := by (first | lia | omega)
  refine .mono (n := 1 + (1 + (1 + (1 + (1 + (1 + (1 + (1 + (8 * k + 5 + 20))))))))) ?_ (by (first | lia | omega)) fun _ x => x
  refine .bind (at_at (start2 (by (first | lia | omega))) (by dsimp only [cfg0]; decide) rfl rfl rfl) fun m1 h1 => ?_
  have h1 : At m1 ⟨C2, T, T.size, max 0 (T.size - 2), 0, false, false, true, #[], none, 7, 0, #[none, none], -1, -1, [ns0], 1⟩ := h1
  refine .bind (at_rep (k := 0) h1 (by dsimp only; decide) rfl rfl (by show T.size ≤ _; (first | lia | omega)) (by show 0 + 0 ≤ T.size; (first | lia | omega)) (Nat.le_refl _) (fun j hj => by (first | lia | omega)) (fun h => ?_) rfl (by dsimp only; decide)) fun m2 h2 => ?_
  · have := acc2_space (T.getD 0 0); rw [h61, space_eq] at this; show Acc C2 11 (T.getD (0 + 0) 0) false; rw [Nat.zero_add, h61]; exact this
  have h2 : At m2 ⟨C2, T, T.size, max 0 (T.size - 2), 0, false, false, true, #[], none, 17, 0, #[none, none], -1, -1, [{ wait := .giveBack, pc := 7, pos := 0, outermost := true, count := (0 : Nat), kept := { lastmark := -1, lastindex := -1 } }, ns0], 2⟩ := h2
  refine .bind (at_lit h2 (by show 17 < C2.size; decide) rfl (by show 0 < T.size; (first | lia | omega)) h61) fun m3 h3 => ?_
  have h3 : At m3 ⟨C2, T, T.size, max 0 (T.size - 2), 0, false, false, true, #[], none, 19, 1, #[none, none], -1, -1, [{ wait := .giveBack, pc := 7, pos := 0, outermost := true, count := (0 : Nat), kept := { lastmark := -1, lastindex := -1 } }, ns0], 2⟩ := h3
  refine .bind (at_rep (k := 0) h3 (by show 19 < C2.size; decide) rfl rfl (by show T.size ≤ _; (first | lia | omega)) (by show 1 + 0 ≤ T.size; (first | lia | omega)) (Nat.le_refl _) (fun j hj => by (first | lia | omega)) (fun h => ?_) rfl (by show 2 + 1 ≤ 16777216; decide)) fun m4 h4 => ?_
  · have := acc2_space' (T.getD 1 0); rw [h34, space_mark] at this; show Acc C2 23 (T.getD 1 0) false; rw [h34]; exact this
  have h4 : At m4 ⟨C2, T, T.size, max 0 (T.size - 2), 0, false, false, true, #[], none, 29, 1, #[none, none], -1, -1, [{ wait := .giveBack, pc := 19, pos := 1, outermost := true, count := (0 : Nat), kept := { lastmark := -1, lastindex := -1 } }, { wait := .giveBack, pc := 7, pos := 0, outermost := true, count := (0 : Nat), kept := { lastmark := -1, lastindex := -1 } }, ns0], 3⟩ := h4
  refine .bind (at_lit h4 (by show 29 < C2.size; decide) rfl (by show 1 < T.size; (first | lia | omega)) h34) fun m5 h5 => ?_
  have h5 : At m5 ⟨C2, T, T.size, max 0 (T.size - 2), 0, false, false, true, #[], none, 31, 2, #[none, none], -1, -1, [{ wait := .giveBack, pc := 19, pos := 1, outermost := true, count := (0 : Nat), kept := { lastmark := -1, lastindex := -1 } }, { wait := .giveBack, pc := 7, pos := 0, outermost := true, count := (0 : Nat), kept := { lastmark := -1, lastindex := -1 } }, ns0], 3⟩ := h5
  refine .bind (at_mark (i := 0) h5 (by show 31 < C2.size; decide) rfl rfl (by show (0 : Int) ≤ -1 + 1; decide)) fun m6 h6 => ?_
  have h6 : At m6 ⟨C2, T, T.size, max 0 (T.size - 2), 0, false, false, true, #[], none, 33, 2, #[some 2, none], 0, -1, [{ wait := .giveBack, pc := 19, pos := 1, outermost := true, count := (0 : Nat), kept := { lastmark := -1, lastindex := -1 } }, { wait := .giveBack, pc := 7, pos := 0, outermost := true, count := (0 : Nat), kept := { lastmark := -1, lastindex := -1 } }, ns0], 3⟩ := h6
  refine .bind (at_rep (k := q - 2) h6 (by show 33 < C2.size; decide) rfl rfl (by show T.size ≤ _; (first | lia | omega)) (by show 2 + (q - 2) ≤ T.size; (first | lia | omega)) (Nat.zero_le _) (fun j hj => ?_) (fun h => ?_) rfl (by show 3 + 1 ≤ 16777216; decide)) fun m7 h7 => ?_
  · have := acc2_plainA (T.getD (2 + j) 0); rw [hpl (2 + j) (by (first | lia | omega)) (by (first | lia | omega))] at this; exact this
  · have := acc2_plainA (T.getD q 0); rw [hnp] at this; show Acc C2 37 (T.getD (2 + (q - 2)) 0) false; rw [e2]; exact this
  have h7 : At m7 ⟨C2, T, T.size, max 0 (T.size - 2), 0, false, false, true, #[], none, 46, 2 + (q - 2), #[some 2, none], 0, -1, [{ wait := .giveBack, pc := 33, pos := 2 + (q - 2), outermost := true, count := ((q - 2 : Nat) : Int), kept := { lastmark := 0, lastindex := -1 } }, { wait := .giveBack, pc := 19, pos := 1, outermost := true, count := (0 : Nat), kept := { lastmark := -1, lastindex := -1 } }, { wait := .giveBack, pc := 7, pos := 0, outermost := true, count := (0 : Nat), kept := { lastmark := -1, lastindex := -1 } }, ns0], 4⟩ := h7
  rw [e2] at h7
  refine .bind (at_repeat h7 (by show 46 < C2.size; decide) rfl rfl (by show 4 + 1 ≤ 16777216; decide)) fun m8 h8 => ?_
  have h8 : At m8 ⟨C2, T, T.size, max 0 (T.size - 2), 0, false, false, true, #[{ pc := 46, outer := none }], some 0, 66, q, #[some 2, none], 0, -1, { wait := .closeLoop, pc := 46, pos := q, outermost := true, loop := 0 } :: [{ wait := .giveBack, pc := 33, pos := q, outermost := true, count := ((q - 2 : Nat) : Int), kept := { lastmark := 0, lastindex := -1 } }, { wait := .giveBack, pc := 19, pos := 1, outermost := true, count := (0 : Nat), kept := { lastmark := -1, lastindex := -1 } }, { wait := .giveBack, pc := 7, pos := 0, outermost := true, count := (0 : Nat), kept := { lastmark := -1, lastindex := -1 } }, ns0], 4 + 1⟩ := h8
  exact quo_loop hn hb m8 (-1) none _ (4 + 1) (Int.le_refl _) (fun h => by cases h) (fun x hx => by cases hx) rfl (by (first | lia | omega)) h8
end Mine

end

section
set_option maxRecDepth 100000
set_option linter.unusedSimpArgs false
set_option linter.unusedVariables false
namespace Mine
open PySem.Sre
open PySem hiding run Frame Kept

/-- the next start of a search -/
theorem next_start {m : M} {c : Cfg} {s pc : Nat} {o : Bool} (hfs : (c.code.getD 2 0 == 4) = false) (hs : s < c.ls) (hw : c.wt = 1)
    (hf : c.fs = [{ wait := .nextStart, pc := pc, pos := s, outermost := o }]) (h : No m c) :
    Ends 1 m (fun m' => ∃ ms, ms.size = c.ms.size ∧ At m' ⟨c.code, c.text, c.lim, c.ls, s + 1, c.wh, false, false, c.lp, c.inn, pc, s + 1, ms, -1, -1, [{ wait := .nextStart, pc := pc, pos := s + 1, outermost := false }], 1⟩) := by
  have hfs' : ∀ m' : M, m'.code = c.code → m'.hasFirstSet = false := fun m' e => by unfold M.hasFirstSet; rw [e, hfs, Bool.and_false]
  have e1 : m.step = { m with answer := none, frames := [{ wait := .nextStart, pc := pc, pos := s + 1, outermost := false }], weight := 1, pc := pc, pos := s + 1, handed := s + 1, start := s + 1, lastmark := -1, lastindex := -1, mustAdvance := false, outermost := false } := by
    rw [step_back h.o h.a (h.fs.trans hf)]
    unfold M.resume
    have h2 : m.lastStart = c.ls := h.ls
    simp only [Bool.false_eq_true, if_false, h2, hs, if_true]
    unfold M.attemptFrom
    rw [hfs' _ (by exact h.code)]
    simp only [Bool.not_false, if_true]
    unfold M.attemptAt
    have hw : m.weight = 1 := h.wt.trans hw
    rw [attempt_eq _ _ _ _ (by show m.weight - (1 + 0) + 1 + 0 ≤ _; (first | lia | omega))]
    have hw : m.weight - 1 + 1 + 0 = 1 := by (first | lia | omega)
    simp [hw]
  refine .step h.o (.here ?_)
  rw [e1]
  exact ⟨m.marks, h.mks, h.code, h.text, h.lim, h.ls, rfl, h.wh, rfl, rfl, h.lp, h.inn, rfl, rfl, rfl, rfl, rfl, rfl, rfl, rfl, h.o⟩
theorem last_start {m : M} {c : Cfg} {s pc : Nat} {o : Bool} (hs : ¬ s < c.ls) (hf : c.fs = [{ wait := .nextStart, pc := pc, pos := s, outermost := o }]) (h : No m c) : Ends 2 m Failed := by
  have e1 : m.step = { m with answer := some false, frames := [], weight := m.weight - (1 + 0), pc := pc, pos := s, outermost := o } := by
    rw [step_back h.o h.a (h.fs.trans hf)]
    unfold M.resume
    have h2 : m.lastStart = c.ls := h.ls
    simp only [Bool.false_eq_true, if_false, h2, hs]
    rfl
  refine .step h.o ?_
  rw [e1]
  exact ends_fail h.o rfl rfl

theorem start4 {T : Array Nat} {n p : Nat} {mu : Bool} (h : p + 2 ≤ n) : At (forSearch C4 T 1 p n mu) (cfg0 C4 T 1 n n p mu 9) := by
  have e : forSearch C4 T 1 p n mu = { code := C4, text := T, lim := n, start := p, lastStart := n, mustAdvance := mu, pc := 9, pos := p, handed := p, outermost := true, marks := Array.replicate (2 * 1) none, lastmark := -1, lastindex := -1, frames := [{ wait := .nextStart, pc := 9, pos := p, outermost := true }], weight := 1, seen := ({} : Sre.Seen).add 14 } := by
    show (if (decide (p > n) || decide (n - p < 2)) = true then _ else _) = _
    rw [if_neg (by simp; (first | lia | omega))]
    rfl
  rw [e]
  exact ⟨rfl, rfl, rfl, rfl, rfl, rfl, rfl, rfl, rfl, rfl, rfl, rfl, rfl, rfl, rfl, rfl, rfl, rfl, rfl⟩
theorem start4_nil {T : Array Nat} {n p : Nat} {mu : Bool} (h : n < p + 2) : Ends 2 (forSearch C4 T 1 p n mu) Failed := by
  have e : (forSearch C4 T 1 p n mu).outcome = none ∧ (forSearch C4 T 1 p n mu).answer = some false ∧ (forSearch C4 T 1 p n mu).frames = [] := by
    have e : forSearch C4 T 1 p n mu = (if (decide (p > n) || decide (n - p < 2)) = true then _ else _) := rfl
    rw [e, if_pos (by simp; (first | lia | omega))]
    exact ⟨rfl, rfl, rfl⟩
  exact (ends_fail e.1 e.2.1 e.2.2).mono (by (first | lia | omega)) fun _ x => x

theorem two_marks {ms : Array (Option Nat)} (h : ms.size = 2) (a b : Option Nat) : (ms.setIfInBounds 0 a).setIfInBounds 1 b = #[a, b] := by
  obtain ⟨l⟩ := ms
  rcases l with _ | ⟨x, _ | ⟨y, _ | ⟨z, l⟩⟩⟩
  · cases h
  · cases h
  · rfl
  · cases h
/-- from start `s` on: the first backslash is at `s + d` -/
theorem esc_scan {T : Array Nat} (hn : T.size ≤ 1000000) : ∀ (d s : Nat) (m : M) (mu om : Bool) (ms : Array (Option Nat)), s + d + 1 < T.size → (∀ j, j < d → T.getD (s + j) 0 ≠ 92) → T.getD (s + d) 0 = 92 → T.getD (s + d + 1) 0 ≠ 10 → ms.size = 2 →
    At m ⟨C4, T, T.size, T.size, s, false, mu, om, #[], none, 9, s, ms, -1, -1, [{ wait := .nextStart, pc := 9, pos := s, outermost := om }], 1⟩ →
    Ends (2 * d + 10) m (fun m => Found m (s + d + 1) (s + d + 2) (s + d) (s + d + 2)) := by
  intro d
  induction d with
  | zero =>
    intro s m mu om ms h1 h2 h3 h4 hms h
    refine .mono (n := 1 + (1 + (1 + (1 + 3)))) ?_ (by (first | lia | omega)) fun _ x => x
    refine .bind (at_lit h (by show 9 < C4.size; decide) rfl (by show s < T.size; (first | lia | omega)) h3) fun m1 g1 => ?_
    refine .bind (at_mark (i := 0) g1 (by show 11 < C4.size; decide) rfl rfl (by show (0 : Int) ≤ -1 + 1; decide)) fun m2 g2 => ?_
    refine .bind (at_any g2 (by show 13 < C4.size; decide) rfl (by show s + 1 < T.size; (first | lia | omega)) h4) fun m3 g3 => ?_
    refine .bind (at_mark (i := 1) g3 (by show 14 < C4.size; decide) rfl rfl (by show (1 : Int) ≤ max (-1) 0 + 1; decide)) fun m4 g4 => ?_
    have hms4 := two_marks hms (some (s + 1)) (some (s + 1 + 1))
    have g4 : At m4 ⟨C4, T, T.size, T.size, s, false, mu, om, #[], none, 16, s + 1 + 1, (ms.setIfInBounds 0 (some (s + 1))).setIfInBounds 1 (some (s + 1 + 1)), 1, 1, [{ wait := .nextStart, pc := 9, pos := s, outermost := om }], 1⟩ := g4
    rw [hms4] at g4
    exact .mono (at_success g4 (by show 16 < C4.size; decide) rfl (fun h => by cases h) (fun _ _ => by show s + 1 + 1 ≠ s; (first | lia | omega)) rfl) (Nat.le_refl _) fun _ q => ⟨q.1, q.2.1, q.2.2.1, q.2.2.2.1, q.2.2.2.2.1, q.2.2.2.2.2⟩
  | succ d ih =>
    intro s m mu om ms h1 h2 h3 h4 hms h
    refine .mono (n := 1 + (1 + (2 * d + 10))) ?_ (by (first | lia | omega)) fun _ x => x
    refine .bind (at_lit_no h (by show 9 < C4.size; decide) rfl fun _ => by have := h2 0 (by (first | lia | omega)); exact this) fun m1 g1 => ?_
    refine .bind (next_start rfl (by show s < T.size; (first | lia | omega)) rfl rfl g1) fun m2 ⟨ms2, hms2, g2⟩ => ?_
    have e : s + 1 + d = s + (d + 1) := by (first | lia | omega)
    have := ih (s + 1) m2 false false ms2 (by (first | lia | omega)) (fun j hj => by have := h2 (j + 1) (by (first | lia | omega)); rwa [show s + 1 + j = s + (j + 1) by (first | lia | omega)]) (by rw [e]; exact h3) (by rw [e]; exact h4) (hms2.trans hms) g2
    rw [e] at this
    exact this
/-- from start `s` on there is no backslash -/
theorem esc_none {T : Array Nat} (hn : T.size ≤ 1000000) : ∀ (d s : Nat) (m : M) (mu om : Bool) (ms : Array (Option Nat)), s + d = T.size → (∀ j, j < d → T.getD (s + j) 0 ≠ 92) →
    At m ⟨C4, T, T.size, T.size, s, false, mu, om, #[], none, 9, s, ms, -1, -1, [{ wait := .nextStart, pc := 9, pos := s, outermost := om }], 1⟩ → Ends (2 * d + 10) m Failed := by
  intro d
  induction d with
  | zero =>
    intro s m mu om ms h1 h2 h
    refine .mono (n := 1 + 2) ?_ (by (first | lia | omega)) fun _ x => x
    refine .bind (at_lit_no h (by show 9 < C4.size; decide) rfl fun hh => by have hh : s < T.size := hh; (first | lia | omega)) fun m1 g1 => ?_
    exact last_start (by show ¬ s < T.size; (first | lia | omega)) rfl g1
  | succ d ih =>
    intro s m mu om ms h1 h2 h
    refine .mono (n := 1 + (1 + (2 * d + 10))) ?_ (by (first | lia | omega)) fun _ x => x
    refine .bind (at_lit_no h (by show 9 < C4.size; decide) rfl fun _ => by have := h2 0 (by (first | lia | omega)); exact this) fun m1 g1 => ?_
    refine .bind (next_start rfl (by show s < T.size; (first | lia | omega)) rfl rfl g1) fun m2 ⟨ms2, hms2, g2⟩ => ?_
    exact ih (s + 1) m2 false false ms2 (by (first | lia | omega)) (fun j hj => by have := h2 (j + 1) (by (first | lia | omega)); rwa [show s + 1 + j = s + (j + 1) by (first | lia | omega)]) g2

/-- HEADER_ESCAPE_RE finds the next backslash -/
theorem esc_ok {T : Array Nat} {p q : Nat} {mu : Bool} (hn : T.size ≤ 1000000) (hpq : p ≤ q) (hq : q + 1 < T.size) (hno : ∀ j, p ≤ j → j < q → T.getD j 0 ≠ 92) (h92 : T.getD q 0 = 92) (h10 : T.getD (q + 1) 0 ≠ 10) :
    Ends (2 * T.size + 10) (forSearch C4 T 1 p T.size mu) (fun m => Found m (q + 1) (q + 2) q (q + 2)) := by
  have e : p + (q - p) = q := by (first | lia | omega)
  have := esc_scan hn (q - p) p _ mu true _ (by (first | lia | omega)) (fun j hj => hno _ (by (first | lia | omega)) (by (first | lia | omega))) (by rw [e]; exact h92) (by rw [e]; exact h10) (by rfl) (start4 (mu := mu) (by (first | lia | omega)))
  rw [e] at this
  exact this.mono (by (first | lia | omega)) fun _ x => x
theorem esc_no {T : Array Nat} {p : Nat} {mu : Bool} (hn : T.size ≤ 1000000) (hp : p ≤ T.size) (hno : ∀ j, p ≤ j → j < T.size → T.getD j 0 ≠ 92) :
    Ends (2 * T.size + 10) (forSearch C4 T 1 p T.size mu) Failed := by
  by_cases h : T.size < p + 2
  · exact (start4_nil h).mono (by (first | lia | omega)) fun _ x => x
  · exact (esc_none hn (T.size - p) p _ mu true _ (by (first | lia | omega)) (fun j hj => hno _ (by (first | lia | omega)) (by (first | lia | omega))) (start4 (mu := mu) (by (first | lia | omega)))).mono (by (first | lia | omega)) fun _ x => x

/-- HEADER_JOIN_TOKEN_RE takes the whole -/
theorem start6 {T : Array Nat} {n : Nat} (h : 1 ≤ n) : At (forMatch C6 T 0 0 n true false) ⟨C6, T, n, 0, 0, true, false, true, #[], none, 5, 0, #[], -1, -1, [], 0⟩ := by
  have e : forMatch C6 T 0 0 n true false = { code := C6, text := T, lim := n, start := 0, wholeText := true, mustAdvance := false, pc := 5, pos := 0, handed := 0, marks := Array.replicate (2 * 0) none, seen := ({} : Sre.Seen).add 14 } := by
    show (if (1 != 0 && decide (0 ≤ n) && decide (n - 0 < 1)) = true then _ else _) = _
    rw [if_neg (by simp; (first | lia | omega))]
    rfl
  rw [e]
  exact ⟨rfl, rfl, rfl, rfl, rfl, rfl, rfl, rfl, rfl, rfl, rfl, rfl, rfl, rfl, rfl, rfl, rfl, rfl, rfl⟩
theorem start6_nil {T : Array Nat} : Ends 2 (forMatch C6 T 0 0 0 true false) Failed := ⟨1, by (first | lia | omega), trivial⟩
theorem wr_ok {T : Array Nat} (hn : T.size ≤ 1000000) (h1 : 1 ≤ T.size) (hw : ∀ j, j < T.size → isWritten (T.getD j 0) = true) : Ends 10 (forMatch C6 T 0 0 T.size true false) Matched := by
  refine .mono (n := 1 + 3) ?_ (by (first | lia | omega)) fun _ x => x
  refine .bind (at_rep (k := T.size) (start6 h1) (by show 5 < C6.size; decide) rfl rfl (by show T.size ≤ _; (first | lia | omega)) (by show 0 + T.size ≤ T.size; (first | lia | omega)) h1 (fun j hj => ?_) (fun h => ?_) rfl (by show 0 + 1 ≤ 16777216; decide)) fun m1 g1 => ?_
  · have := acc6 (T.getD (0 + j) 0); rw [Nat.zero_add, hw j hj] at this; show Acc C6 9 (T.getD (0 + j) 0) true; rw [Nat.zero_add]; exact this
  · have h : 0 + T.size < T.size := h; (first | lia | omega)
  exact .mono (at_success g1 (by show 22 < C6.size; decide) rfl (fun _ _ => by show 0 + T.size = T.size; (first | lia | omega)) (fun h => by cases h) rfl) (Nat.le_refl _) fun m' q => q.1
theorem wr_no {T : Array Nat} {k : Nat} (hn : T.size ≤ 1000000) (hk : k < T.size ∨ T.size = 0) (hw : ∀ j, j < k → isWritten (T.getD j 0) = true) (hs : k < T.size → isWritten (T.getD k 0) = false) : Ends (2 * T.size + 10) (forMatch C6 T 0 0 T.size true false) Failed := by
  by_cases h0 : T.size = 0
  · rw [h0]; exact start6_nil.mono (by (first | lia | omega)) fun _ x => x
  have hk : k < T.size := hk.resolve_right h0
  cases k with
  | zero =>
    refine .mono (n := 1 + 1) ?_ (by (first | lia | omega)) fun _ x => x
    refine .bind (at_rep_no (start6 (by (first | lia | omega))) (by show 5 < C6.size; decide) rfl rfl rfl (Nat.zero_le _) fun h => ?_) fun m1 g1 => ends_fail g1.o g1.a g1.fs
    have := acc6 (T.getD 0 0); rw [hs hk] at this; exact this
  | succ k =>
    refine .mono (n := 1 + ((1 + 1) * (k + 1 + 1) + 1)) ?_ (by (first | lia | omega)) fun _ x => x
    refine .bind (at_rep (k := k + 1) (start6 (by (first | lia | omega))) (by show 5 < C6.size; decide) rfl rfl (by show T.size ≤ _; (first | lia | omega)) (by show 0 + (k + 1) ≤ T.size; (first | lia | omega)) (by show 1 ≤ k + 1; (first | lia | omega)) (fun j hj => ?_) (fun h => ?_) rfl (by show 0 + 1 ≤ 16777216; decide)) fun m1 g1 => ?_
    · have := acc6 (T.getD (0 + j) 0); rw [Nat.zero_add, hw j hj] at this; show Acc C6 9 (T.getD (0 + j) 0) true; rw [Nat.zero_add]; exact this
    · have := acc6 (T.getD (0 + (k + 1)) 0); rw [Nat.zero_add, hs hk] at this; show Acc C6 9 (T.getD (0 + (k + 1)) 0) false; rw [Nat.zero_add]; exact this
    refine .bind (at_giveBack (pcR := 5) (pcT := 22) (K := 1) (least := 1) (q := 0) (wt := 0) (lm := -1) (li := -1) (fs := []) true rfl (by decide) rfl rfl rfl rfl rfl (k + 1) rfl rfl ?_ g1) fun m2 g2 => ends_fail g2.o g2.a g2.fs
    intro j m ms li' hj hms h
    exact at_success_no h (by show 22 < C6.size; decide) rfl rfl rfl (by show 0 + j ≠ T.size; (first | lia | omega))
end Mine

end

section
set_option maxRecDepth 100000
set_option linter.unusedSimpArgs false
set_option linter.unusedVariables false
namespace Mine
open PySem.Sre
open PySem hiding run Frame Kept

theorem set7 (c : Nat) (seen : Sre.Seen) : ∃ sn, inSet C7 c C7.size 5 true seen = .ok (!(isPlain c), sn) := by
  rw [show C7.size = 19 + 1 + 1 + 1 from rfl, inSet_lit (k := 34) (by rfl) (by rfl)]
  unfold isPlain
  cases h : (c == 34)
  · simp only [Bool.false_eq_true, if_false]
    rw [inSet_lit (k := 92) (by rfl) (by rfl)]
    cases h' : (c == 92)
    · simp only [Bool.false_eq_true, if_false]
      exact ⟨_, inSet_end (by rfl)⟩
    · simp only [if_true]
      exact ⟨_, rfl⟩
  · simp only [if_true]
    exact ⟨_, rfl⟩

theorem admitted_some {m : M} (hc : m.code = C7) : ∀ (d f s : Nat) (seen : Sre.Seen), d < f → s + d < m.lim → (∀ j, j < d → isPlain (m.text.getD (s + j) 0) = true) → isPlain (m.text.getD (s + d) 0) = false → ∃ sn, M.admitted m f s seen = .ok (some (s + d), sn)
  | 0, f + 1, s, seen, _, h1, _, h3 => by
    obtain ⟨sn, e⟩ := set7 (m.text.getD s 0) seen
    rw [Nat.add_zero] at h3 h1
    rw [h3] at e
    refine ⟨sn, ?_⟩
    rw [M.admitted, if_neg (by (first | lia | omega)), hc, e]
    rfl
  | d + 1, f + 1, s, seen, hf, h1, h2, h3 => by
    obtain ⟨sn, e⟩ := set7 (m.text.getD s 0) seen
    have h20 := h2 0 (by (first | lia | omega))
    rw [Nat.add_zero] at h20
    rw [h20] at e
    have es : s + 1 + d = s + (d + 1) := by (first | lia | omega)
    obtain ⟨sn', e'⟩ := admitted_some hc d f (s + 1) sn (by (first | lia | omega)) (by (first | lia | omega)) (fun j hj => by have := h2 (j + 1) (by (first | lia | omega)); rwa [show s + 1 + j = s + (j + 1) by (first | lia | omega)]) (by rw [es]; exact h3)
    refine ⟨sn', ?_⟩
    rw [M.admitted, if_neg (by (first | lia | omega)), hc, e]
    show M.admitted m f (s + 1) sn = _
    rw [e', es]
theorem admitted_none {m : M} (hc : m.code = C7) : ∀ (d f s : Nat) (seen : Sre.Seen), d < f → s + d = m.lim → (∀ j, j < d → isPlain (m.text.getD (s + j) 0) = true) → ∃ sn, M.admitted m f s seen = .ok (none, sn)
  | 0, f + 1, s, seen, _, h1, _ => by
    refine ⟨seen, ?_⟩
    rw [M.admitted, if_pos (by (first | lia | omega))]
  | d + 1, f + 1, s, seen, hf, h1, h2 => by
    obtain ⟨sn, e⟩ := set7 (m.text.getD s 0) seen
    have h20 := h2 0 (by (first | lia | omega))
    rw [Nat.add_zero] at h20
    rw [h20] at e
    obtain ⟨sn', e'⟩ := admitted_none hc d f (s + 1) sn (by (first | lia | omega)) (by (first | lia | omega)) (fun j hj => by have := h2 (j + 1) (by (first | lia | omega)); rwa [show s + 1 + j = s + (j + 1) by (first | lia | omega)])
    refine ⟨sn', ?_⟩
    rw [M.admitted, if_neg (by (first | lia | omega)), hc, e]
    show M.admitted m f (s + 1) sn = _
    exact e'

/-- the machine ahead of the first start -/
noncomputable def pre7 (T : Array Nat) (n p : Nat) (mu : Bool) : M := { code := C7, text := T, lim := n, start := p, lastStart := n, mustAdvance := mu, pc := 10, pos := p, handed := p, marks := Array.replicate (2 * 1) none, seen := ({} : Sre.Seen).add 14 }
theorem forSearch7 {T : Array Nat} {n p : Nat} {mu : Bool} (h : p + 1 ≤ n) : forSearch C7 T 1 p n mu = (pre7 T n p mu).attemptFrom p true := by
  show (if (decide (p > n) || decide (n - p < 1)) = true then _ else _) = _
  rw [if_neg (by simp; (first | lia | omega))]
  rfl

/-- HEADER_JOIN_ESCAPE_RE finds the next mark or backslash -/
theorem jes_ok {T : Array Nat} {p q : Nat} {mu : Bool} (hn : T.size ≤ 1000000) (hpq : p ≤ q) (hq : q < T.size) (hno : ∀ j, p ≤ j → j < q → isPlain (T.getD j 0) = true) (hh : isPlain (T.getD q 0) = false) :
    Ends 20 (forSearch C7 T 1 p T.size mu) (fun m => Found m q (q + 1) q (q + 1)) := by
  have e : p + (q - p) = q := by (first | lia | omega)
  obtain ⟨sn, ea⟩ := admitted_some (m := pre7 T T.size p mu) rfl (q - p) (T.size + 1 - p) p (pre7 T T.size p mu).seen (by (first | lia | omega)) (by show p + (q - p) < T.size; (first | lia | omega)) (fun j hj => hno _ (by (first | lia | omega)) (by (first | lia | omega))) (by rw [e]; exact hh)
  rw [e] at ea
  have h0 : At (forSearch C7 T 1 p T.size mu) ⟨C7, T, T.size, T.size, q, false, false, true, #[], none, 10, q, #[none, none], -1, -1, [{ wait := .nextStart, pc := 10, pos := q, outermost := true }], 1⟩ := by
    rw [forSearch7 (by (first | lia | omega))]
    have e2 : (pre7 T T.size p mu).attemptFrom p true = M.attemptAt { pre7 T T.size p mu with mustAdvance := false, seen := sn } q true := by
      unfold M.attemptFrom
      rw [show (!(pre7 T T.size p mu).hasFirstSet) = false from rfl, if_neg Bool.false_ne_true]
      show (match M.admitted (pre7 T T.size p mu) (T.size + 1 - p) p _ with | .ok (some s, seen) => _ | .ok (none, seen) => _ | .error why => _) = _
      rw [ea]
    rw [e2]
    unfold M.attemptAt
    rw [attempt_eq _ _ _ _ (by show 0 + 1 + 0 ≤ 16777216; decide)]
    exact ⟨rfl, rfl, rfl, rfl, rfl, rfl, rfl, rfl, rfl, rfl, rfl, rfl, rfl, rfl, rfl, rfl, rfl, rfl, rfl⟩
  refine .mono (n := 1 + (1 + (1 + 3))) ?_ (by (first | lia | omega)) fun _ x => x
  refine .bind (at_mark (i := 0) h0 (by show 10 < C7.size; decide) rfl rfl (by show (0 : Int) ≤ -1 + 1; decide)) fun m2 g2 => ?_
  refine .bind (at_in g2 (by show 12 < C7.size; decide) rfl hq ?_) fun m3 g3 => ?_
  · have := acc7 (T.getD q 0); rw [hh] at this; exact this
  refine .bind (at_mark (i := 1) g3 (by show 19 < C7.size; decide) rfl rfl (by show (1 : Int) ≤ max (-1) 0 + 1; decide)) fun m4 g4 => ?_
  exact .mono (at_success g4 (by show 21 < C7.size; decide) rfl (fun h => by cases h) (fun h => by cases h) rfl) (Nat.le_refl _) fun _ q => ⟨q.1, q.2.1, q.2.2.1, q.2.2.2.1, q.2.2.2.2.1, q.2.2.2.2.2⟩
theorem jes_no {T : Array Nat} {p : Nat} {mu : Bool} (hn : T.size ≤ 1000000) (hp : p ≤ T.size) (hno : ∀ j, p ≤ j → j < T.size → isPlain (T.getD j 0) = true) : Ends 2 (forSearch C7 T 1 p T.size mu) Failed := by
  by_cases h : T.size < p + 1
  · have e : (forSearch C7 T 1 p T.size mu).outcome = none ∧ (forSearch C7 T 1 p T.size mu).answer = some false ∧ (forSearch C7 T 1 p T.size mu).frames = [] := by
      have e : forSearch C7 T 1 p T.size mu = (if (decide (p > T.size) || decide (T.size - p < 1)) = true then _ else _) := rfl
      rw [e, if_pos (by simp; (first | lia | omega))]
      exact ⟨rfl, rfl, rfl⟩
    exact (ends_fail e.1 e.2.1 e.2.2).mono (by (first | lia | omega)) fun _ x => x
  · obtain ⟨sn, ea⟩ := admitted_none (m := pre7 T T.size p mu) rfl (T.size - p) (T.size + 1 - p) p (pre7 T T.size p mu).seen (by (first | lia | omega)) (by show p + (T.size - p) = T.size; (first | lia | omega)) (fun j hj => hno _ (by (first | lia | omega)) (by (first | lia | omega)))
    have e2 : (pre7 T T.size p mu).attemptFrom p true = M.say { pre7 T T.size p mu with seen := sn } false := by
      unfold M.attemptFrom
      rw [show (!(pre7 T T.size p mu).hasFirstSet) = false from rfl, if_neg Bool.false_ne_true]
      show (match M.admitted (pre7 T T.size p mu) (T.size + 1 - p) p _ with | .ok (some s, seen) => _ | .ok (none, seen) => _ | .error why => _) = _
      rw [ea]
    rw [forSearch7 (by (first | lia | omega)), e2]
    exact (ends_fail rfl rfl rfl).mono (by (first | lia | omega)) fun _ x => x
end Mine

end

section
open PySem PySem.W PyProof.Rows PySem.Calls PySem.Sre
open PySem.Builtin.Re (reDrive reRunToEnd reNamed reTarget reAnswer reNewMatch reTextOf reRawItems reRawOf reRawNat reSlice reTurnSteps ReTarget)
set_option maxRecDepth 100000
set_option maxHeartbeats 4000000
set_option linter.unusedVariables false
set_option linter.unusedSimpArgs false
namespace Mine
open PySem.W.S (findZ findZ_eq attrZ attrZ_eq signatureZ_eq)
theorem own_Z {n m id : String} {name : Str} {k : Manifest.AttrKind} (hn : name.toString = m) (h : attrZ n m = some k) (hk : k = .slot ∨ k = .method ∨ k = .member) (hid : s!"{n}.{m}" = id) : builtinOwn n name = some (.builtin id) := by
  unfold builtinOwn; rw [attrZ_eq, hn, h]; subst hid; rcases hk with rfl | rfl | rfl <;> rfl
theorem own_none {n m : String} {name : Str} (hn : name.toString = m) (h : attrZ n m = none) (hs : fastStubStops n m = false) : builtinOwn n name = none := by
  unfold builtinOwn; rw [attrZ_eq, hn, h, stubStops_eq_fast, hs]; rfl
theorem mro_Z {T : String} {l : List String} (hm : (findZ T).map (·.mro) = some l) : builtinMro T = some (l.map .type) := by
  unfold builtinMro; rw [findZ_eq]
  cases hf : findZ T with
  | none => rw [hf] at hm; exact nomatch hm
  | some b => rw [hf] at hm; exact congrArg (fun l => some (l.map Value.type)) (Option.some.inj hm)
theorem walk_Z {α β : Type} {f : α → Option β} {a : α} {l : List α} {o : Option β} (h : f a = o) : List.findSome? f (a :: l) = o.or (List.findSome? f l) := by
  rw [List.findSome?_cons, h]; cases o <;> rfl
theorem look_Z {T : String} {name : Str} {l : List String} {o : Option Value} (hm : (findZ T).map (·.mro) = some l)
    (h : (l.map Value.type).findSome? (fun | .type n => builtinOwn n name | _ => none) = o) : typeLookup (.type T) name = pure o := by
  rw [typeLookup_type]; unfold builtinLookup; rw [mro_Z hm, ← h]; rfl
theorem look_1 {T : String} {name : Str} {l : List String} {o : Value} (hm : (findZ T).map (·.mro) = some (T :: l)) (h : builtinOwn T name = some o) : typeLookup (.type T) name = pure (some o) :=
  look_Z hm ((walk_Z (a := Value.type T) (l := l.map Value.type) (by exact h)).trans rfl)
theorem look_2 {T U : String} {name : Str} {o : Option Value} (hm : (findZ T).map (·.mro) = some [T, U]) (h : builtinOwn T name = none) (h' : builtinOwn U name = o) : typeLookup (.type T) name = pure o :=
  look_Z hm ((walk_Z (a := Value.type T) (l := [Value.type U]) (o := none) (by exact h)).trans (Eq.trans (by rw [Option.none_or]) ((walk_Z (a := Value.type U) (l := []) (o := o) (by exact h')).trans (by cases o <;> rfl))))
theorem sub_Z {T U : String} {l : List String} (hm : (findZ T).map (·.mro) = some l) (h : (l.map Value.type).contains (.type U) = true) : isSubtype (.type T) (.type U) = pure true := by
  rw [isSubtype_type, ← builtinMro_eq_fast, mro_Z hm]; show pure _ = _; rw [h]
theorem find_Z {T n : String} {k : Manifest.AttrKind} (hk : attrZ T n = some k) : (Manifest.find? T).bind (·.attrs.lookup n) = some k := by
  show Manifest.attrKind? T n = _; rw [attrZ_eq]; exact hk
noncomputable abbrev idOk (T n id : String) : Prop := splitId id = some (T, n) ∧ s!"{T}.{n}" = id ∧ withoutEnding? id "#opaque" = none ∧ withoutEnding? id "#data" = none ∧ plainId id = true ∧ (PySem.Str.ofString n).toString = n
theorem slot_Z {T id n : String} {l : List String} {k : Manifest.AttrKind} (hm : (findZ T).map (·.mro) = some (T :: l)) (hi : idOk T n id) (hk : attrZ T n = some k) (hkk : k = .slot ∨ k = .method) : Slot T (PySem.Str.ofString n) id := by
  obtain ⟨hs, hid, ho, hd, hq, hn⟩ := hi
  refine .of (owner := T) (n := n) (look_1 hm (own_Z hn hk (hkk.elim .inl (.inr ∘ .inl)) hid)) hs ho hd (by rw [find_Z hk]; rcases hkk with rfl | rfl; exact .inl rfl; exact .inr rfl)
    (sub_Z hm (show ((Value.type T == Value.type T) || _) = true by rw [BEq.rfl]; rfl)) hq
theorem type_Z {id T n t : String} {k : Manifest.AttrKind} (hi : idOk T n id) (hk : attrZ T n = some k) (ht : k = .method ∧ t = "method_descriptor" ∨ k = .member ∧ t = "member_descriptor") : typeOf (.builtin id) = pure (.type t) := by
  have hk' : builtinKind id = some k := by unfold builtinKind; rw [hi.1]; exact find_Z hk
  show builtinType _ = _; unfold builtinType; rw [hi.2.2.1, hi.2.2.2.1, hk']; rcases ht with ⟨rfl, rfl⟩ | ⟨rfl, rfl⟩ <;> rfl
theorem ok_ga : idOk "object" "__getattribute__" "object.__getattribute__" := by decide +kernel
theorem own_ga : builtinOwn "object" "__getattribute__" = some (.builtin "object.__getattribute__") := own_Z (m := "__getattribute__") (k := .slot) ok_ga.2.2.2.2.2 (by kernel_rfl) (.inl rfl) ok_ga.2.1
theorem look_ga {T : String} (hm : (findZ T).map (·.mro) = some [T, "object"]) (h1 : attrZ T "__getattribute__" = none) (h2 : fastStubStops T "__getattribute__" = false) : typeLookup (.type T) "__getattribute__" = pure (some (.builtin "object.__getattribute__")) :=
  look_2 hm (own_none (m := "__getattribute__") (by decide +kernel) h1 h2) own_ga
theorem plain_Z {T : String} (hm : (findZ T).map (·.mro) = some [T, "object"]) (h1 : attrZ T "__getattribute__" = none) (h2 : fastStubStops T "__getattribute__" = false)
    (h3 : attrZ T "__getattr__" = none) (h4 : fastStubStops T "__getattr__" = false) : PlainAttrs T :=
  ⟨⟨_, look_ga hm h1 h2, F.canon_object_ga⟩,
   look_2 hm (own_none (m := "__getattr__") (by decide +kernel) h3 h4) (own_none (m := "__getattr__") (by decide +kernel) (by kernel_rfl) (by kernel_rfl))⟩
theorem mro_pat : (findZ "re.Pattern").map (·.mro) = some ["re.Pattern", "object"] := by kernel_rfl
theorem mro_match : (findZ "re.Match").map (·.mro) = some ["re.Match", "object"] := by kernel_rfl
theorem pa_pat : PlainAttrs "re.Pattern" := plain_Z mro_pat (by kernel_rfl) (by kernel_rfl) (by kernel_rfl) (by kernel_rfl)
theorem pa_match : PlainAttrs "re.Match" := plain_Z mro_match (by kernel_rfl) (by kernel_rfl) (by kernel_rfl) (by kernel_rfl)
theorem ok_search : idOk "re.Pattern" "search" "re.Pattern.search" := by decide +kernel
theorem kind_search : attrZ "re.Pattern" "search" = some .method := by kernel_rfl
theorem slot_search : Slot "re.Pattern" "search" "re.Pattern.search" := slot_Z mro_pat ok_search kind_search (.inr rfl)
theorem type_search : typeOf (.builtin "re.Pattern.search") = pure (.type "method_descriptor") := type_Z ok_search kind_search (.inl ⟨rfl, rfl⟩)
theorem entry_search : entryFor table "re.Pattern.search" = some Builtin.«re.Pattern.search» := entryFor_of_tree (by kernel_rfl)
theorem args_search (a b : Value) : argsOk "re.Pattern.search" ⟨[a, b], []⟩ := by unfold argsOk; rw [signatureZ_eq]; kernel_rfl
theorem ok_full : idOk "re.Pattern" "fullmatch" "re.Pattern.fullmatch" := by decide +kernel
theorem kind_full : attrZ "re.Pattern" "fullmatch" = some .method := by kernel_rfl
theorem slot_full : Slot "re.Pattern" "fullmatch" "re.Pattern.fullmatch" := slot_Z mro_pat ok_full kind_full (.inr rfl)
theorem type_full : typeOf (.builtin "re.Pattern.fullmatch") = pure (.type "method_descriptor") := type_Z ok_full kind_full (.inl ⟨rfl, rfl⟩)
theorem entry_full : entryFor table "re.Pattern.fullmatch" = some Builtin.«re.Pattern.fullmatch» := entryFor_of_tree (by kernel_rfl)
theorem args_full (a b : Value) : argsOk "re.Pattern.fullmatch" ⟨[a, b], []⟩ := by unfold argsOk; rw [signatureZ_eq]; kernel_rfl
theorem ok_sub : idOk "re.Pattern" "sub" "re.Pattern.sub" := by decide +kernel
theorem kind_sub : attrZ "re.Pattern" "sub" = some .method := by kernel_rfl
theorem slot_sub : Slot "re.Pattern" "sub" "re.Pattern.sub" := slot_Z mro_pat ok_sub kind_sub (.inr rfl)
theorem type_sub : typeOf (.builtin "re.Pattern.sub") = pure (.type "method_descriptor") := type_Z ok_sub kind_sub (.inl ⟨rfl, rfl⟩)
theorem entry_sub : entryFor table "re.Pattern.sub" = some Builtin.«re.Pattern.sub» := entryFor_of_tree (by kernel_rfl)
theorem args_sub (a b c : Value) : argsOk "re.Pattern.sub" ⟨[a, b, c], []⟩ := by unfold argsOk; rw [signatureZ_eq]; kernel_rfl
theorem ok_subn : idOk "re.Pattern" "subn" "re.Pattern.subn" := by decide +kernel
theorem kind_subn : attrZ "re.Pattern" "subn" = some .method := by kernel_rfl
theorem slot_subn : Slot "re.Pattern" "subn" "re.Pattern.subn" := slot_Z mro_pat ok_subn kind_subn (.inr rfl)
theorem type_subn : typeOf (.builtin "re.Pattern.subn") = pure (.type "method_descriptor") := type_Z ok_subn kind_subn (.inl ⟨rfl, rfl⟩)
theorem entry_subn : entryFor table "re.Pattern.subn" = some Builtin.«re.Pattern.subn» := entryFor_of_tree (by kernel_rfl)
theorem args_subn (a b c : Value) : argsOk "re.Pattern.subn" ⟨[a, b, c], []⟩ := by unfold argsOk; rw [signatureZ_eq]; kernel_rfl
theorem entry_loop : entryFor table "re.Pattern.sub.loop" = some Builtin.«re.Pattern.sub.loop» := entryFor_of_tree (by kernel_rfl)
theorem ok_group : idOk "re.Match" "group" "re.Match.group" := by decide +kernel
theorem kind_group : attrZ "re.Match" "group" = some .method := by kernel_rfl
theorem slot_group : Slot "re.Match" "group" "re.Match.group" := slot_Z mro_match ok_group kind_group (.inr rfl)
theorem type_group : typeOf (.builtin "re.Match.group") = pure (.type "method_descriptor") := type_Z ok_group kind_group (.inl ⟨rfl, rfl⟩)
theorem entry_group : entryFor table "re.Match.group" = some Builtin.«re.Match.group» := entryFor_of_tree (by kernel_rfl)
theorem args_group (a b : Value) : argsOk "re.Match.group" ⟨[a, b], []⟩ := by unfold argsOk; rw [signatureZ_eq]; kernel_rfl
theorem ok_span : idOk "re.Match" "span" "re.Match.span" := by decide +kernel
theorem kind_span : attrZ "re.Match" "span" = some .method := by kernel_rfl
theorem slot_span : Slot "re.Match" "span" "re.Match.span" := slot_Z mro_match ok_span kind_span (.inr rfl)
theorem type_span : typeOf (.builtin "re.Match.span") = pure (.type "method_descriptor") := type_Z ok_span kind_span (.inl ⟨rfl, rfl⟩)
theorem entry_span : entryFor table "re.Match.span" = some Builtin.«re.Match.span» := entryFor_of_tree (by kernel_rfl)
theorem args_span (a b : Value) : argsOk "re.Match.span" ⟨[a, b], []⟩ := by unfold argsOk; rw [signatureZ_eq]; kernel_rfl

end Mine

end

section
open PySem PySem.W PyProof.Rows PySem.Calls PySem.Sre
open PySem.Builtin.Re (reDrive reRunToEnd reNamed reTarget reAnswer reNewMatch reTextOf reRawItems reRawOf reRawNat reSlice reTurnSteps ReTarget)
set_option maxRecDepth 100000
set_option maxHeartbeats 4000000
set_option linter.unusedVariables false
set_option linter.unusedSimpArgs false
namespace Mine

section
variable {M' : Model} {A : Around} {E : Value → Shared → Prop} {s : Shared}

theorem wp_drive {Q : M → Shared → Prop} : ∀ (K n : Nat) (m : M), n < 4 * K → (m.runFor n).outcome.isSome = true → Q (m.runFor n) s → wpAny M' A (reDrive K m) Q E s
  | 0, n, m, h, _, _ => by (first | lia | omega)
  | K + 1, n, m, h, ho, hq => by
    show wpAny M' A (if ((m.runFor 4).outcome.isSome) = true then pure (m.runFor 4) else (rule "sre.turn" >>= fun _ => reDrive K (m.runFor 4))) Q E s
    by_cases h4 : (m.runFor 4).outcome.isSome = true
    · rw [if_pos h4]
      have e : m.runFor 4 = m.runFor n := by
        by_cases hn : 4 ≤ n
        · rw [show n = 4 + (n - 4) by (first | lia | omega), runFor_add, runFor_done _ h4]
        · rw [show (4 : Nat) = n + (4 - n) by (first | lia | omega), runFor_add, runFor_done _ ho]
      rw [e]
      exact wpAny_pure hq
    · rw [if_neg h4]
      have hn : 4 < n := by
        rcases Nat.lt_or_ge 4 n with q | q
        · exact q
        · exfalso
          apply h4
          rw [show (4 : Nat) = n + (4 - n) by (first | lia | omega), runFor_add, runFor_done _ ho]
          exact ho
      have e : (m.runFor 4).runFor (n - 4) = m.runFor n := by rw [← runFor_add]; congr 1; (first | lia | omega)
      exact wpAny_bind (wpAny_rule (wp_drive K (n - 4) (m.runFor 4) (by (first | lia | omega)) (by rw [e]; exact ho) (by rw [e]; exact hq)))

theorem wp_marks {α : Type} {f : α → Bool} {g : α → String} {Q : PUnit → Shared → Prop} (hq : Q PUnit.unit s) : ∀ l : List α, wpAny M' A (forIn l PUnit.unit fun i _ => do
      if f i then rule (g i)
      pure (ForInStep.yield PUnit.unit)) Q E s
  | [] => by simp only [List.forIn_nil]; exact wpAny_pure hq
  | a :: l => by
    simp only [List.forIn_cons]
    refine wpAny_bind ?_
    by_cases h : f a = true
    · rw [if_pos h]; exact wpAny_bind (wpAny_rule (wpAny_pure (wp_marks hq l)))
    · rw [if_neg h]; exact wpAny_pure (wp_marks hq l)

theorem wp_run {R : M → Prop} {m : M} {n : Nat} {Q : Option M → Shared → Prop} (h : Ends n m R) (hn : n < 2 ^ 64) (hR : ∀ m', R m' → (Matched m' ∧ Q (some m') s) ∨ (Failed m' ∧ Q none s)) : wpAny M' A (reRunToEnd m) Q E s := by
  obtain ⟨k, hk, r⟩ := h
  have hO := hR _ r
  unfold reRunToEnd
  refine wpAny_bind (wp_drive (2 ^ 64) k m (by (first | lia | omega)) ?_ ?_)
  · rcases hO with ⟨h, _⟩ | ⟨h, _⟩
    · unfold Matched at h; split at h
      · rename_i e; rw [e]; rfl
      · exact h.elim
    · unfold Failed at h; split at h
      · rename_i e; rw [e]; rfl
      · exact h.elim
  · refine wpAny_bind (wp_marks ?_ _)
    rcases hO with ⟨h, q⟩ | ⟨h, q⟩
    · unfold Matched at h; split at h
      · rename_i e; simp only [e]; exact wpAny_pure q
      · exact h.elim
    · unfold Failed at h; split at h
      · rename_i e; simp only [e]; exact wpAny_pure q
      · exact h.elim
end

/-- a compiled pattern in the heap -/
structure PatAt (h : Heap) (P : Addr) (C : Array Nat) (g : Nat) : Prop where
  ok : ∃ pv fl c o items n, h.get? P = some { cls := .type "re.Pattern", data := .fields #[pv, fl, .int g 0, .none, .none, .ref c, .int 0 0] } ∧ h.get? c = some o ∧ o.data = .seq items n ∧ (items.map reRawOf).map (·.toNat) = C

theorem PatAt.keeps {h h' : Heap} {P : Addr} {C : Array Nat} {g : Nat} (x : PatAt h P C g) (k : ∀ b o, h.get? b = some o → h'.get? b = some o) : PatAt h' P C g :=
  let ⟨pv, fl, c, o, items, n, h1, h2, h3, h4⟩ := x.ok
  ⟨⟨pv, fl, c, o, items, n, k _ _ h1, k _ _ h2, h3, h4⟩⟩
theorem PatAt.typeIs {s : Shared} {P : Addr} {C : Array Nat} {g : Nat} (x : PatAt s.heap P C g) : s.TypeIs (.ref P) "re.Pattern" :=
  let ⟨pv, fl, c, o, items, n, h1, h2, h3, h4⟩ := x.ok
  ⟨_, h1, rfl⟩
theorem PatAt.noDict {s : Shared} {P : Addr} {C : Array Nat} {g : Nat} (x : PatAt s.heap P C g) : ∀ a, Value.ref P = .ref a → ∃ o, s.heap.get? a = some o ∧ o.dict = none :=
  let ⟨pv, fl, c, o, items, n, h1, h2, h3, h4⟩ := x.ok
  fun a e => by cases e; exact ⟨_, h1, rfl⟩

/-- what a match looks like -/
noncomputable def matchObj (x : PySem.Str) (t : Tok) (P : Addr) (lim : Nat) (li : Int) (tup : Addr) : Obj := { cls := .type "re.Match", data := .fields #[.str x t, .ref P, .int 0 0, .int lim 0, .int li 0, .ref tup] }
noncomputable def spanObj (xs : List Int) : Obj := { cls := .type "tuple", data := .seq (xs.map fun i => Value.int i 0).toArray }

section
variable {prog : Program} {w : World} {A : Around} {E : Value → Shared → Prop} {s : Shared}

theorem wp_target {P : Addr} {C : Array Nat} {g : Nat} {x : PySem.Str} {t : Tok} {id f : String} {Q : ReTarget → Shared → Prop} (hP : PatAt s.heap P C g) (hx : x.length ≤ 1000000)
    (h : Q { pattern := .ref P, string := .str x t, code := C, text := x.cps, kind := 0, groups := g, pos := 0, lim := x.cps.size } s) :
    wpAny (model prog w) A (reTarget id f ⟨[.ref P, .str x t], []⟩) Q E s := by
  obtain ⟨pv, fl, c, o, items, n, h1, h2, h3, h4⟩ := hP.ok
  unfold reTarget
  have e : reNamed id f ["string", "pos", "endpos"] 1 [.str x t] [] = pure [some (.str x t), none, none] := by rfl
  dsimp only
  rw [e]
  refine wpAny_bind (wpAny_pure ?_)
  dsimp only
  refine wpAny_bind (wpAny_pure ?_)
  refine wpAny_bind (wpAny_pure ?_)
  refine wpAny_bind (wpAny_fieldsOf h1 rfl ?_)
  have e2 : reTextOf (.str x t) = pure (x.cps, 0) := rfl
  rw [e2]
  refine wpAny_bind (wpAny_pure ?_)
  dsimp only
  have e3 : reRawNat ((#[pv, fl, .int g 0, .none, .none, .ref c, .int 0 0] : Array Value).getD 6 .none) = 0 := rfl
  rw [e3]
  refine wpAny_bind (wpAny_pure ?_)
  refine wpAny_bind ?_
  show wpAny _ _ (reRawItems (.ref c)) _ _ _
  unfold reRawItems
  refine wpAny_bind (wpAny_seqItems h2 h3 (wpAny_pure (wpAny_pure ?_)))
  have e4 : min ((2 ^ 63 - 1 : Int)).toNat x.cps.size = x.cps.size := by
    have : x.cps.size ≤ 1000000 := hx
    (first | lia | omega)
  have e5 : min (Int.toNat 0) x.cps.size = 0 := by simp
  show Q { pattern := .ref P, string := .str x t, code := (((some items).getD #[]).map reRawOf).map (·.toNat), text := x.cps, kind := 0, groups := ((g : Int)).toNat, pos := min (Int.toNat 0) x.cps.size, lim := min ((2 ^ 63 - 1 : Int)).toNat x.cps.size } s
  rw [e4, e5]
  show Q { pattern := .ref P, string := .str x t, code := (items.map reRawOf).map (·.toNat), text := x.cps, kind := 0, groups := g, pos := 0, lim := x.cps.size } s
  rw [h4]
  exact h

/-- a match is made -/
theorem wp_newMatch {P : Addr} {x : PySem.Str} {t : Tok} {m : M} {b e st hd lim : Nat} {Q : Value → Shared → Prop} (hf : Found m b e st hd) (hbe : b ≤ e)
    (h : ∀ h', h' = (s.heap.push (spanObj [st, hd, b, e])).push (matchObj x t P lim 1 s.heap.objs.size) → Q (.ref (s.heap.objs.size + 1)) { s with heap := h' }) :
    wpAny (model prog w) A (reNewMatch (.ref P) (.str x t) 1 0 lim m) Q E s := by
  unfold reNewMatch
  have e1 : m.marks.getD (2 * 0) none = some b := by rw [hf.marks]; rfl
  have e2 : m.marks.getD (2 * 0 + 1) none = some e := by rw [hf.marks]; rfl
  have el : ((2 * 0 + 1 : Nat) : Int) ≤ m.lastmark := by rw [hf.lm]; decide
  have ebe : (decide (e < b)) = false := by simpa using hbe
  simp only [show List.range 1 = [0] from rfl, List.flatMap_cons, List.flatMap_nil, List.any_cons, List.any_nil, e1, e2, el, if_true, ebe, Bool.and_false, Bool.or_false, Bool.false_eq_true, if_false, List.append_nil]
  refine wpAny_bind ?_
  refine wpAny_newObj_type ?_ (by show (Array.size _) ≤ sizeLine; simp [sizeLine])
  refine wpAny_newObj_type ?_ (by show (Array.size _) ≤ sizeLine + 2; simp [sizeLine])
  have := h _ rfl
  rw [hf.li, hf.st, hf.hd]
  have es : (s.heap.push (spanObj [st, hd, b, e])).objs.size = s.heap.objs.size + 1 := Heap.size_push ..
  rw [← es] at this
  exact this
end

section
variable {prog : Program} {w : World} {A : Around} {E : Value → Shared → Prop} {s : Shared} {h₀ : Heap} {L : Addr} {m : PySem.Str → Option Value} {news : List (Addr × Obj)}

theorem spans_eq {a b c d : Int} : Array.map reRawOf ((some (List.map (fun i => Value.int i 0) [a, b, c, d]).toArray).getD #[]) = #[a, b, c, d] := by simp [reRawOf]

theorem match_K {P : Addr} {x : PySem.Str} {t : Tok} {b e st hd lim : Nat} {Q : Value → Shared → Prop} (F : Fr h₀ L s.heap m) (N : News h₀ L s.heap news)
    (h : ∀ a tup h', Fr h₀ L h' m → News h₀ L h' ((a, matchObj x t P lim 1 tup) :: (tup, spanObj [st, hd, b, e]) :: news) → (∀ p ∈ news, p.1 < tup) → tup < a → Q (.ref a) { s with heap := h' }) :
    ∀ h', h' = (s.heap.push (spanObj [st, hd, b, e])).push (matchObj x t P lim 1 s.heap.objs.size) → Q (.ref (s.heap.objs.size + 1)) { s with heap := h' } := by
  rintro h' rfl
  have F1 := F.push (spanObj [st, hd, b, e])
  have N1 := N.push F (spanObj [st, hd, b, e])
  have F2 := F1.push (matchObj x t P lim 1 s.heap.objs.size)
  have N2 := N1.push F1 (matchObj x t P lim 1 s.heap.objs.size)
  rw [Heap.size_push] at N2
  exact h _ _ _ F2 N2 (fun p hp => Heap.lt_size (N p hp).1) (Nat.lt_succ_self _)

theorem search_found {P : Addr} {C : Array Nat} {x : PySem.Str} {t : Tok} {b e st hd n : Nat} {Q : Value → Shared → Prop} (F : Fr h₀ L s.heap m) (N : News h₀ L s.heap news) (hP : PatAt s.heap P C 1) (hx : x.length ≤ 1000000)
    (hE : Ends n (forSearch C x.cps 1 0 x.cps.size false) (fun m => Found m b e st hd)) (hn : n < 2 ^ 64) (hbe : b ≤ e)
    (h : ∀ a tup h', Fr h₀ L h' m → News h₀ L h' ((a, matchObj x t P x.cps.size 1 tup) :: (tup, spanObj [st, hd, b, e]) :: news) → (∀ p ∈ news, p.1 < tup) → tup < a → Q (.ref a) { s with heap := h' }) :
    wpAny (model prog w) A (call (.builtin "re.Pattern.search") [.ref P, .str x t]) Q E s := by
  refine wpAny_call_entry slot_search hP.typeIs entry_search ?_ (args_search _ _)
  show wpAny _ _ (reTarget "re.Pattern.search" "search" ⟨[.ref P, .str x t], []⟩ >>= fun t => reAnswer t (forSearch t.code t.text t.groups t.pos t.lim false)) _ _ _
  refine wpAny_bind (wp_target hP hx ?_)
  unfold reAnswer
  refine wpAny_bind (wp_run hE hn fun m' hf => .inl ⟨hf.ok, ?_⟩)
  refine wpAny_bind (wp_newMatch hf hbe ?_)
  intro h' e'
  exact wpAny_pure ⟨_, rfl, match_K F N h h' e'⟩
theorem search_none {P : Addr} {C : Array Nat} {x : PySem.Str} {t : Tok} {n : Nat} {Q : Value → Shared → Prop} (hP : PatAt s.heap P C 1) (hx : x.length ≤ 1000000)
    (hE : Ends n (forSearch C x.cps 1 0 x.cps.size false) Failed) (hn : n < 2 ^ 64) (h : Q .none s) :
    wpAny (model prog w) A (call (.builtin "re.Pattern.search") [.ref P, .str x t]) Q E s := by
  refine wpAny_call_entry slot_search hP.typeIs entry_search ?_ (args_search _ _)
  show wpAny _ _ (reTarget "re.Pattern.search" "search" ⟨[.ref P, .str x t], []⟩ >>= fun t => reAnswer t (forSearch t.code t.text t.groups t.pos t.lim false)) _ _ _
  refine wpAny_bind (wp_target hP hx ?_)
  unfold reAnswer
  exact wpAny_bind (wp_run hE hn fun m' hf => .inr ⟨hf, wpAny_pure ⟨_, rfl, h⟩⟩)

theorem group_1 {a tup P : Addr} {x : PySem.Str} {t u : Tok} {lim : Nat} {li : Int} {b e st hd : Nat} {Q : Value → Shared → Prop} (ha : s.heap.get? a = some (matchObj x t P lim li tup)) (ht : s.heap.get? tup = some (spanObj [st, hd, b, e])) (hx : x.length ≤ 1000000)
    (h : ∀ tk k, Q (.str ⟨x.cps.extract b e⟩ tk) { s with toks := k }) :
    wpAny (model prog w) A (call (.builtin "re.Match.group") [.ref a, .int 1 u]) Q E s := by
  refine wpAny_call_entry slot_group ⟨_, ha, rfl⟩ entry_group ?_ (args_group _ _)
  show wpAny _ _ (Builtin.Re.reFound (.ref a) >>= fun x => Builtin.Re.reGroupNumber x (.int 1 u) >>= fun g => Builtin.Re.reGroupText x g .none >>= fun v => ret v) _ _ _
  unfold Builtin.Re.reFound
  refine wpAny_bind (wpAny_bind (wpAny_fieldsOf ha rfl ?_))
  show wpAny _ _ (reRawItems (.ref tup) >>= _) _ _ _
  unfold reRawItems
  refine wpAny_bind (wpAny_bind (wpAny_seqItems ht rfl (wpAny_pure (wpAny_pure ?_))))
  have e0 : ∀ y : Array Value, Builtin.Re.reGroupNumber { fields := y, spans := #[(st : Int), hd, b, e] } (.int 1 u) = pure 1 := fun _ => rfl
  refine wpAny_bind ?_
  rw [spans_eq, e0]
  refine wpAny_pure ?_
  have e1 : ∀ y : Array Value, Builtin.Re.reGroupText { fields := y, spans := #[(st : Int), hd, b, e] } 1 .none = (if (b : Int) < 0 || (e : Int) < 0 then pure .none else do
    let (text, kind) ← reTextOf (y.getD 0 .none)
    reSlice text kind (b : Int).toNat (e : Int).toNat) := fun _ => rfl
  refine wpAny_bind ?_
  rw [e1]
  rw [if_neg (by simp)]
  show wpAny _ _ (mkStr ⟨x.cps.extract b e⟩) _ _ _
  refine wpAny_mkStr (wpAny_pure ⟨_, rfl, h _ _⟩) ?_
  show (x.cps.extract b e).size ≤ sizeLine
  have : x.cps.size ≤ 1000000 := hx
  rw [Array.size_extract, sizeLine_eq]
  (first | lia | omega)
theorem span_0 {a tup P : Addr} {x : PySem.Str} {t u : Tok} {lim : Nat} {li : Int} {b e st hd : Nat} {Q : Value → Shared → Prop} (F : Fr h₀ L s.heap m) (N : News h₀ L s.heap news) (ha : s.heap.get? a = some (matchObj x t P lim li tup)) (ht : s.heap.get? tup = some (spanObj [st, hd, b, e]))
    (h : ∀ l h' t1 t2 k, Fr h₀ L h' m → News h₀ L h' ((l, { cls := .type "tuple", data := .seq #[.int st t1, .int hd t2] }) :: news) → (∀ p ∈ news, p.1 < l) → Q (.ref l) { s with heap := h', toks := k }) :
    wpAny (model prog w) A (call (.builtin "re.Match.span") [.ref a, .int 0 u]) Q E s := by
  refine wpAny_call_entry slot_span ⟨_, ha, rfl⟩ entry_span ?_ (args_span _ _)
  show wpAny _ _ ((Builtin.Re.reFound (.ref a) >>= fun x => Builtin.Re.reGroupNumber x (.int 0 u) >>= fun g => pure (x, g)) >>= fun xg => mkInt (xg.1.spans.getD (2 * xg.2) (-1)) >>= fun i => mkInt (xg.1.spans.getD (2 * xg.2 + 1) (-1)) >>= fun j => newTuple [i, j] >>= fun v => ret v) _ _ _
  unfold Builtin.Re.reFound
  refine wpAny_bind (wpAny_bind (wpAny_bind (wpAny_fieldsOf ha rfl ?_)))
  show wpAny _ _ (reRawItems (.ref tup) >>= _) _ _ _
  unfold reRawItems
  refine wpAny_bind (wpAny_bind (wpAny_seqItems ht rfl (wpAny_pure (wpAny_pure ?_))))
  have e0 : ∀ y : Array Value, Builtin.Re.reGroupNumber { fields := y, spans := #[(st : Int), hd, b, e] } (.int 0 u) = pure 0 := fun _ => rfl
  refine wpAny_bind ?_
  rw [spans_eq, e0]
  refine wpAny_pure (wpAny_pure ?_)
  refine wpAny_bind (wpAny_mkInt (wpAny_bind (wpAny_mkInt ?_)))
  refine wpAny_bind (newTuple_N (s := { s with toks := s.toks + 1 + 1 }) F N (fun h' F' N' => ?_) (by show 2 ≤ sizeLine; rw [sizeLine_eq]; decide))
  exact wpAny_pure ⟨_, rfl, h _ h' _ _ _ F' N' fun p hp => Heap.lt_size (N p hp).1⟩
theorem full_yes {P : Addr} {x : PySem.Str} {t : Tok} {n : Nat} {Q : Value → Shared → Prop} (F : Fr h₀ L s.heap m) (N : News h₀ L s.heap news) (hP : PatAt s.heap P C6 0) (hx : x.length ≤ 1000000)
    (hE : Ends n (forMatch C6 x.cps 0 0 x.cps.size true false) Matched) (hn : n < 2 ^ 64)
    (h : ∀ a o h', Fr h₀ L h' m → News h₀ L h' ((a, o) :: news) → o.cls = .type "re.Match" → (∀ p ∈ news, p.1 < a) → Q (.ref a) { s with heap := h' }) :
    wpAny (model prog w) A (call (.builtin "re.Pattern.fullmatch") [.ref P, .str x t]) Q E s := by
  refine wpAny_call_entry slot_full hP.typeIs entry_full ?_ (args_full _ _)
  show wpAny _ _ (reTarget "re.Pattern.fullmatch" "fullmatch" ⟨[.ref P, .str x t], []⟩ >>= fun t => reAnswer t (forMatch t.code t.text t.groups t.pos t.lim true false)) _ _ _
  refine wpAny_bind (wp_target hP hx ?_)
  unfold reAnswer
  refine wpAny_bind (wp_run hE hn fun m' hf => .inl ⟨hf, ?_⟩)
  refine wpAny_bind ?_
  unfold reNewMatch
  simp only [show List.range 0 = [] from rfl, List.flatMap_nil, List.any_nil, Bool.false_eq_true, if_false]
  refine wpAny_bind ?_
  refine newTuple_N F N (fun h1 F1 N1 => ?_) (by show 2 ≤ sizeLine; rw [sizeLine_eq]; decide)
  refine wpAny_newObj_type ?_ (by show (Array.size _) ≤ sizeLine + 2; simp [sizeLine])
  have F2 := F1.push { cls := .type "re.Match", data := .fields [.str x t, .ref P, rawInt 0, rawInt x.cps.size, rawInt m'.lastindex, .ref s.heap.objs.size].toArray }
  have N2 := N1.push F1 { cls := .type "re.Match", data := .fields [.str x t, .ref P, rawInt 0, rawInt x.cps.size, rawInt m'.lastindex, .ref s.heap.objs.size].toArray }
  exact wpAny_pure ⟨_, rfl, h _ _ _ F2 (fun p hp => N2 p (by rcases List.mem_cons.mp hp with rfl | hp; exact .head _; exact .tail _ (.tail _ hp))) rfl fun p hp => Heap.lt_size (N1 p (.tail _ hp)).1⟩
theorem full_no {P : Addr} {x : PySem.Str} {t : Tok} {n : Nat} {Q : Value → Shared → Prop} (hP : PatAt s.heap P C6 0) (hx : x.length ≤ 1000000)
    (hE : Ends n (forMatch C6 x.cps 0 0 x.cps.size true false) Failed) (hn : n < 2 ^ 64) (h : Q .none s) :
    wpAny (model prog w) A (call (.builtin "re.Pattern.fullmatch") [.ref P, .str x t]) Q E s := by
  refine wpAny_call_entry slot_full hP.typeIs entry_full ?_ (args_full _ _)
  show wpAny _ _ (reTarget "re.Pattern.fullmatch" "fullmatch" ⟨[.ref P, .str x t], []⟩ >>= fun t => reAnswer t (forMatch t.code t.text t.groups t.pos t.lim true false)) _ _ _
  refine wpAny_bind (wp_target hP hx ?_)
  unfold reAnswer
  exact wpAny_bind (wp_run hE hn fun m' hf => .inr ⟨hf, wpAny_pure ⟨_, rfl, h⟩⟩)
end
end Mine

end

section
open PySem PySem.W PyProof.Rows PySem.Calls PySem.Sre
set_option maxRecDepth 100000
set_option maxHeartbeats 4000000
set_option linter.unusedVariables false
open PySem.W.S (findZ attrZ signatureZ_eq)
namespace Mine
theorem mro_md : (findZ "member_descriptor").map (·.mro) = some ["member_descriptor", "object"] := by kernel_rfl
theorem slot_md_get : Slot "member_descriptor" "__get__" "member_descriptor.__get__" := slot_Z mro_md (n := "__get__") (k := .slot) (by decide +kernel) (by kernel_rfl) (.inl rfl)
theorem slot_md_set : Slot "member_descriptor" "__set__" "member_descriptor.__set__" := slot_Z mro_md (n := "__set__") (k := .slot) (by decide +kernel) (by kernel_rfl) (.inl rfl)
theorem entry_md_get : entryFor table "member_descriptor.__get__" = some Builtin.«member_descriptor.__get__» := entryFor_of_tree (by kernel_rfl)
theorem args_md_get (a b c : Value) : argsOk "member_descriptor.__get__" ⟨[a, b, c], []⟩ := by unfold argsOk; rw [signatureZ_eq]; kernel_rfl
theorem kind_ms : attrZ "re.Match" "string" = some .member := by kernel_rfl
theorem ok_ms : idOk "re.Match" "string" "re.Match.string" := by decide +kernel
theorem typeOf_ms : typeOf (.builtin "re.Match.string") = pure (.type "member_descriptor") := type_Z ok_ms kind_ms (.inr ⟨rfl, rfl⟩)
theorem entry_ms : entryFor table "re.Match.string" = some Builtin.«re.Match.string» := entryFor_of_tree (by kernel_rfl)
theorem owner_ms : (".".intercalate ("re.Match.string".cutAt '.').dropLast) = "re.Match" := by
  have e0 : "re.Match.string".cutAt '.' = ["re", "Match", "string"] := by first | rfl | decide +kernel
  rw [e0]; decide +kernel
theorem lk_ms : typeLookup (.type "re.Match") "string" = pure (some (.builtin "re.Match.string")) := look_1 mro_match (own_Z (m := "string") ok_ms.2.2.2.2.2 kind_ms (.inr (.inr rfl)) ok_ms.2.1)
theorem sub_ms : isSubtype (.type "re.Match") (.type "re.Match") = pure true := sub_Z mro_match (by decide +kernel)
theorem slot_mga : Slot "re.Match" "__getattribute__" "object.__getattribute__" :=
  .of (owner := "object") (n := "__getattribute__") (look_ga mro_match (by kernel_rfl) (by kernel_rfl)) ok_ga.1 ok_ga.2.2.1 ok_ga.2.2.2.1 (.inl (find_Z (by kernel_rfl))) (sub_Z mro_match (by decide +kernel)) ok_ga.2.2.2.2.1
theorem entry_oga : entryFor table "object.__getattribute__" = some Builtin.«object.__getattribute__» := entryFor_of_tree (by kernel_rfl)
theorem args_oga (a b : Value) : argsOk "object.__getattribute__" ⟨[a, b], []⟩ := by unfold argsOk; rw [signatureZ_eq]; kernel_rfl

section
variable {prog : Program} {w : World} {A : Around} {E : Value → Shared → Prop} {h : Heap} {g : Array GenState} {d : Drawn} {t : Nat} {os : OsState} {a : Addr} {o : Obj} {vs : Array Value} {a0 : Value}

theorem string_get {R : Result → Shared → Prop} (hx : h.get? a = some o) (hc : o.cls = .type "re.Match") (hd : o.data = .fields vs) (h0 : vs[0]? = some a0) (hq : R (.ok (.ret a0)) ⟨h, g, d, t, os⟩) :
    codeAny (model prog w) A (.call (.builtin "member_descriptor.__get__") ⟨[.builtin "re.Match.string", .ref a, .type "re.Match"], []⟩) R ⟨h, g, d, t, os⟩ := by
  have hT : (⟨h, g, d, t, os⟩ : Shared).TypeIs (.ref a) "re.Match" := ⟨_, hx, hc⟩
  have hT5 : (⟨h, g, d, t, os⟩ : Shared).TypeIs (.builtin "re.Match.string") "member_descriptor" := typeOf_ms
  have f8 : isSubtype (.type "re.Match") (.type (".".intercalate ("re.Match.string".cutAt '.').dropLast)) = pure true := by rw [owner_ms]; exact sub_ms
  refine codeAny_call_builtin slot_md_get.plain entry_md_get (slot_md_get.check _ _ _ _ _ _ _ _ hT5 (args_md_get _ _ _) ?_)
  repeat (any_goals (first | assumption | wp_step))
  refine ⟨Code.quiet_builtin _ (by decide +kernel), codeAny_builtin entry_ms ?_⟩
  show wpAny _ _ (field (.ref a) 0 >>= fun v => ret v) _ _ _
  exact wpAny_bind (wpAny_field hx hd h0 (wpAny_pure hq))

theorem string_entry {tk : Tok} {Q : Fin → Shared → Prop} (hx : h.get? a = some o) (hc : o.cls = .type "re.Match") (hd : o.data = .fields vs) (h0 : vs[0]? = some a0) (hq : Q (.done (.ret a0)) ⟨h, g, d, t, os⟩) :
    wpAny (model prog w) A (Builtin.«object.__getattribute__» ⟨[.ref a, .str "string" tk], []⟩) Q E ⟨h, g, d, t, os⟩ := by
  have hT : (⟨h, g, d, t, os⟩ : Shared).TypeIs (.ref a) "re.Match" := ⟨_, hx, hc⟩
  have hT5 : (⟨h, g, d, t, os⟩ : Shared).TypeIs (.builtin "re.Match.string") "member_descriptor" := typeOf_ms
  have f4 := lk_ms
  have f5 := typeOf_ms
  have f6 := slot_md_get.lookup
  have f7 := slot_md_set.lookup
  repeat (any_goals (first | assumption | wp_step))
  refine string_get hx hc hd h0 ?_
  repeat (any_goals (first | assumption | wp_step))

theorem string_call {tk : Tok} {R : Result → Shared → Prop} (hx : h.get? a = some o) (hc : o.cls = .type "re.Match") (hd : o.data = .fields vs) (h0 : vs[0]? = some a0) (hq : R (.ok (.ret a0)) ⟨h, g, d, t, os⟩) :
    codeAny (model prog w) A (.call (.builtin "object.__getattribute__") ⟨[.ref a, .str "string" tk], []⟩) R ⟨h, g, d, t, os⟩ :=
  codeAny_call_builtin slot_mga.plain entry_oga (slot_mga.check _ _ _ _ _ _ _ _ (show (⟨h, g, d, t, os⟩ : Shared).TypeIs (.ref a) "re.Match" from ⟨_, hx, hc⟩) (args_oga _ _) (string_entry hx hc hd h0 hq))

theorem string_by {tk u : Tok} {x : PySem.Str} {fill expr : Bool} {Q : Value → Shared → Prop} (hx : h.get? a = some o) (hc : o.cls = .type "re.Match") (hd : o.data = .fields vs) (h0 : vs[0]? = some (.str x u))
    (hq : Q (.str x u) ⟨h, g, d, t, os⟩) : wpAny (model prog w) A (getAttrBy (.ref a) (.str "string" tk) fill expr) Q E ⟨h, g, d, t, os⟩ := by
  have hT : (⟨h, g, d, t, os⟩ : Shared).TypeIs (.ref a) "re.Match" := ⟨_, hx, hc⟩
  have f2 := slot_mga.lookup
  have f3 := slot_mga.bind (.ref a)
  have hx0 : (expr && onTheHeap (Value.builtin "object.__getattribute__")) = false := by cases expr <;> rfl
  repeat (any_goals (first | assumption | wp_step))
  refine string_call hx hc hd h0 ?_
  repeat (any_goals (first | assumption | wp_step))
theorem string_attr {expr : Bool} {u : Tok} {x : PySem.Str} {Q : Value → Shared → Prop} (hx : h.get? a = some o) (hc : o.cls = .type "re.Match") (hd : o.data = .fields vs) (h0 : vs[0]? = some (.str x u))
    (hq : Q (.str x u) ⟨h, g, d, t + 1, os⟩) : wpAny (model prog w) A (getAttr (.ref a) "string" expr) Q E ⟨h, g, d, t, os⟩ := by
  unfold getAttr
  repeat (any_goals (first | assumption | with_reducible apply string_by hx hc hd h0 | wp_step))
end
end Mine

end

section
open PySem PySem.W PyProof.Rows PySem.Calls
set_option maxRecDepth 100000
set_option linter.unusedVariables false
namespace Mine
/-- a text of its signs -/
noncomputable def S (l : List Nat) : PySem.Str := ⟨l.toArray⟩
theorem S_list (l : List Nat) : (S l).cps.toList = l := rfl
theorem S_cps (l : List Nat) : (S l).cps = l.toArray := rfl
theorem S_length (l : List Nat) : (S l).length = l.length := by simp [S, PySem.Str.length]
theorem S_append (a b : List Nat) : S a ++ S b = S (a ++ b) := by
  refine PySem.Str.ext' ?_
  rw [PySem.Str.cps_append]
  simp [S]
theorem S_of (x : PySem.Str) : x = S x.cps.toList := rfl
theorem S_inj {a b : List Nat} : S a = S b ↔ a = b := by
  constructor
  · intro h
    have := congrArg (fun x : PySem.Str => x.cps.toList) h
    exact this
  · intro h; rw [h]
theorem S_eq_beq (a b : List Nat) : (S a == S b) = (a == b) := by
  rw [Bool.eq_iff_iff]; simp [S_inj]
theorem S_nil_append (a : List Nat) : S [] ++ S a = S a := S_append [] a

theorem slice_from {l : List Nat} {a : Nat} (h : a ≤ l.length) : Txt.slice (S l) (some (a : Int)) none = S (l.drop a) := by
  show StrLaws.sliceText (S l) (some (a : Int)) none = _
  rw [StrLaws.sliceText_from ⟨by (first | lia | omega), by rw [S_list]; (first | lia | omega)⟩, S_list]
  have : ((l.length : Int) - (a : Int)).toNat = l.length - a := by (first | lia | omega)
  rw [this, Int.toNat_natCast]
  show PySem.Str.mk _ = PySem.Str.mk _
  rw [List.take_of_length_le (by rw [List.length_drop]; (first | lia | omega))]
theorem slice_to {l : List Nat} {a : Nat} (h : a ≤ l.length) : Txt.slice (S l) none (some (a : Int)) = S (l.take a) := by
  show StrLaws.sliceText (S l) none (some (a : Int)) = _
  rw [StrLaws.sliceText_to ⟨by (first | lia | omega), by rw [S_list]; (first | lia | omega)⟩, S_list]
  simp [S]
end Mine

end

section
open PySem PySem.W PyProof.Rows PySem.Calls
set_option maxRecDepth 100000
set_option maxHeartbeats 4000000
set_option linter.unusedVariables false
namespace Mine
theorem fill3 : Challenge.rw_nb0191_01 = Challenge.rw_nb0191_01 ∧ hd.heap_39 = hd.heap_39 := by k_fill; exact ⟨rfl, rfl⟩


theorem match_method {M' : Model} {A : Around} {E : Value → Shared → Prop} {s : Shared} {a : Addr} {x : PySem.Str} {t : Tok} {P : Addr} {lim : Nat} {li : Int} {tup : Addr} {name : PySem.Str} {id : String} {pl : Sem Bool} {Q : Value × List Value → Shared → Prop} (ha : s.heap.get? a = some (matchObj x t P lim li tup))
    (slot : Slot "re.Match" name id) (hty : typeOf (.builtin id) = pure (.type "method_descriptor")) (h : Q (.builtin id, [.ref a]) s) : wpAny M' A (getMethod (.ref a) name pl) Q E s :=
  getMethod_builtin ⟨_, ha, rfl⟩ pa_match slot hty (fun _ e => by cases e; exact ⟨_, ha, rfl⟩) h
theorem pat_method {M' : Model} {A : Around} {E : Value → Shared → Prop} {s : Shared} {P : Addr} {C : Array Nat} {g : Nat} {name : PySem.Str} {id : String} {pl : Sem Bool} {Q : Value × List Value → Shared → Prop} (hP : PatAt s.heap P C g)
    (slot : Slot "re.Pattern" name id) (hty : typeOf (.builtin id) = pure (.type "method_descriptor")) (h : Q (.builtin id, [.ref P]) s) : wpAny M' A (getMethod (.ref P) name pl) Q E s :=
  getMethod_builtin hP.typeIs pa_pat slot hty hP.noDict h

theorem unm_call {prog : Program} {w : World} {base h₀ : Heap} {env env2 : Env} {L : Addr} {m : PySem.Str → Option Value} {news : List (Addr × Obj)} {s : Shared} {p : Program} {loose : List PySem.Str} {mean : ExcName → Option Value} {mg mb : PySem.Str → Option Value} {x : PySem.Str} {t : Tok} {Q : Value → Shared → Prop} {E : Value → Shared → Prop}
  {a tup P lim : Addr} {li : Int} {hd' b e : Nat}
  (B : Below (callerA.deeper env) base [env] h₀) (F : Fr h₀ L s.heap m) (X : (hd.heap_39 w.params).In h₀) (N : News h₀ L s.heap news) (T : Top p loose mean mg mb h₀) (hf : env2.frame = some L) (hk : env2.scope.kind = .function) (hx : x.length ≤ 1000000) (hh : hd' ≤ x.length)
  (ha : s.heap.get? a = some (matchObj x t P lim li tup)) (ht : s.heap.get? tup = some (spanObj [0, hd', b, e]))
  (hQ : ∀ t' h' tk, Fr h₀ L h' m → News h₀ L h' news → Q (.str (S (x.cps.toList.drop hd')) t') { s with heap := h', toks := tk }) :
  wpAny (model prog w) ((callerA.deeper env).deeper env2) (call (.ref 55) [.ref a] []) Q E s := by
  w_on
  w_strict (
  (refine' call_fz (live := []) (rest := news) ?k1 ?k2 ?k3 ?k4 ?k5 ?kA ?kF ?kK ?k6 ?k7 ?k8 ?k9 ?kB ?kD ?_ ?c2 ?c3 ?c4 ?c5; (case kA => exact rfl); (case kF => exact hf); (case kK => exact hk); (case k1 => k_asm); (case k2 => k_asm); (case k3 => k_asm); (case k4 => k_asm); (case k5 => k_asm); (case k6 => k_is); (case k7 => k_is); (case k8 => k_room); (case k9 => first | exact BindsTo.of_eq rfl | exact binds_K (by k_in) rfl (by k_is) rfl rfl rfl | fail "k_enter: no rule for these arguments"); (case c5 => decide); (case kB => exact locs rfl); (case c2 => exact rfl); (case c3 => exact rfl); (case c4 => exact rfl); (case kD => exact fun _ _ _ h => nomatch h); k_whole; intro g' L' h' hkeep st' F' N' l' B' X' T'; (try dsimp only); (try k_lift B'); (try k_fold))
  have hnews : ∀ p ∈ news, s.heap.get? p.1 = some p.2 := fun p hp => (N p hp).1
  have ga := hkeep _ _ (fun _ h => nomatch h) ha
  have gt := hkeep _ _ (fun _ h => nomatch h) ht
  clear N F
  iterate 4 walk1
  refine match_method (F'.keep _ _ ga) slot_span type_span ?_
  dsimp only
  iterate 4 walk1
  refine span_0 F' N' (F'.keep _ _ ga) (F'.keep _ _ gt) ?_
  intro l2 h2 t1 t2 k2 F2 N2 l2lt
  iterate 15 walk1
  rename Fr _ _ _ _ => F3
  refine string_attr (F3.keep _ _ ga) rfl rfl rfl ?_
  (repeat' ((fail_if_success ((first | (with_reducible show Turn _ _ _ _ _ _ _ _) | (with_reducible show Back _ _ _ _ _ _ _ _ _) | (with_reducible show wpAny _ _ (exec (Stmt.For _ _ _ _ _) _) _ _ _) | (with_reducible show wpAny _ _ (exec (Stmt.While _ _ _ _) _) _ _ _) | (with_reducible show wpAny _ _ (eval (PySem.Expr.ListComp _ _ _ _) _) _ _ _)))); first | (k_unfold; (try dsimp only)) | walk1 | (dsimp only; walk1)))
  rename Fr _ _ _ _ => F4
  refine string_attr (F4.keep _ _ ga) rfl rfl rfl ?_
  (repeat' ((fail_if_success ((first | (with_reducible show Turn _ _ _ _ _ _ _ _) | (with_reducible show Back _ _ _ _ _ _ _ _ _) | (with_reducible show wpAny _ _ (exec (Stmt.For _ _ _ _ _) _) _ _ _) | (with_reducible show wpAny _ _ (exec (Stmt.While _ _ _ _) _) _ _ _) | (with_reducible show wpAny _ _ (eval (PySem.Expr.ListComp _ _ _ _) _) _ _ _)))); first | (k_unfold; (try dsimp only)) | walk1 | (dsimp only; walk1)))
  rename Fr _ _ _ _ => F5
  show Back _ _ _ _ _ _ _ _ _
  refine ⟨_, [], F5, News.nil, fun F6 N6 => ?_⟩
  have e : Txt.slice x none (some ((0 : Nat) : Int)) ++ Txt.slice x (some (hd' : Int)) none = S (x.cps.toList.drop hd') := by
    have h1 : x = S x.cps.toList := rfl
    rw [h1, slice_to (Nat.zero_le _), slice_from (by exact hh), S_append]
    rfl
  rw [e]
  exact hQ _ _ _ F6 N6)
end Mine

end

section
open PySem PySem.W PyProof.Rows PySem.Calls
set_option maxRecDepth 100000
set_option maxHeartbeats 4000000
set_option linter.unusedVariables false
namespace Mine
theorem fill4 : Challenge.rw_nb0191_01 = Challenge.rw_nb0191_01 ∧ hd.heap_39 = hd.heap_39 := by k_fill; exact ⟨rfl, rfl⟩

/-- what a lambda's body hands back -/
noncomputable def BackE (h₀ : Heap) (L : Addr) (m : PySem.Str → Option Value) (g : Heap) (L' : Addr) (rest : List (Addr × Obj)) (Q : Value → Shared → Prop) (v : Value) (s' : Shared) : Prop :=
  ∃ m', Fr g L' s'.heap m' ∧ (Fr h₀ L s'.heap m → News h₀ L s'.heap rest → Q v s')


section
variable {prog : Program} {w : World} {A A₀ : Around} {E : Value → Shared → Prop} {s : Shared} {K : Frag} {L : Addr} {h₀ base : Heap} {m mg mb : PySem.Str → Option Value} {rest : List (Addr × Obj)} {p : Program} {loose : List PySem.Str} {mean : ExcName → Option Value} {Q : Value → Shared → Prop}
  {env : Env} {outer : List Env} {name qual : PySem.Str} {params : Arguments} {body : PySem.Expr} {scope : Scope} {pm ctv : Value} {c' f : Addr} {pos : List Value} {kw : List (PySem.Str × Value)} {binds : List (PySem.Str × Value)}

/-- a call of a lambda; all that stands is frozen -/
theorem lam_fz
    (B : Below A₀ base outer h₀) (F : Fr h₀ L s.heap m) (X₀ : K.In h₀) (N : News h₀ L s.heap rest) (T : Top p loose mean mg mb h₀) (hA : A.frames = some (env :: outer)) (hf : env.frame = some L) (hke : env.scope.kind = .function)
    (ho : s.heap.get? f = some (kla_obj name qual params body scope [] pm c' ctv)) (hcd : s.heap.CodeRec (.ref c') qual) (hroom : A.depth < recursionLimit)
    (hbind : bindArgs (kla_fn name qual params body scope [] pm (.ref c') ctv) ⟨pos, kw⟩ = pure binds) (hloc : ∀ y ∈ binds, scope.names.lookup y.1 = some .local)
    (h : ∀ g L' h₁, (∀ b o, s.heap.get? b = some o → g.get? b = some o) → Fr g L' h₁ (fun y => binds.reverse.lookup y) → News g L' h₁ [] → Below A base (env :: outer) g → K.In g → Top p loose mean mg mb g →
      wpAny (model prog w) (A.deeper (envX qual scope L' f (.ref c') [])) (eval body (envX qual scope L' f (.ref c') []))
        (BackE h₀ L m g L' rest Q)
        (fun e s' => wpAny (model prog w) (A.deeper (envX qual scope L' f (.ref c') [])) (leaving (envX qual scope L' f (.ref c') []) e) (fun _ s'' => E e s'') (fun e' s'' => E e' s'') s')
        { s with heap := h₁, toks := s.toks + binds.length })
    (hco : scope.isCoroutine = false) (hgen : scope.isGenerator = false) (hk : scope.kind = .function)
    (hcell : ∀ x ∈ scope.names, x.2 ≠ .cell) : wpAny (model prog w) A (call (.ref f) pos kw) Q E s := by
  refine wpAny_call ?_
  obtain ⟨FG, BG, st, lv⟩ := groundX (R := fun r s' => match r with | .ok (.ret v) => Q v s' | .ok _ => False | .error e => E e s') B F (News.nil (h₀ := h₀) (h := s.heap) (L := L)) hA hf hke
  refine kla_callFunE hroom ho rfl hco hgen rfl hcd ?_
  rw [hbind]
  refine wpAny_pure (wpAny_newFunctionEnv hcell hloc (fun h₁ hns hsb => ⟨((T.nolimit).keeps F.keep).fresh _ hsb, ?_⟩) hk)
  show codeAny _ _ (.expr body (envX qual scope s.heap.objs.size f (.ref c') [])) _ _
  have hk₁ : ∀ b o, s.heap.get? b = some o → h₁.get? b = some o := fun b o e => hsb.extBut b o (Nat.ne_of_lt (Heap.lt_size e)) (Heap.get?_push_of_some _ e)
  refine kla_codeExpr (wpAny_mono (h s.heap s.heap.objs.size h₁ (fun _ _ e => e) ⟨hns, hk₁, Nat.le_refl _⟩ News.nil BG (X₀.keeps st) (T.keeps st)) (fun v s' hl => ?_) fun _ _ y => y)
  obtain ⟨m', F', k⟩ := hl
  refine lv _ _ ⟨_, m', [], F', News.nil, fun F2 _ => k F2 fun p hp => ?_⟩
  have z := N p hp
  exact ⟨F'.keep _ _ z.1, z.2⟩
end

noncomputable abbrev lamBody (c0 : PySem.Str) (i0 i1 i2 : Nat) (q0 q1 q2 q3 q4 q5 q6 q7 : Pos) : PySem.Expr :=
  .BinOp (.Constant (.str c0) i0 q0) .Add (.BoolOp .Or [.Call (.Attribute (.Name (PySem.Str.ofString "_m") q1) (PySem.Str.ofString "group") q2) [.Constant (.int 1) i1 q3] [] q4, .Constant (.str (PySem.Str.ofString "")) i2 q5] q6) q7
noncomputable abbrev lamScope : Scope := { kind := .function, names := [(PySem.Str.ofString "_m", .local)], isGenerator := false, isCoroutine := false, more := [] }
noncomputable abbrev lamArgs (q : Pos) : Arguments := { posonlyargs := [], args := [{ arg := PySem.Str.ofString "_m", annotation := none, pos := q }], vararg := none, kwonlyargs := [], kw_defaults := [], kwarg := none, defaults := [] }

theorem group_eval {n name : PySem.Str} {q1 q2 q3 q4 : Pos} {i1 : Nat} {env : Env} (hq : q2.endLine = q4.line) :
    eval (.Call (.Attribute (.Name n q1) name q2) [.Constant (.int 1) i1 q3] [] q4) env = (do
      let ov ← eval (.Name n q1) env
      standAt q2.atName
      let (f, first) ← holding [ov] (getMethod ov name (do return (← importBound (.Name n q1) env).getD true))
      callWith q4 f first (backTo q4 (starEach [.Constant (.int 1) i1 q3] env)) []) := by
  show (eval (.Name n q1) env >>= fun ov => standAt q2.atName >>= fun _ => methodCall (.Name n q1) name q2 q4 env ov 1 (backTo q4 (starEach [.Constant (.int 1) i1 q3] env)) []) = _
  congr 1
  funext ov
  congr 1
  funext _
  unfold methodCall methodCallPos
  have e : methodCallForm 1 (backTo q4 (starEach [.Constant (.int 1) i1 q3] env)) [] = true := rfl
  rw [e]
  have e2 : (q2.endLine == q4.line) = true := by rw [hq]; exact beq_self_eq_true _
  simp only [Bool.not_true, Bool.false_or, e2, if_true]
  rfl

theorem lam_call {prog : Program} {w : World} {A A₀ : Around} {base h₀ : Heap} {env2 : Env} {outer : List Env} {L : Addr} {m : PySem.Str → Option Value} {news : List (Addr × Obj)} {s : Shared} {p : Program} {loose : List PySem.Str} {mean : ExcName → Option Value} {mg mb : PySem.Str → Option Value} {x c0 name qual : PySem.Str} {t : Tok} {Q : Value → Shared → Prop} {E : Value → Shared → Prop}
  {a tup P lim lam c' : Addr} {li : Int} {st hd' b e : Nat} {pm ctv : Value} {i0 i1 i2 : Nat} {q q0 q1 q2 q3 q4 q5 q6 q7 : Pos}
  (B : Below A₀ base outer h₀) (F : Fr h₀ L s.heap m) (X : (hd.heap_39 w.params).In h₀) (N : News h₀ L s.heap news) (T : Top p loose mean mg mb h₀) (hA : A.frames = some (env2 :: outer)) (hf : env2.frame = some L) (hk : env2.scope.kind = .function) (hroom : A.depth < recursionLimit) (hq : q2.endLine = q4.line) (hx : x.length ≤ 1000000) (hc0 : c0.length ≤ 1)
  (ho : s.heap.get? lam = some (kla_obj name qual (lamArgs q) (lamBody c0 i0 i1 i2 q0 q1 q2 q3 q4 q5 q6 q7) lamScope [] pm c' ctv)) (hcd : s.heap.CodeRec (.ref c') qual)
  (ha : s.heap.get? a = some (matchObj x t P lim li tup)) (ht : s.heap.get? tup = some (spanObj [st, hd', b, e])) (hb : b < e) (he : e ≤ x.length)
  (hQ : ∀ t' h' tk, Fr h₀ L h' m → News h₀ L h' news → Q (.str (c0 ++ ⟨x.cps.extract b e⟩) t') { s with heap := h', toks := tk }) :
  wpAny (model prog w) A (call (.ref lam) [.ref a] []) Q E s := by
  w_on
  w_strict (
  refine lam_fz B F X N T hA hf hk ho hcd hroom rfl (locs rfl) ?_ rfl rfl rfl (by decide)
  intro g' L' h' hkeep F' N' B' X' T'
  (try k_fold)
  have ga := hkeep _ _ ha
  have gt := hkeep _ _ ht
  clear N F
  iterate 3 walk1
  refine MethodCall_ ?_ (group_eval hq)
  iterate 1 walk1
  refine match_method (F'.keep _ _ ga) slot_group type_group ?_
  dsimp only
  iterate 4 walk1
  refine group_1 (F'.keep _ _ ga) (F'.keep _ _ gt) hx fun tk1 k1 => ?_
  have hlen : (PySem.Str.mk (x.cps.extract b e)).length = e - b := by
    have : e ≤ x.cps.size := he
    show (x.cps.extract b e).size = _
    rw [Array.size_extract]; (first | lia | omega)
  (repeat' ((fail_if_success ((first | (with_reducible show Back _ _ _ _ _ _ _ _ _) | (with_reducible show BackE _ _ _ _ _ _ _ _ _) | (with_reducible show wpAny _ _ (exec (Stmt.For _ _ _ _ _) _) _ _ _) | (with_reducible show wpAny _ _ (exec (Stmt.While _ _ _ _) _) _ _ _) | (with_reducible show wpAny _ _ (eval (PySem.Expr.ListComp _ _ _ _) _) _ _ _)))); first | (k_unfold; (try dsimp only)) | walk1 | (dsimp only; walk1)))
  · exact ⟨_, F', fun F6 N6 => hQ _ _ _ F6 N6⟩
  · exfalso
    rename (PySem.Str.length _ : Int) = 0 => h0
    (first | lia | omega))
end Mine

end

section
open PySem PySem.W PyProof.Rows PySem.Calls PySem.Sre
open PySem.Builtin.Re (reDrive reRunToEnd reNamed reTarget reAnswer reNewMatch reTextOf reRawItems reRawOf reRawNat reSlice reTurnSteps ReTarget reWholeTarget reNextFound reNotHeld)
set_option maxRecDepth 100000
set_option maxHeartbeats 4000000
set_option linter.unusedVariables false
namespace Mine

/-- the texts that a substitution gathers from `p` on -/
inductive Subs (C : Array Nat) (x : PySem.Str) (f : Nat → Nat → PySem.Str) : Nat → Bool → List PySem.Str → Prop
  | nil {p n : Nat} {mu : Bool} : p ≤ x.cps.size → n < 2 ^ 64 → Ends n (forSearch C x.cps 1 p x.cps.size mu) Failed → Subs C x f p mu (if p < x.cps.size then [⟨x.cps.extract p x.cps.size⟩] else [])
  | cons {p n b e st hd : Nat} {mu : Bool} {ps : List PySem.Str} : p ≤ st → st < hd → b < e → e ≤ x.cps.size → hd ≤ x.cps.size → n < 2 ^ 64 → Ends n (forSearch C x.cps 1 p x.cps.size mu) (fun m => Found m b e st hd) → (f b e).length ≤ 10 → Subs C x f hd false ps →
      Subs C x f p mu ((if p < st then [⟨x.cps.extract p st⟩] else []) ++ f b e :: ps)

theorem mapSeq_push' (c : Value) (d : Option Addr) (xs : Array Value) (n : Nat) (sl : Array (Option Value)) (v : Value) : Obj.mapSeq (·.push v) ⟨c, d, .seq xs n, sl⟩ = ⟨c, d, .seq (xs.push v) (n + 1), sl⟩ := by
  simp [Obj.mapSeq]

section
variable {prog : Program} {w : World} {A : Around} {E : Value → Shared → Prop} {s : Shared} {h₀ : Heap} {L : Addr} {m : PySem.Str → Option Value}

/-- one more text in a list of the ledger -/
theorem push_K {l : Addr} {vs : List Value} {n : Nat} {rest : List (Addr × Obj)} {v : Value} {Q : Unit → Shared → Prop} (F : Fr h₀ L s.heap m) (N : News h₀ L s.heap ((l, listOf vs.toArray n) :: rest)) (hne : ∀ p ∈ rest, p.1 ≠ l) (hsz : vs.length < 1000000)
    (h : ∀ h', Fr h₀ L h' m → News h₀ L h' ((l, listOf (vs ++ [v]).toArray (n + 1)) :: rest) → Q () { s with heap := h' }) :
    wpAny (model prog w) A (updateSeq l (·.push v)) Q E s := by
  have z := N _ (.head _)
  have z1 : s.heap.get? l = some (listOf vs.toArray n) := z.1
  have e1 := mapSeq_push' (.type "list") none vs.toArray n #[] v
  refine wpAny_updateSeq z1 rfl (h _ ?_ ?_) ?_ ?_
  · exact F.change (Heap.SameBut.update ..) z.2.1 z.2.2
  · intro p hp
    rcases List.mem_cons.mp hp with rfl | hp
    · refine ⟨?_, z.2⟩
      show (s.heap.update l _).get? l = _
      rw [Heap.get?_update_self _ z1 (by rw [e1]; rfl), e1, List.push_toArray]
    · exact ⟨((Heap.SameBut.update ..).2 _ (hne p hp)).trans (N p (.tail _ hp)).1, (N p (.tail _ hp)).2⟩
  · rw [List.size_toArray, sizeLine_eq]; (first | lia | omega)
  · rw [Array.size_push, List.size_toArray, sizeLine_eq]; (first | lia | omega)

theorem newMatch_K {P : Addr} {x : PySem.Str} {t : Tok} {m' : M} {b e st hd lim : Nat} {news : List (Addr × Obj)} {Q : Value → Shared → Prop} (hf : Found m' b e st hd) (hbe : b ≤ e) (F : Fr h₀ L s.heap m) (N : News h₀ L s.heap news)
    (h : ∀ a tup h', Fr h₀ L h' m → News h₀ L h' ((a, matchObj x t P lim 1 tup) :: (tup, spanObj [st, hd, b, e]) :: news) → (∀ p ∈ news, p.1 < tup) → tup < a → Q (.ref a) { s with heap := h' }) :
    wpAny (model prog w) A (reNewMatch (.ref P) (.str x t) 1 0 lim m') Q E s := wp_newMatch hf hbe (match_K (Q := Q) F N h)

theorem wp_whole {P : Addr} {C : Array Nat} {g : Nat} {x : PySem.Str} {t : Tok} {Q : ReTarget → Shared → Prop} (hP : PatAt s.heap P C g)
    (h : Q { pattern := .ref P, string := .str x t, code := C, text := x.cps, kind := 0, groups := g, pos := 0, lim := x.cps.size } s) :
    wpAny (model prog w) A (reWholeTarget (.ref P) (.str x t)) Q E s := by
  obtain ⟨pv, fl, c, o, items, n, h1, h2, h3, h4⟩ := hP.ok
  unfold reWholeTarget
  refine wpAny_bind (wpAny_fieldsOf h1 rfl ?_)
  have e2 : reTextOf (.str x t) = pure (x.cps, 0) := rfl
  rw [e2]
  refine wpAny_bind (wpAny_pure ?_)
  dsimp only
  have e3 : reRawNat ((#[pv, fl, .int g 0, .none, .none, .ref c, .int 0 0] : Array Value).getD 6 .none) = 0 := rfl
  rw [e3]
  refine wpAny_bind (wpAny_pure ?_)
  refine wpAny_bind ?_
  show wpAny _ _ (reRawItems (.ref c)) _ _ _
  unfold reRawItems
  refine wpAny_bind (wpAny_seqItems h2 h3 (wpAny_pure (wpAny_pure ?_)))
  show Q { pattern := .ref P, string := .str x t, code := (items.map reRawOf).map (·.toNat), text := x.cps, kind := 0, groups := g, pos := 0, lim := x.cps.size } s
  rw [h4]
  exact h

theorem wp_slice {x : PySem.Str} {b e : Nat} {Q : Value → Shared → Prop} (hx : x.length ≤ 1000000) (h : ∀ t k, Q (.str ⟨x.cps.extract b e⟩ t) { s with toks := k }) : wpAny (model prog w) A (reSlice x.cps 0 b e) Q E s := by
  show wpAny _ _ (mkStr ⟨x.cps.extract b e⟩) _ _ _
  refine wpAny_mkStr (h _ _) ?_
  show (x.cps.extract b e).size ≤ sizeLine
  have : x.cps.size ≤ 1000000 := hx
  rw [Array.size_extract, sizeLine_eq]
  (first | lia | omega)
end

theorem sum_flat (ys : List PySem.Str) : (ys.map (·.length)).sum = (ys.flatMap fun y => y.cps.toList).length := by
  induction ys with
  | nil => rfl
  | cons y ys ih => simp only [List.map_cons, List.sum_cons, List.flatMap_cons, List.length_append, ih]; rfl

theorem Subs.size {C : Array Nat} {x : PySem.Str} {f : Nat → Nat → PySem.Str} {p : Nat} {mu : Bool} {ps : List PySem.Str} (h : Subs C x f p mu ps) : p ≤ x.cps.size ∧ ps.length ≤ 2 * (x.cps.size - p) + 1 ∧ (ps.map (·.length)).sum ≤ 11 * (x.cps.size - p) := by
  induction h with
  | @nil p n mu h1 _ _ =>
    refine ⟨h1, ?_, ?_⟩
    · split <;> simp
    · split
      · simp only [List.map_cons, List.map_nil, List.sum_cons, List.sum_nil]
        show (x.cps.extract p x.cps.size).size + 0 ≤ _
        rw [Array.size_extract]; (first | lia | omega)
      · simp
  | @cons p n b e st hd mu ps h1 h2 h3 h4 h5 _ _ h8 r ih =>
    obtain ⟨a1, a2, a3⟩ := ih
    clear r
    refine ⟨by (first | lia | omega), ?_, ?_⟩
    · rw [List.length_append, List.length_cons]
      split <;> simp <;> (first | lia | omega)
    · rw [List.map_append, List.sum_append, List.map_cons, List.sum_cons]
      split
      · simp only [List.map_cons, List.map_nil, List.sum_cons, List.sum_nil]
        have : (PySem.Str.mk (x.cps.extract p st)).length = st - p := by show (x.cps.extract p st).size = _; rw [Array.size_extract]; (first | lia | omega)
        rw [this]
        (first | lia | omega)
      · simp; (first | lia | omega)

theorem join_flat : ∀ ys : List PySem.Str, PySem.Str.join (S []) ys = S (ys.flatMap fun y => y.cps.toList)
  | [] => rfl
  | [y] => by
    show y = _
    rw [List.flatMap_cons, List.flatMap_nil, List.append_nil]
    exact S_of y
  | y :: z :: r => by
    show y ++ S [] ++ PySem.Str.join (S []) (z :: r) = _
    rw [join_flat (z :: r), List.flatMap_cons, S_of y, S_append, S_append, List.append_nil]
    rfl
theorem txt_join_flat (ys : List PySem.Str) : Txt.join (S []) ys = S (ys.flatMap fun y => y.cps.toList) := (StrLaws.glued_eq_join _ ys).trans (join_flat ys)

theorem plain_loop : plainId "re.Pattern.sub.loop" = true := by decide +kernel

section
variable {prog : Program} {w : World} {A : Around} {h₀ : Heap} {L : Addr} {m : PySem.Str → Option Value} {R : Result → Shared → Prop}

/-- two steps that may be left out, ahead of one tail -/
theorem wp_maybe {α β γ : Type} {M : Model} {E : Value → Shared → Prop} {s : Shared} {c : Prop} [Decidable c] {a : Sem α} {g : α → Sem β} {tl : Sem γ} {Q : γ → Shared → Prop} (X : (Shared → Prop) → Prop)
    (ht : X (fun s₂ => wpAny M A tl Q E s₂)) (h1 : c → ∀ T, X T → wpAny M A a (fun y s' => wpAny M A (g y) (fun _ s'' => T s'') E s') E s) (h2 : ¬ c → ∀ T, X T → T s) :
    wpAny M A (if c then (a >>= fun y => g y >>= fun _ => tl) else tl) Q E s :=
  wpAny_ite_split (fun hc => wpAny_bind (wpAny_mono (h1 hc _ ht) (fun _ _ h => wpAny_bind h) fun _ _ k => k)) fun hc => h2 hc _ ht

noncomputable def SubX (h₀ : Heap) (L l : Addr) (m : PySem.Str → Option Value) (R : Result → Shared → Prop) (rest : List (Addr × Obj)) (s : Shared) (more : List PySem.Str) (T : Shared → Prop) : Prop :=
  ∀ hh tt (vs₂ : List Value) (acc₂ : List PySem.Str) (n₂ : Nat), StrsAre vs₂ acc₂ → acc₂.length + more.length ≤ 300000 → (acc₂.map (·.length)).sum + (more.map (·.length)).sum ≤ 2000000 → Fr h₀ L hh m → News h₀ L hh ((l, listOf vs₂.toArray n₂) :: rest) →
    (∀ t' h' tk, Fr h₀ L h' m → News h₀ L h' rest → R (.ok (.ret (.str (S ((acc₂ ++ more).flatMap fun y => y.cps.toList)) t'))) { s with heap := h', toks := tk }) → T { s with heap := hh, toks := tt }

/-- the substitution's loop, a def for each place -/
theorem sub_loop {P lam l : Addr} {C : Array Nat} {x : PySem.Str} {t : Tok} {f : Nat → Nat → PySem.Str} {rest : List (Addr × Obj)} (hx : x.length ≤ 100000) (hne : ∀ p ∈ rest, p.1 ≠ l)
    (hP : PatAt h₀ P C 1)
    (hcall : ∀ (s : Shared) (Q : Value → Shared → Prop) (E : Value → Shared → Prop) (a tup : Addr) (nw : List (Addr × Obj)) (st hd b e : Nat), Fr h₀ L s.heap m → News h₀ L s.heap nw → (∀ p ∈ rest, p ∈ nw) → (a, matchObj x t P x.cps.size 1 tup) ∈ nw → (tup, spanObj [st, hd, b, e]) ∈ nw → b < e → e ≤ x.cps.size →
      (∀ t' h' tk, Fr h₀ L h' m → News h₀ L h' nw → Q (.str (f b e) t') { s with heap := h', toks := tk }) → wpAny (model prog w) A.in1 (call (.ref lam) [.ref a] []) Q E s) :
    ∀ {p : Nat} {mu : Bool} {ps : List PySem.Str} (_ : Subs C x f p mu ps) (s : Shared) (k : Int) (vs : List Value) (acc : List PySem.Str) (n : Nat), StrsAre vs acc → acc.length + ps.length ≤ 300000 → (acc.map (·.length)).sum + (ps.map (·.length)).sum ≤ 2000000 → Fr h₀ L s.heap m → News h₀ L s.heap ((l, listOf vs.toArray n) :: rest) →
      (∀ t' h' tk, Fr h₀ L h' m → News h₀ L h' rest → R (.ok (.ret (.str (S ((acc ++ ps).flatMap fun y => y.cps.toList)) t'))) { s with heap := h', toks := tk }) →
      codeAny (model prog w) A (.builtin "re.Pattern.sub.loop" ⟨[.ref P, .str x t, .ref lam, .int 1 0, .int 0 0, .int k 0, .int p 0, .int p 0, .bool mu, .ref l, .bool false], []⟩) R s := by
  intro p mu ps hS
  induction hS with
  | @nil p n' mu h1 h2 h3 =>
    intro s k vs acc n hvs hl hsum F N hR
    refine codeAny_builtin entry_loop ?_
    rw [Around.under_plainId plain_loop]
    unfold Builtin.«re.Pattern.sub.loop»
    dsimp only
    refine wpAny_bind (wp_whole (hP.keeps F.keep) ?_)
    dsimp only
    rw [if_neg (by simp)]
    refine wpAny_bind ?_
    unfold reNextFound
    rw [Int.toNat_natCast]
    refine wp_run h3 h2 fun m' hf => .inr ⟨hf, ?_⟩
    dsimp only
    refine wp_maybe (SubX h₀ L l m R rest s []) ?tail (fun hp T tail => ?yes) fun hp T tail => ?no
    case tail =>
      intro hh tt vs₂ acc₂ n₂ hvs₂ hl₂ hsum₂ F₂ N₂ hR₂
      rw [List.append_nil] at hR₂
      simp only [List.length_nil, List.map_nil, List.sum_nil, Nat.add_zero] at hl₂ hsum₂
      refine wpAny_bind (wp_slice (by (first | lia | omega)) fun t1 k1 => ?_)
      have z1 : hh.get? l = some (listOf vs₂.toArray n₂) := (N₂ _ (.head _)).1
      refine wpAny_bind (wpAny_seqItems z1 rfl ?_)
      have e0 : (PySem.Str.mk (x.cps.extract 0 0)) = S [] := by
        show PySem.Str.mk _ = PySem.Str.mk _
        simp
      rw [e0]
      cases hvs₂ with
      | nil =>
        refine wpAny_bind (wpAny_pure ?_)
        exact wpAny_pure (hR₂ _ _ _ F₂ fun p hp => N₂ p (.tail _ hp))
      | cons y ty r =>
        rename_i vs3 ys3
        refine wpAny_bind ?_
        show wpAny _ _ (call (.builtin "str.join") [.str (S []) t1, .ref l]) _ _ _
        have hi : StrsAre (List.toArray (Value.str y ty :: vs3)).toList (y :: ys3) := .cons y ty r
        refine join_list (items := List.toArray (Value.str y ty :: vs3)) ⟨_, z1, rfl, _, rfl⟩ hi (by rw [S_length]; simp only [List.length_nil, Nat.mul_zero]; (first | lia | omega)) fun t2 k2 => ?_
        rw [txt_join_flat]
        exact wpAny_pure (hR₂ _ _ _ F₂ fun p hp => N₂ p (.tail _ hp))
    case yes =>
      have hl' : (PySem.Str.mk (x.cps.extract p x.cps.size)).length = x.cps.size - p := by show (x.cps.extract p x.cps.size).size = _; rw [Array.size_extract]; (first | lia | omega)
      refine wp_slice (by (first | lia | omega)) fun t1 k1 => ?_
      refine push_K F N hne (by have := hvs.length; (first | lia | omega)) fun h2' F2 N2 => ?_
      rw [if_pos hp] at hl hsum hR
      refine tail _ _ (vs ++ [.str ⟨x.cps.extract p x.cps.size⟩ t1]) (acc ++ [⟨x.cps.extract p x.cps.size⟩]) (n + 1) (KStt.strs_snoc hvs) ?_ ?_ F2 N2 ?_
      · rw [List.length_append]; exact hl
      · rw [List.map_append, List.sum_append]; exact hsum
      · rw [List.append_nil]; exact hR
    case no =>
      rw [if_neg hp] at hl hsum hR
      exact tail _ _ vs acc n hvs hl hsum F N hR
  | @cons p n' b e st hd mu ps h1 h2 h3 h4 h5 h6 h7 h8 r ih =>
    intro s k vs acc n hvs hl hsum F N hR
    refine codeAny_builtin entry_loop ?_
    rw [Around.under_plainId plain_loop]
    unfold Builtin.«re.Pattern.sub.loop»
    dsimp only
    refine wpAny_bind (wp_whole (hP.keeps F.keep) ?_)
    dsimp only
    rw [if_neg (by simp)]
    refine wpAny_bind ?_
    unfold reNextFound
    rw [Int.toNat_natCast]
    refine wp_run h7 h6 fun m' hf => .inl ⟨hf.ok, ?_⟩
    dsimp only
    rw [hf.st, hf.hd]
    have hbs : (hd == st) = false := by rw [beq_eq_false_iff_ne]; (first | lia | omega)
    rw [hbs]
    refine wp_maybe (SubX h₀ L l m R rest s (f b e :: ps)) ?tail (fun hp T tail => ?yes) fun hp T tail => ?no
    case tail =>
      intro hh tt vs₂ acc₂ n₂ hvs₂ hl₂ hsum₂ F₂ N₂ hR₂
      rw [List.length_cons] at hl₂
      rw [List.map_cons, List.sum_cons] at hsum₂
      rw [if_neg (by decide)]
      refine wpAny_bind (newMatch_K hf (Nat.le_of_lt h3) F₂ N₂ ?_)
      intro a tup h3' F3 N3 l3 lt3
      refine wpAny_bind (wpAny_holding ?_)
      rw [if_pos (by decide)]
      refine hcall _ _ _ a tup _ st hd b e F3 N3 (fun p hp => .tail _ (.tail _ (.tail _ hp))) (.head _) (.tail _ (.head _)) h3 h4 ?_
      intro t4 h4' k4 F4 N4
      rw [if_pos (show (Value.str (f b e) t4 != Value.none) = true from rfl)]
      have hvl := hvs₂.length
      refine wpAny_bind (push_K F4 (fun p hp => N4 p (.tail _ (.tail _ hp))) hne (by (first | lia | omega)) fun h5' F5 N5 => ?_)
      refine wpAny_pure ⟨plainId_quiet plain_loop _, ?_⟩
      refine ih _ (k + 1) (vs₂ ++ [.str (f b e) t4]) (acc₂ ++ [f b e]) (n₂ + 1) (KStt.strs_snoc hvs₂) (by rw [List.length_append]; show acc₂.length + 1 + ps.length ≤ _; (first | lia | omega)) (by rw [List.map_append, List.sum_append]; show _ + ((f b e).length + 0) + _ ≤ _; (first | lia | omega)) F5 N5 ?_
      intro t6 h6' k6 F6 N6
      rw [List.append_assoc]
      exact hR₂ t6 h6' k6 F6 N6
    case yes =>
      have hl' : (PySem.Str.mk (x.cps.extract p st)).length = st - p := by show (x.cps.extract p st).size = _; rw [Array.size_extract]; (first | lia | omega)
      refine wp_slice (by (first | lia | omega)) fun t1 k1 => ?_
      refine push_K F N hne (by have := hvs.length; (first | lia | omega)) fun h2' F2 N2 => ?_
      rw [if_pos hp] at hl hsum hR
      refine tail _ _ (vs ++ [.str ⟨x.cps.extract p st⟩ t1]) (acc ++ [⟨x.cps.extract p st⟩]) (n + 1) (KStt.strs_snoc hvs) ?_ ?_ F2 N2 ?_
      · rw [List.length_append, Nat.add_assoc, ← List.length_append]; exact hl
      · rw [List.map_append, List.sum_append, Nat.add_assoc, ← List.sum_append, ← List.map_append]; exact hsum
      · rw [List.append_assoc]; exact hR
    case no =>
      rw [if_neg hp] at hl hsum hR
      exact tail _ _ vs acc n hvs hl hsum F N hR
end
end Mine

end

section
open PySem PySem.W PyProof.Rows PySem.Calls PySem.Sre
open PySem.Builtin.Re (reDrive reRunToEnd reNamed reTarget reAnswer reNewMatch reTextOf reRawItems reRawOf reRawNat reSlice reTurnSteps ReTarget reWholeTarget reNextFound reNotHeld reSubstitute)
set_option maxRecDepth 100000
set_option maxHeartbeats 4000000
set_option linter.unusedVariables false
namespace Mine
theorem lk_fcall : typeLookup (.type "function") "__call__" = pure (some (.builtin "function.__call__")) := by rw [typeLookup_type, builtinLookup_eq_fast]; kernel_rfl
theorem sub_str_ba : isSubtype (.type "str") (.type "bytearray") = pure false := by rw [isSubtype_type]; kernel_rfl

section
variable {prog : Program} {w : World} {A : Around} {E : Value → Shared → Prop} {s : Shared} {h₀ : Heap} {L : Addr} {m : PySem.Str → Option Value} {Q : Value → Shared → Prop}
theorem sub_call {P lam : Addr} {C : Array Nat} {x : PySem.Str} {t : Tok} {f : Nat → Nat → PySem.Str} {news : List (Addr × Obj)} {ps : List PySem.Str} {ol : Obj} (hx : x.length ≤ 10000)
    (F : Fr h₀ L s.heap m) (N : News h₀ L s.heap news) (hP : PatAt h₀ P C 1) (hlam : s.heap.get? lam = some ol) (hol : ol.cls = .type "function")
    (hcall : ∀ (s : Shared) (Q : Value → Shared → Prop) (E : Value → Shared → Prop) (a tup : Addr) (nw : List (Addr × Obj)) (st hd b e : Nat), Fr h₀ L s.heap m → News h₀ L s.heap nw → (∀ p ∈ news, p ∈ nw) → (a, matchObj x t P x.cps.size 1 tup) ∈ nw → (tup, spanObj [st, hd, b, e]) ∈ nw → b < e → e ≤ x.cps.size →
      (∀ t' h' tk, Fr h₀ L h' m → News h₀ L h' nw → Q (.str (f b e) t') { s with heap := h', toks := tk }) → wpAny (model prog w) A.in1 (call (.ref lam) [.ref a] []) Q E s)
    (hS : Subs C x f 0 false ps)
    (h : ∀ t' h' tk, Fr h₀ L h' m → News h₀ L h' news → Q (.str (S (ps.flatMap fun y => y.cps.toList)) t') { s with heap := h', toks := tk }) :
    wpAny (model prog w) A (call (.builtin "re.Pattern.sub") [.ref P, .ref lam, .str x t]) Q E s := by
  have hPs := hP.keeps F.keep
  refine wpAny_call (codeAny_call_builtin slot_sub.plain entry_sub (slot_sub.check _ _ _ _ _ _ _ _ hPs.typeIs (args_sub _ _ _) ?_))
  show wpAny _ _ (reSubstitute "re.Pattern.sub" "sub" false ⟨[.ref P, .ref lam, .str x t], []⟩) _ _ _
  unfold reSubstitute
  dsimp only
  have e : reNamed "re.Pattern.sub" "sub" ["repl", "string", "count"] 2 [.ref lam, .str x t] [] = pure [some (.ref lam), some (.str x t), none] := by rfl
  rw [e]
  refine wpAny_bind (wpAny_pure ?_)
  dsimp only
  refine wpAny_bind (wpAny_pure ?_)
  refine wpAny_bind (wpAny_specialOf ⟨_, hlam, hol⟩ lk_fcall ?_)
  rw [if_pos (show (some (Value.builtin "function.__call__")).isSome = true from rfl)]
  refine wpAny_bind (wpAny_pure ?_)
  rw [if_pos (show (some (Value.builtin "function.__call__")).isSome = true from rfl)]
  refine wpAny_bind (wpAny_pure ?_)
  dsimp only
  refine wpAny_bind (wpAny_holding (wp_whole hPs ?_))
  rw [if_pos (by decide)]
  refine wpAny_bind ?_
  unfold reNotHeld
  refine wpAny_bind (wpAny_isInstance (typeIs_str _ _ _) sub_str_ba ?_)
  rw [if_neg (by decide)]
  dsimp only
  refine wpAny_pure ?_
  refine wpAny_bind (newList_K F N (fun l h1 F1 N1 lt1 => ?_) (by show 0 ≤ sizeLine; (first | lia | omega)))
  refine wpAny_pure ⟨plainId_quiet plain_loop _, ?_⟩
  have hsz := hS.size
  have hxs : x.cps.size ≤ 10000 := hx
  refine sub_loop (l := l) (rest := news) (by (first | lia | omega)) (fun p hp => Nat.ne_of_lt (lt1 p hp)) hP hcall hS _ 0 [] [] 0 .nil (by simp only [List.length_nil]; (first | lia | omega)) (by simp only [List.map_nil, List.sum_nil]; (first | lia | omega)) F1 N1 ?_
  intro t6 h6 k6 F6 N6
  exact h _ _ _ F6 N6
end
end Mine

end

section
open PySem PySem.W PyProof.Rows PySem.Calls PySem.Sre
open PySem.Builtin.Re (reDrive reRunToEnd reNamed reTarget reAnswer reNewMatch reTextOf reRawItems reRawOf reRawNat reSlice reTurnSteps ReTarget reWholeTarget reNextFound reNotHeld reSubstitute reLiteralCannotBeTurned)
set_option maxRecDepth 100000
set_option maxHeartbeats 400000
set_option linter.unusedVariables false
namespace Mine
noncomputable def C5 : Array Nat := #[14, 4, 0, 0, 4294967295, 6, 0, 24, 13, 0, 4294967295, 13, 8, 16, 61, 8, 12, 16, 59, 0, 1, 1]
noncomputable def tagOf (m : M) : Nat := match m.outcome with | some .matched => 1 | some .failed => 2 | _ => 0
theorem matched_of {m : M} (h : tagOf m = 1) : Matched m := by
  unfold tagOf at h
  unfold Matched
  split at h
  · rename_i e; rw [e]; trivial
  · cases h
  · cases h
theorem failed_of {m : M} (h : tagOf m = 2) : Failed m := by
  unfold tagOf at h
  unfold Failed
  split at h
  · cases h
  · rename_i e; rw [e]; trivial
  · cases h
theorem junk_ok {c : Nat} (hc : c = 32 ∨ c = 9) : Ends 20 (forSearch C5 (S [c]).cps 0 0 (S [c]).cps.size false) (fun m => Matched m ∧ m.start = 0 ∧ m.handed = 1) := by
  rcases hc with rfl | rfl
  · exact ⟨12, by (first | lia | omega), matched_of (by decide +kernel), by decide +kernel, by decide +kernel⟩
  · exact ⟨12, by (first | lia | omega), matched_of (by decide +kernel), by decide +kernel, by decide +kernel⟩
theorem junk_no {c : Nat} (hc : c = 32 ∨ c = 9) : Ends 20 (forSearch C5 (S [c]).cps 0 1 (S [c]).cps.size false) Failed := by
  rcases hc with rfl | rfl
  · exact ⟨12, by (first | lia | omega), failed_of (by decide +kernel)⟩
  · exact ⟨12, by (first | lia | omega), failed_of (by decide +kernel)⟩
theorem lk_scall : typeLookup (.type "str") "__call__" = pure none := by rw [typeLookup_type, builtinLookup_eq_fast]; kernel_rfl

section
variable {prog : Program} {w : World} {A : Around} {E : Value → Shared → Prop} {s : Shared} {h₀ : Heap} {L : Addr} {m : PySem.Str → Option Value} {Q : Value → Shared → Prop}
/-- the junk pattern takes away one blank or tab -/
theorem subn_gen {P : Addr} {C : Array Nat} {x r : PySem.Str} {t u : Tok} {news : List (Addr × Obj)} (hr : r = S []) (hx1 : x.cps.size = 1)
    (hE1 : Ends 20 (forSearch C x.cps 0 0 x.cps.size false) (fun m => Matched m ∧ m.start = 0 ∧ m.handed = 1)) (hE2 : Ends 20 (forSearch C x.cps 0 1 x.cps.size false) Failed)
    (F : Fr h₀ L s.heap m) (N : News h₀ L s.heap news) (hP : PatAt h₀ P C 0)
    (h : ∀ l t1 t2 h' tk, Fr h₀ L h' m → News h₀ L h' ((l, { cls := .type "tuple", data := .seq #[.str (S []) t1, .int 1 t2] }) :: news) → (∀ p ∈ news, p.1 < l) → Q (.ref l) { s with heap := h', toks := tk }) :
    wpAny (model prog w) A (call (.builtin "re.Pattern.subn") [.ref P, .str r u, .str x t]) Q E s := by
  have hPs := hP.keeps F.keep
  refine wpAny_call (codeAny_call_builtin slot_subn.plain entry_subn (slot_subn.check _ _ _ _ _ _ _ _ hPs.typeIs (args_subn _ _ _) ?_))
  show wpAny _ _ (reSubstitute "re.Pattern.subn" "subn" true ⟨[.ref P, .str r u, .str x t], []⟩) _ _ _
  unfold reSubstitute
  dsimp only
  have e : reNamed "re.Pattern.subn" "subn" ["repl", "string", "count"] 2 [.str r u, .str x t] [] = pure [some (.str r u), some (.str x t), none] := by rfl
  rw [e]
  refine wpAny_bind (wpAny_pure ?_)
  dsimp only
  refine wpAny_bind (wpAny_pure ?_)
  refine wpAny_bind (wpAny_specialOf (typeIs_str _ _ _) lk_scall ?_)
  rw [if_neg (by decide)]
  have e1 : asStr? (.str r u) = pure (some r) := rfl
  rw [e1]
  refine wpAny_bind (wpAny_pure ?_)
  dsimp only
  refine wpAny_bind (wpAny_pure ?_)
  have hr92 : (!r.cps.contains 92) = true := by rw [hr]; decide +kernel
  rw [if_neg (by decide), if_pos hr92]
  refine wpAny_bind (wpAny_pure ?_)
  dsimp only
  refine wpAny_bind (wpAny_holding (wp_whole hPs ?_))
  rw [if_neg (by decide)]
  refine wpAny_bind (newList_K F N (fun l h1 F1 N1 lt1 => ?_) (by show 0 ≤ sizeLine; (first | lia | omega)))
  refine wpAny_pure ⟨plainId_quiet plain_loop _, ?_⟩
  -- the first round
  refine codeAny_builtin entry_loop ?_
  rw [Around.under_plainId plain_loop]
  unfold Builtin.«re.Pattern.sub.loop»
  dsimp only [rawInt]
  refine wpAny_bind (wp_whole (hP.keeps F1.keep) ?_)
  dsimp only
  rw [if_pos (by decide)]
  have e2 : reLiteralCannotBeTurned (.str r u) = pure () := by
    unfold reLiteralCannotBeTurned
    rw [e1]
    rfl
  rw [e2]
  refine wpAny_bind (wpAny_pure ?_)
  rw [if_neg (by simp)]
  refine wpAny_bind ?_
  unfold reNextFound
  refine wp_run hE1 (by (first | lia | omega)) fun m' hf => .inl ⟨hf.1, ?_⟩
  dsimp only
  rw [hf.2.1, hf.2.2, if_neg (by decide), if_pos (by decide)]
  refine wpAny_bind (wpAny_pure ?_)
  rw [if_pos (show (Value.str r u != Value.none) = true from rfl)]
  have hne : ∀ p ∈ news, p.1 ≠ l := fun p hp => Nat.ne_of_lt (lt1 p hp)
  refine wpAny_bind (push_K (vs := []) F1 N1 hne (by decide) fun h2 F2 N2 => ?_)
  refine wpAny_pure ⟨plainId_quiet plain_loop _, ?_⟩
  -- the second round
  refine codeAny_builtin entry_loop ?_
  rw [Around.under_plainId plain_loop]
  unfold Builtin.«re.Pattern.sub.loop»
  dsimp only [rawInt]
  refine wpAny_bind (wp_whole (hP.keeps F2.keep) ?_)
  dsimp only
  rw [if_pos (by decide), e2]
  refine wpAny_bind (wpAny_pure ?_)
  rw [if_neg (by simp)]
  refine wpAny_bind ?_
  unfold reNextFound
  refine wp_run hE2 (by (first | lia | omega)) fun m' hf => .inr ⟨hf, ?_⟩
  dsimp only
  rw [if_neg (by show ¬ (1 < x.cps.size); (first | lia | omega))]
  refine wpAny_bind (wp_slice (by show x.cps.size ≤ _; (first | lia | omega)) fun t1 k1 => ?_)
  have z1 : h2.get? l = some (listOf ([] ++ [Value.str r u]).toArray (0 + 1)) := (N2 _ (.head _)).1
  refine wpAny_bind (wpAny_seqItems z1 rfl ?_)
  have e0 : (PySem.Str.mk (x.cps.extract 0 0)) = S [] := by
    show PySem.Str.mk _ = PySem.Str.mk _
    simp
  rw [e0]
  refine wpAny_bind ?_
  show wpAny _ _ (call (.builtin "str.join") [.str (S []) t1, .ref l]) _ _ _
  have hi : StrsAre (List.toArray [Value.str r u]).toList [r] := .cons _ _ .nil
  refine join_list (items := List.toArray [Value.str r u]) ⟨_, z1, rfl, _, rfl⟩ hi (by rw [S_length, hr]; decide) fun t2 k2 => ?_
  rw [txt_join_flat, hr]
  dsimp only
  rw [if_pos rfl]
  refine wpAny_bind (wpAny_holding (wpAny_bind (wpAny_mkInt ?_)))
  refine newTuple_N (s := { s with heap := h2, toks := k2 + 1 }) F2 (fun p hp => N2 p (.tail _ hp)) (fun h3 F3 N3 => ?_) (by show 2 ≤ sizeLine; rw [sizeLine_eq]; decide)
  exact wpAny_pure (h _ _ _ _ _ F3 N3 fun p hp => Heap.lt_size (N2 p (.tail _ hp)).1)
/-- the junk pattern takes away one blank or tab -/
theorem subn_call {P : Addr} {c : Nat} {t u : Tok} {news : List (Addr × Obj)} (hc : c = 32 ∨ c = 9)
    (F : Fr h₀ L s.heap m) (N : News h₀ L s.heap news) (hP : PatAt h₀ P C5 0)
    (h : ∀ l t1 t2 h' tk, Fr h₀ L h' m → News h₀ L h' ((l, { cls := .type "tuple", data := .seq #[.str (S []) t1, .int 1 t2] }) :: news) → (∀ p ∈ news, p.1 < l) → Q (.ref l) { s with heap := h', toks := tk }) :
    wpAny (model prog w) A (call (.builtin "re.Pattern.subn") [.ref P, .str (S []) u, .str (S [c]) t]) Q E s :=
  subn_gen rfl rfl (junk_ok hc) (junk_no hc) F N hP h
end
end Mine

end

section
open PySem PySem.W PyProof.Rows PySem.Calls PySem.Sre
open PySem.Builtin.Str (strSub)
set_option maxRecDepth 100000
set_option maxHeartbeats 1000000
set_option linter.unusedVariables false
set_option linter.unusedSimpArgs false
namespace Mine

noncomputable abbrev sp (c : Nat) : Bool := Unicode.isSpace c
noncomputable def Spaces (ws : List Nat) : Prop := ∀ c ∈ ws, sp c = true

theorem lstrip_S (l : List Nat) : Txt.lstrip (S l) = S (l.dropWhile sp) := by
  unfold Txt.lstrip Txt.stripBy PySem.stripSame PySem.stripped PySem.stripLo PySem.stripHi
  simp only [if_true, Bool.false_eq_true, if_false]
  have e0 : (S l).cps.toList = l := rfl
  have e1 : (S l).length = l.length := S_length l
  have hd : l.dropWhile sp = l.drop (l.takeWhile sp).length := by
    induction l with
    | nil => rfl
    | cons c l ih =>
      cases h : sp c
      · simp [List.dropWhile_cons, List.takeWhile_cons, h]
      · simp [List.dropWhile_cons, List.takeWhile_cons, h]
        exact ih rfl (S_length l)
  rw [e0, hd]
  split
  · rename_i h
    simp only [Bool.and_eq_true, beq_iff_eq] at h
    have : (l.takeWhile sp).length = 0 := h.1
    rw [this, List.drop_zero]
  · show PySem.Str.mk ((S l).cps.extract _ _) = _
    rw [e1]
    show PySem.Str.mk (l.toArray.extract _ _) = PySem.Str.mk _
    congr 1
    apply Array.toList_inj.mp
    simp [Array.toList_extract, List.extract]
    exact (List.take_of_length_le (by rw [List.length_drop]; exact Nat.le_refl _))
theorem rstrip_free {v : List Nat} (h : ∀ c ∈ v, sp c = false) : Txt.rstrip (S v) = S v := by
  unfold Txt.rstrip Txt.stripBy
  have : PySem.stripSame Unicode.isSpace false true (S v) = true := by
    unfold PySem.stripSame PySem.stripLo PySem.stripHi
    simp only [Bool.false_eq_true, if_false, if_true, List.drop_zero]
    have : (((S v).cps.toList).reverse.takeWhile Unicode.isSpace) = [] := by
      show (v.reverse.takeWhile Unicode.isSpace) = []
      cases hr : v.reverse with
      | nil => rfl
      | cons c r =>
        have hc : c ∈ v := by rw [← List.mem_reverse, hr]; exact .head _
        rw [List.takeWhile_cons, show Unicode.isSpace c = false from h c hc]
        rfl
    rw [this]
    simp
  rw [this, if_pos rfl]

theorem gd (l : List Nat) (j : Nat) : (S l).cps.getD j 0 = l.getD j 0 := by
  simp [S]
theorem S_size (l : List Nat) : (S l).cps.size = l.length := by simp [S]
theorem gd_left {a b : List Nat} {j : Nat} (h : j < a.length) : (a ++ b).getD j 0 = a.getD j 0 := by
  simp [List.getD_eq_getElem?_getD, List.getElem?_append_left h]
theorem gd_right {a b : List Nat} {j : Nat} : (a ++ b).getD (a.length + j) 0 = b.getD j 0 := by
  simp [List.getD_eq_getElem?_getD, List.getElem?_append_right]
theorem gd_mem {a : List Nat} {j : Nat} (h : j < a.length) : a.getD j 0 ∈ a := by
  simp [List.getD_eq_getElem?_getD, h]

/-- a gap's end: nothing, or a comma -/
noncomputable def Stop (r : List Nat) : Prop := r = [] ∨ ∃ r', r = 44 :: r'
theorem Stop.at {r : List Nat} (h : Stop r) (hl : 0 < r.length) : r.getD 0 0 = 44 := by
  rcases h with rfl | ⟨r', rfl⟩
  · cases hl
  · rfl
theorem sp44 : sp 44 = false := by decide +kernel
theorem tok44 : isTok 44 = false := by decide +kernel

theorem E_tok_no {ws r : List Nat} (hn : (ws ++ r).length ≤ 10000) (hws : Spaces ws) (hr : Stop r) : Ends 60020 (forSearch C1 (S (ws ++ r)).cps 1 0 (S (ws ++ r)).cps.size false) Failed := by
  have hz : (S (ws ++ r)).cps.size = (ws ++ r).length := S_size _
  refine (tok_no (a := ws.length) (by (first | lia | omega)) (by rw [hz, List.length_append]; (first | lia | omega)) (fun j hj => ?_) (fun h => ?_)).mono (by (first | lia | omega)) fun _ x => x
  · rw [gd, gd_left hj]; exact hws _ (gd_mem hj)
  · rw [hz, List.length_append] at h
    have h0 : (S (ws ++ r)).cps.getD ws.length 0 = 44 := by
      rw [gd]
      have := gd_right (a := ws) (b := r) (j := 0)
      rw [Nat.add_zero] at this
      rw [this]
      exact hr.at (by (first | lia | omega))
    rw [h0]
    exact ⟨tok44, sp44⟩
theorem E_tok_ok {ws key after : List Nat} (hn : (ws ++ (key ++ after)).length ≤ 10000) (hws : Spaces ws) (hk0 : key ≠ []) (hk : ∀ c ∈ key, isTok c = true) (ha : after = [] ∨ isTok (after.getD 0 0) = false) :
    Ends 20 (forSearch C1 (S (ws ++ (key ++ after))).cps 1 0 (S (ws ++ (key ++ after))).cps.size false) (fun m => Found m ws.length (ws.length + key.length) 0 (ws.length + key.length)) := by
  have hz : (S (ws ++ (key ++ after))).cps.size = ws.length + (key.length + after.length) := by rw [S_size, List.length_append, List.length_append]
  rw [List.length_append, List.length_append] at hn
  have hkl : 0 < key.length := List.length_pos_iff.mpr hk0
  refine tok_ok (by (first | lia | omega)) (by (first | lia | omega)) (by (first | lia | omega)) (fun j hj => ?_) (fun j hj1 hj2 => ?_) (fun h => ?_)
  · rw [gd, gd_left hj]; exact hws _ (gd_mem hj)
  · obtain ⟨i, rfl⟩ : ∃ i, j = ws.length + i := ⟨j - ws.length, by (first | lia | omega)⟩
    rw [gd, gd_right, gd_left (by (first | lia | omega))]
    exact hk _ (gd_mem (by (first | lia | omega)))
  · rw [gd, gd_right]
    have := gd_right (a := key) (b := after) (j := 0)
    rw [Nat.add_zero] at this
    rw [this]
    rcases ha with rfl | ha
    · rw [hz, List.length_nil] at h; (first | lia | omega)
    · exact ha
theorem E_val_no {ws r : List Nat} (hn : (ws ++ r).length ≤ 10000) (hws : Spaces ws) (hr : Stop r) : Ends 40020 (forSearch C3 (S (ws ++ r)).cps 1 0 (S (ws ++ r)).cps.size false) Failed := by
  have hz : (S (ws ++ r)).cps.size = (ws ++ r).length := S_size _
  refine (val_no (a := ws.length) (by (first | lia | omega)) (by rw [hz, List.length_append]; (first | lia | omega)) (fun j hj => ?_) (fun h => ?_)).mono (by (first | lia | omega)) fun _ x => x
  · rw [gd, gd_left hj]; exact hws _ (gd_mem hj)
  · rw [hz, List.length_append] at h
    have h0 : (S (ws ++ r)).cps.getD ws.length 0 = 44 := by
      rw [gd]
      have := gd_right (a := ws) (b := r) (j := 0)
      rw [Nat.add_zero] at this
      rw [this]
      exact hr.at (by (first | lia | omega))
    rw [h0]
    exact ⟨by decide, sp44⟩
theorem E_quo_no1 {ws r : List Nat} (hn : (ws ++ r).length ≤ 10000) (hws : Spaces ws) (hr : Stop r) : Ends 40020 (forSearch C2 (S (ws ++ r)).cps 1 0 (S (ws ++ r)).cps.size false) Failed := by
  have hz : (S (ws ++ r)).cps.size = (ws ++ r).length := S_size _
  refine (quo_no1 (a := ws.length) (by (first | lia | omega)) (by rw [hz, List.length_append]; (first | lia | omega)) (fun j hj => ?_) (fun h => ?_)).mono (by (first | lia | omega)) fun _ x => x
  · rw [gd, gd_left hj]; exact hws _ (gd_mem hj)
  · rw [hz, List.length_append] at h
    have h0 : (S (ws ++ r)).cps.getD ws.length 0 = 44 := by
      rw [gd]
      have := gd_right (a := ws) (b := r) (j := 0)
      rw [Nat.add_zero] at this
      rw [this]
      exact hr.at (by (first | lia | omega))
    rw [h0]
    exact ⟨by decide, sp44⟩

/-- what may stand behind a bare value's = and blanks -/
structure BareOk (v more : List Nat) : Prop where
  bare : ∀ c ∈ v, isBare c = true
  head : v.getD 0 0 ≠ 34
  stop : more = [] ∨ isBare (more.getD 0 0) = false
  nil : v = [] → Stop more
theorem bare_sp {c : Nat} (h : isBare c = true) : sp c = false := by
  unfold isBare at h
  cases h' : sp c
  · rfl
  · rw [show Unicode.isSpace c = true from h'] at h; simp at h
theorem BareOk.first {v more : List Nat} (h : BareOk v more) (hl : 0 < (v ++ more).length) : (v ++ more).getD 0 0 ≠ 34 ∧ sp ((v ++ more).getD 0 0) = false := by
  cases v with
  | nil =>
    rw [List.nil_append] at hl ⊢
    rw [(h.nil rfl).at hl]
    exact ⟨by decide, sp44⟩
  | cons c v => exact ⟨h.head, bare_sp (h.bare c (.head _))⟩
theorem gd_cons {c : Nat} {l : List Nat} {j : Nat} : (c :: l).getD (1 + j) 0 = l.getD j 0 := by rw [Nat.add_comm]; rfl

theorem E_quo_no2 {ws v more : List Nat} (hn : (61 :: (ws ++ (v ++ more))).length ≤ 10000) (hws : Spaces ws) (hb : BareOk v more) :
    Ends 40040 (forSearch C2 (S (61 :: (ws ++ (v ++ more)))).cps 1 0 (S (61 :: (ws ++ (v ++ more)))).cps.size false) Failed := by
  have hz : (S (61 :: (ws ++ (v ++ more)))).cps.size = 1 + (ws.length + (v ++ more).length) := by rw [S_size, List.length_cons, List.length_append]; (first | lia | omega)
  rw [List.length_cons, List.length_append] at hn
  refine (quo_no2 (a := ws.length) (by (first | lia | omega)) (by (first | lia | omega)) (by rw [gd]; rfl) (fun j hj => ?_) (fun h => ?_)).mono (by (first | lia | omega)) fun _ x => x
  · rw [gd, gd_cons, gd_left hj]; exact hws _ (gd_mem hj)
  · rw [gd, gd_cons]
    have := gd_right (a := ws) (b := v ++ more) (j := 0)
    rw [Nat.add_zero] at this
    rw [this]
    exact hb.first (by (first | lia | omega))
theorem E_val_ok {ws v more : List Nat} (hn : (61 :: (ws ++ (v ++ more))).length ≤ 10000) (hws : Spaces ws) (hb : BareOk v more) :
    Ends 20 (forSearch C3 (S (61 :: (ws ++ (v ++ more)))).cps 1 0 (S (61 :: (ws ++ (v ++ more)))).cps.size false) (fun m => Found m (1 + ws.length) (1 + ws.length + v.length) 0 (1 + ws.length + v.length)) := by
  have hz : (S (61 :: (ws ++ (v ++ more)))).cps.size = 1 + (ws.length + (v.length + more.length)) := by rw [S_size, List.length_cons, List.length_append, List.length_append]; (first | lia | omega)
  rw [List.length_cons, List.length_append, List.length_append] at hn
  refine val_ok (a := ws.length) (by (first | lia | omega)) (by (first | lia | omega)) (by (first | lia | omega)) (by rw [gd]; rfl) (fun j hj => ?_) (fun h => ?_) (fun j h1 h2 => ?_) (fun h => ?_)
  · rw [gd, gd_cons, gd_left hj]; exact hws _ (gd_mem hj)
  · rw [gd, gd_cons]
    have := gd_right (a := ws) (b := v ++ more) (j := 0)
    rw [Nat.add_zero] at this
    rw [this]
    exact (hb.first (by rw [List.length_append]; (first | lia | omega))).2
  · obtain ⟨i, rfl⟩ : ∃ i, j = 1 + (ws.length + i) := ⟨j - 1 - ws.length, by (first | lia | omega)⟩
    rw [gd, gd_cons, gd_right, gd_left (by (first | lia | omega))]
    exact hb.bare _ (gd_mem (by (first | lia | omega)))
  · rw [show 1 + ws.length + v.length = 1 + (ws.length + v.length) by (first | lia | omega), gd, gd_cons, gd_right]
    have := gd_right (a := v) (b := more) (j := 0)
    rw [Nat.add_zero] at this
    rw [this]
    rcases hb.stop with rfl | q
    · rw [hz, List.length_nil] at h; (first | lia | omega)
    · exact q

/-- a value in marks as it is written, and the value -/
inductive Esc : List Nat → List Nat → Prop
  | nil : Esc [] []
  | plain {c : Nat} {e v : List Nat} : isPlain c = true → Esc e v → Esc (c :: e) (c :: v)
  | esc {c : Nat} {e v : List Nat} : c ≠ 10 → Esc e v → Esc (92 :: c :: e) (c :: v)

/-- plain signs first -/
theorem Esc.cut {e v : List Nat} (h : Esc e v) : ∃ pl e' v', e = pl ++ e' ∧ v = pl ++ v' ∧ (∀ c ∈ pl, isPlain c = true) ∧ (e' = [] ∧ v' = [] ∨ ∃ c e'' v'', e' = 92 :: c :: e'' ∧ v' = c :: v'' ∧ c ≠ 10 ∧ Esc e'' v'') := by
  induction h with
  | nil => exact ⟨[], [], [], rfl, rfl, (fun _ h => nomatch h), .inl ⟨rfl, rfl⟩⟩
  | plain hc _ ih =>
    obtain ⟨pl, e', v', rfl, rfl, hp, r⟩ := ih
    exact ⟨_ :: pl, e', v', rfl, rfl, fun c hc' => by rcases List.mem_cons.mp hc' with rfl | q; exact hc; exact hp c q, r⟩
  | esc hc hr _ => exact ⟨[], _, _, rfl, rfl, (fun _ h => nomatch h), .inr ⟨_, _, _, rfl, rfl, hc, hr⟩⟩

theorem esc_blocks {more : List Nat} : ∀ (n : Nat) (pre e v : List Nat), e.length ≤ n → Esc e v → ∃ q k, pre.length ≤ q ∧ q < (pre ++ (e ++ 34 :: more)).length ∧ (∀ j, pre.length ≤ j → j < q → isPlain ((S (pre ++ (e ++ 34 :: more))).cps.getD j 0) = true) ∧
      isPlain ((S (pre ++ (e ++ 34 :: more))).cps.getD q 0) = false ∧ Blocks (S (pre ++ (e ++ 34 :: more))).cps q (pre.length + e.length) k := by
  intro n
  induction n using Nat.strongRecOn with
  | ind n ih =>
    rintro pre e v hn he
    obtain ⟨pl, e', v', rfl, rfl, hp, r⟩ := he.cut
    have hpl : ∀ j, pre.length ≤ j → j < pre.length + pl.length → isPlain ((S (pre ++ (pl ++ e' ++ 34 :: more))).cps.getD j 0) = true := fun j h1 h2 => by
      obtain ⟨i, rfl⟩ : ∃ i, j = pre.length + i := ⟨j - pre.length, by (first | lia | omega)⟩
      rw [gd, gd_right, List.append_assoc, gd_left (by (first | lia | omega))]
      exact hp _ (gd_mem (by (first | lia | omega)))
    have hat : ∀ i, (S (pre ++ (pl ++ e' ++ 34 :: more))).cps.getD (pre.length + pl.length + i) 0 = (e' ++ 34 :: more).getD i 0 := fun i => by
      rw [gd, Nat.add_assoc, gd_right, List.append_assoc, gd_right]
    rcases r with ⟨rfl, rfl⟩ | ⟨c, e'', v'', rfl, rfl, hc, hr⟩
    · have h34 := hat 0
      rw [Nat.add_zero] at h34
      have h34' : (S (pre ++ (pl ++ [] ++ 34 :: more))).cps.getD (pre.length + pl.length) 0 = 34 := h34
      refine ⟨pre.length + pl.length, 0, by (first | lia | omega), by simp, hpl, by rw [h34']; rfl, ?_⟩
      rw [List.append_nil]
      have := Blocks.nil (T := (S (pre ++ (pl ++ [] ++ 34 :: more))).cps) (e := pre.length + pl.length) (by rw [S_size]; simp) h34'
      simpa using this
    · have h92 := hat 0
      have hc1 := hat 1
      rw [Nat.add_zero] at h92
      have hassoc : pre ++ (pl ++ 92 :: c :: e'' ++ 34 :: more) = (pre ++ (pl ++ [92, c])) ++ (e'' ++ 34 :: more) := by simp
      cases n with
      | zero => simp at hn
      | succ n =>
        obtain ⟨q, k, g1, g2, g3, g4, g5⟩ := ih n (Nat.lt_succ_self n) (pre ++ (pl ++ [92, c])) e'' v'' (by simp at hn ⊢; (first | lia | omega)) hr
        rw [← hassoc] at g2 g3 g4 g5
        have hl : (pre ++ (pl ++ [92, c])).length = pre.length + pl.length + 2 := by simp; (first | lia | omega)
        rw [hl] at g1 g3 g5
        refine ⟨pre.length + pl.length, k + 1, by (first | lia | omega), by simp, hpl, by rw [h92]; rfl, ?_⟩
        have e1 : pre.length + (pl ++ 92 :: c :: e'').length = pre.length + pl.length + 2 + e''.length := by simp; (first | lia | omega)
        rw [e1]
        exact .cons g1 (by rw [S_size]; exact g2) h92 (by rw [hc1]; exact hc) g3 g4 g5

theorem E_quo_ok {e v more : List Nat} (hn : (61 :: 34 :: (e ++ 34 :: more)).length ≤ 10000) (he : Esc e v) :
    Ends 80060 (forSearch C2 (S (61 :: 34 :: (e ++ 34 :: more))).cps 1 0 (S (61 :: 34 :: (e ++ 34 :: more))).cps.size false) (fun m => Found m 2 (2 + e.length) 0 (2 + e.length + 1)) := by
  obtain ⟨q, k, g1, g2, g3, g4, g5⟩ := esc_blocks (more := more) e.length [61, 34] e v (Nat.le_refl _) he
  have hz : (S (61 :: 34 :: (e ++ 34 :: more))).cps.size = (61 :: 34 :: (e ++ 34 :: more)).length := S_size _
  have e0 : [61, 34] ++ (e ++ 34 :: more) = 61 :: 34 :: (e ++ 34 :: more) := rfl
  rw [e0] at g2 g3 g4 g5
  exact (quo_ok (T := (S (61 :: 34 :: (e ++ 34 :: more))).cps) (q := q) (by (first | lia | omega)) (by rw [gd]; rfl) (by rw [gd]; rfl) g1 (by rw [hz]; exact g2) g3 g4 g5).mono (by (first | lia | omega)) fun _ x => x
end Mine

end

section
open PySem PySem.W PyProof.Rows PySem.Calls PySem.Sre
set_option maxRecDepth 100000
set_option maxHeartbeats 1000000
set_option linter.unusedVariables false
set_option linter.unusedSimpArgs false
namespace Mine
theorem ext_list (l : List Nat) (a b : Nat) : ((S l).cps.extract a b).toList = (l.drop a).take (b - a) := by
  simp [S, List.extract]
theorem ofStr_nil : PySem.Str.ofString "" = S [] := by decide +kernel
theorem ofStr_slash : PySem.Str.ofString "\\" = S [92] := by decide +kernel
theorem pre_ext {c0 : List Nat} (l : List Nat) (a b : Nat) : (S c0 ++ (⟨(S l).cps.extract a b⟩ : PySem.Str)).cps.toList = c0 ++ (l.drop a).take (b - a) := by
  rw [PySem.Str.cps_append]
  simp [S, List.extract]
theorem pre_ext_len {c0 : List Nat} (l : List Nat) (a b : Nat) : (S c0 ++ (⟨(S l).cps.extract a b⟩ : PySem.Str)).length ≤ c0.length + (b - a) := by
  show (S c0 ++ (⟨(S l).cps.extract a b⟩ : PySem.Str)).cps.size ≤ _
  rw [← Array.length_toList, pre_ext, List.length_append]
  have := List.length_take_le (b - a) (l.drop a)
  (first | lia | omega)
theorem plain92 {c : Nat} (h : isPlain c = true) : c ≠ 92 := by
  rintro rfl
  exact absurd h (by decide)

theorem esc_subs : ∀ (n : Nat) (pre e v : List Nat) (mu : Bool), e.length ≤ n → Esc e v → (pre ++ e).length ≤ 10000 →
    ∃ ps, Subs C4 (S (pre ++ e)) (fun b e' => PySem.Str.ofString "" ++ ⟨(S (pre ++ e)).cps.extract b e'⟩) pre.length mu ps ∧ ps.flatMap (fun y => y.cps.toList) = v := by
  intro n
  induction n using Nat.strongRecOn with
  | ind n ih =>
    rintro pre e v mu hn he hl
    obtain ⟨pl, e', v', rfl, rfl, hp, r⟩ := he.cut
    have hz : (S (pre ++ (pl ++ e'))).cps.size = pre.length + (pl.length + e'.length) := by rw [S_size, List.length_append, List.length_append]
    rw [List.length_append, List.length_append] at hl
    have hpl : ∀ j, pre.length ≤ j → j < pre.length + pl.length → (S (pre ++ (pl ++ e'))).cps.getD j 0 ≠ 92 := fun j h1 h2 => by
      obtain ⟨i, rfl⟩ : ∃ i, j = pre.length + i := ⟨j - pre.length, by (first | lia | omega)⟩
      rw [gd, gd_right, gd_left (by (first | lia | omega))]
      exact plain92 (hp _ (gd_mem (by (first | lia | omega))))
    have hat : ∀ i, (S (pre ++ (pl ++ e'))).cps.getD (pre.length + pl.length + i) 0 = e'.getD i 0 := fun i => by
      rw [gd, Nat.add_assoc, gd_right, gd_right]
    rcases r with ⟨rfl, rfl⟩ | ⟨c, e'', v'', rfl, rfl, hc, hr⟩
    · refine ⟨_, .nil (n := 20020) (by rw [hz]; (first | lia | omega)) (by (first | lia | omega)) ((esc_no (by (first | lia | omega)) (by rw [hz]; (first | lia | omega)) (fun j h1 h2 => hpl j h1 (by rw [hz] at h2; simpa using h2))).mono (by (first | lia | omega)) fun _ x => x), ?_⟩
      split
      · rw [List.flatMap_cons, List.flatMap_nil, List.append_nil]
        show ((S (pre ++ (pl ++ []))).cps.extract _ _).toList = _
        rw [ext_list, hz]
        simp
      · rename_i h
        rw [hz] at h
        have : pl = [] := by simpa using h
        rw [this]; rfl
    · have h92 := hat 0
      have hc1 := hat 1
      rw [Nat.add_zero] at h92
      have hassoc : pre ++ (pl ++ 92 :: c :: e'') = (pre ++ (pl ++ [92, c])) ++ e'' := by simp
      cases n with
      | zero => simp at hn
      | succ n =>
        obtain ⟨ps, g1, g2⟩ := ih n (Nat.lt_succ_self n) (pre ++ (pl ++ [92, c])) e'' v'' false (by simp at hn ⊢; (first | lia | omega)) hr (by simp at hl ⊢; (first | lia | omega))
        rw [← hassoc] at g1
        have hlen : (pre ++ (pl ++ [92, c])).length = pre.length + pl.length + 2 := by simp; (first | lia | omega)
        rw [hlen] at g1
        have hsz : pre.length + pl.length + 2 ≤ (S (pre ++ (pl ++ 92 :: c :: e''))).cps.size := by rw [hz]; simp; (first | lia | omega)
        have hS := Subs.cons (mu := mu) (p := pre.length) (n := 20020) (b := pre.length + pl.length + 1) (e := pre.length + pl.length + 2) (st := pre.length + pl.length) (hd := pre.length + pl.length + 2) (by (first | lia | omega)) (by (first | lia | omega)) (by (first | lia | omega)) hsz hsz (by (first | lia | omega))
          ((esc_ok (T := (S (pre ++ (pl ++ 92 :: c :: e''))).cps) (p := pre.length) (q := pre.length + pl.length) (mu := mu) (by (first | lia | omega)) (by (first | lia | omega)) (by (first | lia | omega)) hpl h92 (by rw [hc1]; exact hc)).mono (by (first | lia | omega)) fun _ x => x) (by rw [ofStr_nil]; exact Nat.le_trans (pre_ext_len _ _ _) (by simp only [List.length_cons, List.length_nil]; (first | lia | omega))) g1
        refine ⟨_, hS, ?_⟩
        rw [List.flatMap_append, List.flatMap_cons, g2, ofStr_nil, pre_ext]
        have hd1 : (List.drop (pre.length + pl.length + 1) (pre ++ (pl ++ 92 :: c :: e''))).take (pre.length + pl.length + 2 - (pre.length + pl.length + 1)) = [c] := by
          rw [show pre ++ (pl ++ 92 :: c :: e'') = (pre ++ pl ++ [92]) ++ (c :: e'') by simp, List.drop_append_of_le_length (by simp; (first | lia | omega)), List.drop_of_length_le (by simp; (first | lia | omega))]
          rw [show pre.length + pl.length + 2 - (pre.length + pl.length + 1) = 1 by (first | lia | omega)]
          rfl
        rw [hd1, List.nil_append]
        have hd2 : (List.flatMap (fun y : PySem.Str => y.cps.toList) (if pre.length < pre.length + pl.length then [⟨(S (pre ++ (pl ++ 92 :: c :: e''))).cps.extract pre.length (pre.length + pl.length)⟩] else [])) = pl := by
          split
          · rw [List.flatMap_cons, List.flatMap_nil, List.append_nil]
            show ((S _).cps.extract _ _).toList = _
            rw [ext_list]
            simp
          · rename_i h
            exact (List.eq_nil_of_length_eq_zero (by (first | lia | omega))).symm
        rw [hd2]
        rfl

/-- what join_header_words makes of a value -/
noncomputable def escJ (v : List Nat) : List Nat := v.flatMap fun c => if isPlain c then [c] else [92, c]

theorem plain_cut : ∀ v : List Nat, ∃ pl v', v = pl ++ v' ∧ (∀ c ∈ pl, isPlain c = true) ∧ (v' = [] ∨ ∃ c v'', v' = c :: v'' ∧ isPlain c = false)
  | [] => ⟨[], [], rfl, (fun _ h => nomatch h), .inl rfl⟩
  | c :: v => by
    cases h : isPlain c
    · exact ⟨[], c :: v, rfl, (fun _ h => nomatch h), .inr ⟨c, v, rfl, h⟩⟩
    · obtain ⟨pl, v', rfl, hp, r⟩ := plain_cut v
      exact ⟨c :: pl, v', rfl, (fun d hd => by rcases List.mem_cons.mp hd with rfl | q; exact h; exact hp d q), r⟩
theorem escJ_plain {pl : List Nat} (h : ∀ c ∈ pl, isPlain c = true) : escJ pl = pl := by
  induction pl with
  | nil => rfl
  | cons c pl ih =>
    unfold escJ
    rw [List.flatMap_cons, if_pos (h c (.head _))]
    exact congrArg (c :: ·) (ih fun d hd => h d (.tail _ hd))
theorem escJ_append (a b : List Nat) : escJ (a ++ b) = escJ a ++ escJ b := by unfold escJ; rw [List.flatMap_append]

theorem jes_subs : ∀ (n : Nat) (pre v : List Nat) (mu : Bool), v.length ≤ n → (pre ++ v).length ≤ 10000 →
    ∃ ps, Subs C7 (S (pre ++ v)) (fun b e' => PySem.Str.ofString "\\" ++ ⟨(S (pre ++ v)).cps.extract b e'⟩) pre.length mu ps ∧ ps.flatMap (fun y => y.cps.toList) = escJ v := by
  intro n
  induction n using Nat.strongRecOn with
  | ind n ih =>
    rintro pre v mu hn hl
    obtain ⟨pl, v', rfl, hp, r⟩ := plain_cut v
    have hz : (S (pre ++ (pl ++ v'))).cps.size = pre.length + (pl.length + v'.length) := by rw [S_size, List.length_append, List.length_append]
    rw [List.length_append, List.length_append] at hl
    have hpl : ∀ j, pre.length ≤ j → j < pre.length + pl.length → isPlain ((S (pre ++ (pl ++ v'))).cps.getD j 0) = true := fun j h1 h2 => by
      obtain ⟨i, rfl⟩ : ∃ i, j = pre.length + i := ⟨j - pre.length, by (first | lia | omega)⟩
      rw [gd, gd_right, gd_left (by (first | lia | omega))]
      exact hp _ (gd_mem (by (first | lia | omega)))
    have hat : ∀ i, (S (pre ++ (pl ++ v'))).cps.getD (pre.length + pl.length + i) 0 = v'.getD i 0 := fun i => by
      rw [gd, Nat.add_assoc, gd_right, gd_right]
    rw [escJ_append, escJ_plain hp]
    rcases r with rfl | ⟨c, v'', rfl, hc⟩
    · refine ⟨_, .nil (n := 20) (by rw [hz]; (first | lia | omega)) (by (first | lia | omega)) ((jes_no (by (first | lia | omega)) (by rw [hz]; (first | lia | omega)) (fun j h1 h2 => hpl j h1 (by rw [hz] at h2; simpa using h2))).mono (by (first | lia | omega)) fun _ x => x), ?_⟩
      split
      · rw [List.flatMap_cons, List.flatMap_nil, List.append_nil]
        show ((S (pre ++ (pl ++ []))).cps.extract _ _).toList = _
        rw [ext_list, hz]
        simp [escJ]
      · rename_i h
        rw [hz] at h
        have : pl = [] := by simpa using h
        rw [this]; rfl
    · have h92 := hat 0
      rw [Nat.add_zero] at h92
      have hassoc : pre ++ (pl ++ c :: v'') = (pre ++ (pl ++ [c])) ++ v'' := by simp
      cases n with
      | zero => simp at hn
      | succ n =>
        obtain ⟨ps, g1, g2⟩ := ih n (Nat.lt_succ_self n) (pre ++ (pl ++ [c])) v'' false (by simp at hn ⊢; (first | lia | omega)) (by simp at hl ⊢; (first | lia | omega))
        rw [← hassoc] at g1
        have hlen : (pre ++ (pl ++ [c])).length = pre.length + pl.length + 1 := by simp; (first | lia | omega)
        rw [hlen] at g1
        have hsz : pre.length + pl.length + 1 ≤ (S (pre ++ (pl ++ c :: v''))).cps.size := by rw [hz]; simp; (first | lia | omega)
        have hS := Subs.cons (mu := mu) (p := pre.length) (n := 20) (b := pre.length + pl.length) (e := pre.length + pl.length + 1) (st := pre.length + pl.length) (hd := pre.length + pl.length + 1) (by (first | lia | omega)) (by (first | lia | omega)) (by (first | lia | omega)) hsz hsz (by (first | lia | omega))
          (jes_ok (T := (S (pre ++ (pl ++ c :: v''))).cps) (p := pre.length) (q := pre.length + pl.length) (mu := mu) (by (first | lia | omega)) (by (first | lia | omega)) (by (first | lia | omega)) hpl (by rw [h92]; exact hc)) (by rw [ofStr_slash]; exact Nat.le_trans (pre_ext_len _ _ _) (by simp only [List.length_cons, List.length_nil]; (first | lia | omega))) g1
        refine ⟨_, hS, ?_⟩
        rw [List.flatMap_append, List.flatMap_cons, g2, ofStr_slash, pre_ext]
        have hd1 : (List.drop (pre.length + pl.length) (pre ++ (pl ++ c :: v''))).take (pre.length + pl.length + 1 - (pre.length + pl.length)) = [c] := by
          rw [show pre ++ (pl ++ c :: v'') = (pre ++ pl) ++ (c :: v'') by simp, List.drop_append_of_le_length (by simp), List.drop_of_length_le (by simp)]
          rw [show pre.length + pl.length + 1 - (pre.length + pl.length) = 1 by (first | lia | omega)]
          rfl
        rw [hd1]
        have hd2 : (List.flatMap (fun y : PySem.Str => y.cps.toList) (if pre.length < pre.length + pl.length then [⟨(S (pre ++ (pl ++ c :: v''))).cps.extract pre.length (pre.length + pl.length)⟩] else [])) = pl := by
          split
          · rw [List.flatMap_cons, List.flatMap_nil, List.append_nil]
            show ((S _).cps.extract _ _).toList = _
            rw [ext_list]
            simp
          · rename_i h
            exact (List.eq_nil_of_length_eq_zero (by (first | lia | omega))).symm
        rw [hd2]
        show pl ++ ([92] ++ [c] ++ escJ v'') = pl ++ escJ (c :: v'')
        unfold escJ
        rw [List.flatMap_cons, if_neg (by rw [hc]; decide)]
        rfl
end Mine

end

section
open PySem PySem.W PyProof.Rows PySem.Calls PySem.Sre
set_option maxRecDepth 100000
set_option maxHeartbeats 4000000
set_option linter.unusedVariables false
namespace Mine

/-- a parameter: its name, its value or none -/
noncomputable abbrev Par := List Nat × Option (List Nat)
inductive Ev
  | comma
  | param (p : Par)
  | junk

/-- how split_header_words eats a text -/
inductive Eats : List Nat → List Ev → Prop
  | nil : Eats [] []
  | comma {ws rest : List Nat} {evs : List Ev} : Spaces ws → Eats rest evs → Eats (ws ++ 44 :: rest) (.comma :: evs)
  | lone {ws key ws2 r : List Nat} {evs : List Ev} : Spaces ws → key ≠ [] → (∀ c ∈ key, isTok c = true) → Spaces ws2 → Stop r → Eats (ws2 ++ r) evs → Eats (ws ++ (key ++ (ws2 ++ r))) (.param (key, none) :: evs)
  | quoted {ws key e v more : List Nat} {evs : List Ev} : Spaces ws → key ≠ [] → (∀ c ∈ key, isTok c = true) → Esc e v → Eats more evs → Eats (ws ++ (key ++ 61 :: 34 :: (e ++ 34 :: more))) (.param (key, some v) :: evs)
  | bare {ws key ws2 v more : List Nat} {evs : List Ev} : Spaces ws → key ≠ [] → (∀ c ∈ key, isTok c = true) → Spaces ws2 → BareOk v more → Eats more evs → Eats (ws ++ (key ++ 61 :: (ws2 ++ (v ++ more)))) (.param (key, some v) :: evs)
  | junk {c : Nat} : c = 32 ∨ c = 9 → Eats [c] [.junk]

/-- what comes of it: the lists that are done and the list at hand -/
noncomputable def eatS (st : List (List Par) × List Par) : Ev → List (List Par) × List Par
  | .comma => (if st.2 = [] then st.1 else st.1 ++ [st.2], [])
  | .param p => (st.1, st.2 ++ [p])
  | .junk => st
noncomputable def eatEnd (st : List (List Par) × List Par) : List (List Par) := if st.2 = [] then st.1 else st.1 ++ [st.2]
noncomputable def eatR (evs : List Ev) : List (List Par) := eatEnd (evs.foldl eatS ([], []))

/-- a value of the heap that is a pair -/
noncomputable def valOf : Option (List Nat) → Tok → Value
  | none, _ => .none
  | some v, t => .str (S v) t
noncomputable def TupOf (fz : List (Addr × Obj)) (v : Value) (p : Par) : Prop := ∃ a t1 t2, v = .ref a ∧ (a, ({ cls := .type "tuple", data := .seq #[.str (S p.1) t1, valOf p.2 t2] } : Obj)) ∈ fz
inductive All2 {α β : Type} (R : α → β → Prop) : List α → List β → Prop
  | nil : All2 R [] []
  | cons {a b as bs} : R a b → All2 R as bs → All2 R (a :: as) (b :: bs)
theorem All2.snoc {α β : Type} {R : α → β → Prop} {as : List α} {bs : List β} {a : α} {b : β} (h : All2 R as bs) (r : R a b) : All2 R (as ++ [a]) (bs ++ [b]) := by
  induction h with
  | nil => exact .cons r .nil
  | cons x _ ih => exact .cons x ih
theorem All2.mono {α β : Type} {R R' : α → β → Prop} {as : List α} {bs : List β} (h : All2 R as bs) (k : ∀ a b, R a b → R' a b) : All2 R' as bs := by
  induction h with
  | nil => exact .nil
  | cons x _ ih => exact .cons (k _ _ x) ih
theorem All2.length {α β : Type} {R : α → β → Prop} {as : List α} {bs : List β} (h : All2 R as bs) : as.length = bs.length := by
  induction h with
  | nil => rfl
  | cons x _ ih => simp [ih]
theorem All2.get {α β : Type} {R : α → β → Prop} {as : List α} {bs : List β} (h : All2 R as bs) : ∀ {i : Nat} {a : α}, as[i]? = some a → ∃ b, bs[i]? = some b ∧ R a b := by
  induction h with
  | nil => intro i a h; simp at h
  | cons x _ ih =>
    intro i a h
    cases i with
    | zero => simp at h; subst h; exact ⟨_, rfl, x⟩
    | succ i => exact ih (by simpa using h)
/-- a list of pairs, written out in the ledger -/
noncomputable def ListOfP (fz : List (Addr × Obj)) (v : Value) (ps : List Par) : Prop := ∃ a vs n, v = .ref a ∧ (a, listOf (List.toArray vs) n) ∈ fz ∧ All2 (TupOf fz) vs ps
theorem TupOf.more {fz fz' : List (Addr × Obj)} {v : Value} {p : Par} (h : TupOf fz v p) (k : ∀ q ∈ fz, q ∈ fz') : TupOf fz' v p := by
  obtain ⟨a, t1, t2, e, m⟩ := h
  exact ⟨a, t1, t2, e, k _ m⟩
theorem ListOfP.more {fz fz' : List (Addr × Obj)} {v : Value} {ps : List Par} (h : ListOfP fz v ps) (k : ∀ q ∈ fz, q ∈ fz') : ListOfP fz' v ps := by
  obtain ⟨a, vs, n, e, m, r⟩ := h
  exact ⟨a, vs, n, e, k _ m, r.mono fun _ _ x => x.more k⟩

theorem lk_mbool : typeLookup (.type "re.Match") "__bool__" = pure none := by rw [typeLookup_type, builtinLookup_eq_fast]; kernel_rfl
theorem lk_mlen : typeLookup (.type "re.Match") "__len__" = pure none := by rw [typeLookup_type, builtinLookup_eq_fast]; kernel_rfl
theorem truthy_match {M' : Model} {A : Around} {E : Value → Shared → Prop} {s : Shared} {a : Addr} {o : Obj} {Q : Bool → Shared → Prop} (ha : s.heap.get? a = some o) (hc : o.cls = .type "re.Match") (h : Q true s) : wpAny M' A (truthy (.ref a)) Q E s := by
  unfold truthy
  dsimp only
  refine wpAny_bind (wpAny_callSpecial?_none ⟨_, ha, hc⟩ lk_mbool ?_)
  dsimp only
  refine wpAny_bind (wpAny_specialOf ⟨_, ha, hc⟩ lk_mlen ?_)
  exact wpAny_pure h
end Mine

end

section
open PySem PySem.W PyProof.Rows PySem.Calls PySem.Sre
set_option maxRecDepth 100000
set_option maxHeartbeats 4000000
set_option linter.unusedVariables false
namespace Mine
theorem fill5 : Challenge.rw_nb0191_01 = Challenge.rw_nb0191_01 ∧ hd.heap_39 = hd.heap_39 := by k_fill; exact ⟨rfl, rfl⟩

theorem pat_mk {K : Frag} {h : Heap} {P c : Addr} {C : Array Nat} {g : Nat} {pv fl : Value} {o : Obj} {items : Array Value} {n : Nat} (X : K.In h)
    (h1 : K.lookup P = some { cls := .type "re.Pattern", data := .fields #[pv, fl, .int g 0, .none, .none, .ref c, .int 0 0] }) (h2 : K.lookup c = some o) (h3 : o.data = .seq items n) (h4 : (items.map Builtin.Re.reRawOf).map (·.toNat) = C) : PatAt h P C g :=
  ⟨⟨pv, fl, c, o, items, n, X _ _ h1, X _ _ h2, h3, h4⟩⟩
theorem pat_of {w : World} {h : Heap} (X : (hd.heap_39 w.params).In h) : PatAt h 60 C1 1 ∧ PatAt h 65 C2 1 ∧ PatAt h 70 C3 1 ∧ PatAt h 75 C4 1 ∧ PatAt h 48 C5 0 ∧ PatAt h 87 C6 0 ∧ PatAt h 92 C7 1 :=
  ⟨pat_mk X rfl rfl rfl (by decide +kernel), pat_mk X rfl rfl rfl (by decide +kernel), pat_mk X rfl rfl rfl (by decide +kernel), pat_mk X rfl rfl rfl (by decide +kernel), pat_mk X rfl rfl rfl (by decide +kernel), pat_mk X rfl rfl rfl (by decide +kernel), pat_mk X rfl rfl rfl (by decide +kernel)⟩
end Mine

end

section
open PySem PySem.W PyProof.Rows PySem.Calls PySem.Sre
set_option maxRecDepth 100000
set_option maxHeartbeats 4000000
set_option linter.unusedVariables false
namespace Mine
theorem tr_list {prog : Program} {w : World} {A : Around} {E : Value → Shared → Prop} {s : Shared} {h₀ : Heap} {L : Addr} {news : List (Addr × Obj)} {l : Addr} {vs : List Value} {n : Nat} {Q : Bool → Shared → Prop} (N : News h₀ L s.heap news) (hm : (l, listOf vs.toArray n) ∈ news) (hz : vs.length ≤ 100000)
    (h1 : ∀ k, vs ≠ [] → Q true { s with toks := k }) (h2 : ∀ k, vs = [] → Q false { s with toks := k }) : wpAny (model prog w) A (truthy (.ref l)) Q E s := by
  refine wpAny_truthy_list (items := vs.toArray) ⟨_, (N _ hm).1, rfl, _, rfl⟩ (by rw [List.size_toArray]; (first | lia | omega)) ?_
  cases vs with
  | nil => exact h2 _ rfl
  | cons v vs => exact h1 _ (by simp)
theorem news_sub {h₀ h : Heap} {L : Addr} {news news' : List (Addr × Obj)} (N : News h₀ L h news) (k : ∀ p ∈ news', p ∈ news) : News h₀ L h news' := fun p hp => N p (k p hp)
noncomputable def TabOk (tab : Array Value) (fz : List (Addr × Obj)) : Prop :=
  tab = #[] ∨ ∃ c' oc vs t, tab = #[rawInt 62, rawInt 49, .ref c'] ∧ (c', oc) ∈ fz ∧ oc.data = .fields vs ∧ vs[1]? = some (Value.str ((PySem.Str.ofString "split_header_words" ++ PySem.Str.ofString ".<locals>.") ++ PySem.Str.ofString "<lambda>") t)
theorem TabOk.more {tab : Array Value} {fz fz' : List (Addr × Obj)} (h : TabOk tab fz) (k : ∀ q ∈ fz, q ∈ fz') : TabOk tab fz' := by
  rcases h with h | ⟨c', oc, vs, t, h1, h2, h3, h4⟩
  · exact .inl h
  · exact .inr ⟨c', oc, vs, t, h1, k _ h2, h3, h4⟩

theorem allLt_ne {d : Addr} : ∀ {l : List (Addr × Obj)}, AllLt d l → ∀ p ∈ l, p.1 ≠ d
  | [], _, _, h => nomatch h
  | _ :: _, h, p, hp => by
    rcases List.mem_cons.mp hp with rfl | hp
    · exact Nat.ne_of_lt h.1
    · exact allLt_ne h.2 p hp
theorem drop_sp {ws r : List Nat} (h : Spaces ws) : (ws ++ 44 :: r).dropWhile sp = 44 :: r := by
  induction ws with
  | nil => simp [sp44]
  | cons c ws ih =>
    rw [List.cons_append, List.dropWhile_cons, if_pos (h c (.head _))]
    exact ih fun c hc => h c (.tail _ hc)
theorem lstrip_comma {ws r : List Nat} (h : Spaces ws) : Txt.lstrip (S (ws ++ 44 :: r)) = S (44 :: r) := by rw [lstrip_S, drop_sp h]
theorem ofStr_comma : PySem.Str.ofString "," = S [44] := by decide +kernel
theorem starts_comma {r : List Nat} : Txt.startswith (S (44 :: r)) (PySem.Str.ofString ",") = true := by
  rw [ofStr_comma]
  have h1 : (S [44]).length = 1 := rfl
  have h2 : (S (44 :: r)).length = r.length + 1 := S_length _
  unfold Txt.startswith
  rw [h1, h2]
  have h3 : Builtin.Str.subAt (S (44 :: r)) (S [44]) 0 = true := by
    rw [StrLaws.subAt_eq, S_list, S_list, h1]; simp
  rw [h3]; simp
theorem starts_none : Txt.startswith (S []) (PySem.Str.ofString ",") = false := by rw [ofStr_comma]; rfl
theorem lstrip_junk {c : Nat} (h : c = 32 ∨ c = 9) : Txt.lstrip (S [c]) = S [] := by
  rw [lstrip_S]
  rcases h with rfl | rfl <;> decide +kernel
theorem slice_comma {r : List Nat} : Txt.slice (S (44 :: r)) (some 1) none = S r := by
  have := slice_from (l := 44 :: r) (a := 1) (by simp)
  simpa using this
theorem All2.ne {α β : Type} {R : α → β → Prop} {as : List α} {bs : List β} (h : All2 R as bs) (k : as ≠ []) : bs ≠ [] := by
  cases h with
  | nil => exact absurd rfl k
  | cons _ _ => simp
theorem All2.nil_of {α β : Type} {R : α → β → Prop} {as : List α} {bs : List β} (h : All2 R as bs) (k : as = []) : bs = [] := by
  cases h with
  | nil => rfl
  | cons _ _ => cases k

structure ShwI (R : List (List Par)) (Lr I : Addr) (oI : Obj) (n : Nat) (m : PySem.Str → Option Value) (news : List (Addr × Obj)) (Lp : Addr) (rv pv : List Value) (nr np : Nat) (tab : Array Value) (fz : List (Addr × Obj)) (text : List Nat) (tt : Tok) (evs : List Ev) (rs : List (List Par)) (ps : List Par) : Prop where
  h_news : news = (Lr, listOf rv.toArray nr) :: (Lp, listOf pv.toArray np) :: (77, tabObj tab) :: (I, oI) :: fz
  h_n : n = text.length
  h_eats : Eats text evs
  h_end : eatEnd (evs.foldl eatS (rs, ps)) = R
  h_rv : All2 (ListOfP fz) rv rs
  h_pv : All2 (TupOf fz) pv ps
  h_szr : rv.length + text.length ≤ 10000
  h_szp : pv.length + text.length ≤ 10000
  h_tab : TabOk tab fz
  h_fzr : ∀ p ∈ fz, p.1 ≠ Lr
  h_fzp : ∀ p ∈ fz, p.1 ≠ Lp
  h_fzt : ∀ p ∈ fz, p.1 ≠ 77
  h_fzi : ∀ p ∈ fz, p.1 ≠ I
  h_rp : @Ne Nat Lr Lp
  h_rt : @Ne Nat Lr 77
  h_pt : @Ne Nat Lp 77
  h_ri : @Ne Nat Lr I
  h_pi : @Ne Nat Lp I
  h_ti : @Ne Nat 77 I
  h_mt : m (PySem.Str.ofString "text") = some (.str (S text) tt)
  h_mp : m (PySem.Str.ofString "pairs") = some (.ref Lp)
  h_mr : m (PySem.Str.ofString "result") = some (.ref Lr)
noncomputable def ShwJ (R : List (List Par)) (Lr I : Addr) (oI : Obj) (n : Nat) (m : PySem.Str → Option Value) (news : List (Addr × Obj)) : Prop :=
  ∃ Lp rv pv nr np tab fz text tt evs rs ps, ShwI R Lr I oI n m news Lp rv pv nr np tab fz text tt evs rs ps

/-- between the lists -/
noncomputable def ShwO (R : List (List Par)) (Lr : Addr) (i : Nat) (m : PySem.Str → Option Value) (news : List (Addr × Obj)) : Prop :=
  ∃ rv nr tab fz, news = (Lr, listOf (List.toArray rv) nr) :: (77, tabObj tab) :: fz ∧ m (PySem.Str.ofString "result") = some (.ref Lr) ∧ (i = 0 → rv = [] ∧ nr = 0 ∧ tab = #[] ∧ fz = []) ∧ (i = 1 → All2 (ListOfP fz) rv R) ∧ TabOk tab fz

theorem Eats.nil_evs {t : List Nat} {evs : List Ev} (h : Eats t evs) (e : t = []) : evs = [] := by
  cases h with
  | nil => rfl
  | comma => simp at e
  | lone _ hk => simp at e; exact absurd e.2.1 hk
  | quoted => simp at e
  | bare => simp at e
  | junk => simp at e
theorem ext_S (l : List Nat) (a b : Nat) : (⟨(S l).cps.extract a b⟩ : PySem.Str) = S ((l.drop a).take (b - a)) := by
  rw [S_of ⟨(S l).cps.extract a b⟩, ext_list]
theorem cut_key (ws key after : List Nat) : (⟨(S (ws ++ (key ++ after))).cps.extract ws.length (ws.length + key.length)⟩ : PySem.Str) = S key := by
  rw [ext_S]; congr 1; simp
theorem cut_rest (ws key after : List Nat) : (S (ws ++ (key ++ after))).cps.toList.drop (ws.length + key.length) = after := by
  rw [S_list, ← List.append_assoc, ← List.length_append, List.drop_left]
theorem cut_quo (e more : List Nat) : (⟨(S (61 :: 34 :: (e ++ 34 :: more))).cps.extract 2 (2 + e.length)⟩ : PySem.Str) = S e := by
  rw [ext_S]; congr 1; simp
theorem rest_quo (e more : List Nat) : (S (61 :: 34 :: (e ++ 34 :: more))).cps.toList.drop (2 + e.length + 1) = more := by
  rw [S_list, show 2 + e.length + 1 = (e.length + 1) + 1 + 1 by (first | lia | omega), List.drop_succ_cons, List.drop_succ_cons, ← List.drop_drop, List.drop_left]; rfl
theorem cut_bare (ws v more : List Nat) : (⟨(S (61 :: (ws ++ (v ++ more)))).cps.extract (1 + ws.length) (1 + ws.length + v.length)⟩ : PySem.Str) = S v := by
  rw [ext_S]; congr 1
  rw [Nat.add_comm 1, List.drop_succ_cons, List.drop_left]; simp
theorem rest_bare (ws v more : List Nat) : (S (61 :: (ws ++ (v ++ more)))).cps.toList.drop (1 + ws.length + v.length) = more := by
  rw [S_list, show 1 + ws.length + v.length = (ws ++ v).length + 1 by rw [List.length_append]; (first | lia | omega), List.drop_succ_cons, ← List.append_assoc, List.drop_left]
theorem sp_tok {c : Nat} (h : sp c = true) : isTok c = false := by
  unfold isTok; rw [show Unicode.isSpace c = true from h]; simp
theorem tok61 : isTok 61 = false := by decide +kernel
theorem lone_after {ws2 r : List Nat} (h : Spaces ws2) (hr : Stop r) : ws2 ++ r = [] ∨ isTok ((ws2 ++ r).getD 0 0) = false := by
  cases ws2 with
  | nil =>
    rcases hr with rfl | ⟨r', rfl⟩
    · exact .inl rfl
    · exact .inr tok44
  | cons c ws => exact .inr (sp_tok (h c (.head _)))
noncomputable abbrev tup2 (a b : Value) : Obj := { cls := .type "tuple", data := .seq #[a, b] }
theorem shw_param {g' h' : Heap} {L' : Addr} {s : Shared} {tk n : Nat} {m' : PySem.Str → Option Value} {nw : List (Addr × Obj)} {R : List (List Par)} {l1 I Lp a : Addr} {oI : Obj} {rv pv : List Value} {nr np : Nat} {tab : Array Value} {fz cd : List (Addr × Obj)} {key : List Nat} {val : Option (List Nat)} {t1 t2 tt : Tok} {text : List Nat} {evs : List Ev} {rs : List (List Par)} {ps : List Par}
    (hEnd : eatEnd (evs.foldl eatS (rs, ps ++ [(key, val)])) = R) (hE : Eats text evs) (hlt : text.length < n) (hrv : All2 (ListOfP fz) rv rs) (hpv : All2 (TupOf fz) pv ps) (hszr : rv.length + n ≤ 10000) (hszp : pv.length + n ≤ 10000) (hTab : TabOk tab (cd ++ fz))
    (fzr : ∀ p ∈ fz, p.1 ≠ l1) (fzp : ∀ p ∈ fz, p.1 ≠ Lp) (fzt : ∀ p ∈ fz, p.1 ≠ 77) (fzi : ∀ p ∈ fz, p.1 ≠ I) (hcd : ∀ p ∈ cd, p.1 ≠ l1 ∧ p.1 ≠ Lp ∧ p.1 ≠ 77 ∧ p.1 ≠ I)
    (rp : @Ne Nat l1 Lp) (rt : @Ne Nat l1 77) (pt : @Ne Nat Lp 77) (ri : @Ne Nat l1 I) (pi : @Ne Nat Lp I) (ti : @Ne Nat 77 I) (a1 : @Ne Nat a l1) (a2 : @Ne Nat a Lp) (a3 : @Ne Nat a 77) (a4 : @Ne Nat a I)
    (F : Fr g' L' h' m') (N : News g' L' h' nw) (m1 : (l1, listOf rv.toArray nr) ∈ nw) (m2 : (Lp, listOf (pv ++ [Value.ref a]).toArray (np + 1)) ∈ nw) (m3 : (77, tabObj tab) ∈ nw) (m4 : (I, oI) ∈ nw) (m5 : (a, tup2 (.str (S key) t1) (valOf val t2)) ∈ nw) (m6 : ∀ p ∈ cd, p ∈ nw) (m7 : ∀ p ∈ fz, p ∈ nw)
    (mt : m' (PySem.Str.ofString "text") = some (.str (S text) tt)) (mp : m' (PySem.Str.ofString "pairs") = some (.ref Lp)) (mr : m' (PySem.Str.ofString "result") = some (.ref l1)) :
    WhileStep g' L' s (ShwJ R l1 I oI) n .next { s with heap := h', toks := tk } := by
  have sub : ∀ q ∈ fz, q ∈ (a, tup2 (.str (S key) t1) (valOf val t2)) :: (cd ++ fz) := fun q hq => .tail _ (List.mem_append_right _ hq)
  have all : ∀ {d : Addr}, a ≠ d → (∀ p ∈ cd, p.1 ≠ d) → (∀ p ∈ fz, p.1 ≠ d) → ∀ p ∈ (a, tup2 (.str (S key) t1) (valOf val t2)) :: (cd ++ fz), p.1 ≠ d := fun h1 h2 h3 p hp => by
    rcases List.mem_cons.mp hp with rfl | hp
    · exact h1
    · rcases List.mem_append.mp hp with hp | hp
      · exact h2 p hp
      · exact h3 p hp
  refine WhileStep.intro (n' := text.length) F (news_sub (news' := (l1, listOf rv.toArray nr) :: (Lp, listOf (pv ++ [Value.ref a]).toArray (np + 1)) :: (77, tabObj tab) :: (I, oI) :: (a, tup2 (.str (S key) t1) (valOf val t2)) :: (cd ++ fz)) N ?_) hlt
    ⟨Lp, rv, pv ++ [Value.ref a], nr, np + 1, tab, _, text, tt, evs, rs, ps ++ [(key, val)], rfl, rfl, hE, hEnd, hrv.mono fun _ _ x => x.more sub, (hpv.mono fun _ _ x => x.more sub).snoc ⟨a, t1, t2, rfl, .head _⟩, by (first | lia | omega), by simp only [List.length_append, List.length_cons, List.length_nil]; (first | lia | omega), hTab.more fun _ h => .tail _ h,
      all a1 (fun p hp => (hcd p hp).1) fzr, all a2 (fun p hp => (hcd p hp).2.1) fzp, all a3 (fun p hp => (hcd p hp).2.2.1) fzt, all a4 (fun p hp => (hcd p hp).2.2.2) fzi, rp, rt, pt, ri, pi, ti, mt, mp, mr⟩
  intro p hp
  rcases List.mem_cons.mp hp with rfl | hp
  · exact m1
  rcases List.mem_cons.mp hp with rfl | hp
  · exact m2
  rcases List.mem_cons.mp hp with rfl | hp
  · exact m3
  rcases List.mem_cons.mp hp with rfl | hp
  · exact m4
  rcases List.mem_cons.mp hp with rfl | hp
  · exact m5
  rcases List.mem_append.mp hp with hp | hp
  · exact m6 p hp
  · exact m7 p hp
end Mine

end

local macro_rules | `(tactic| walk_at "mine truthy") => `(tactic| (k_here; (with_reducible show PySem.wpAny _ _ (PySem.truthy (PySem.Value.ref _)) _ _ _); refine' Mine.tr_list ?N ?m ?z ?_ ?_; (case N => k_asm); (case m => k_mem); (case z => omega); all_goals (intro k' e'; (try dsimp only))))

section
open PySem PySem.W PyProof.Rows PySem.Calls PySem.Sre
set_option maxRecDepth 100000
set_option maxHeartbeats 40000000
set_option linter.unusedVariables false
namespace Mine
theorem fill6 : Challenge.rw_nb0191_01 = Challenge.rw_nb0191_01 ∧ hd.heap_39 = hd.heap_39 := by k_fill; exact ⟨rfl, rfl⟩


local macro_rules | `(tactic| k_all) => `(tactic| assumption)
local macro_rules | `(tactic| walk_at "truthy ref") => `(tactic| walk_at "mine truthy")
local macro_rules | `(tactic| walk_at "call builtin:list.append") => `(tactic| walk_at "mine append")
/-- what may stand behind a word -/
inductive TailOf (key : List Nat) : List Nat → List Ev → Prop
  | lone {ws2 r : List Nat} {evs : List Ev} : Spaces ws2 → Stop r → Eats (ws2 ++ r) evs → TailOf key (ws2 ++ r) (.param (key, none) :: evs)
  | quoted {e v more : List Nat} {evs : List Ev} : Esc e v → Eats more evs → TailOf key (61 :: 34 :: (e ++ 34 :: more)) (.param (key, some v) :: evs)
  | bare {ws2 v more : List Nat} {evs : List Ev} : Spaces ws2 → BareOk v more → Eats more evs → TailOf key (61 :: (ws2 ++ (v ++ more))) (.param (key, some v) :: evs)
theorem TailOf.after {key tl : List Nat} {evs : List Ev} (h : TailOf key tl evs) : tl = [] ∨ isTok (tl.getD 0 0) = false := by
  cases h with
  | lone h hr _ => exact lone_after h hr
  | quoted => exact .inr tok61
  | bare => exact .inr tok61
inductive Eats3 : List Nat → List Ev → Prop
  | nil : Eats3 [] []
  | comma {ws rest : List Nat} {evs : List Ev} : Spaces ws → Eats rest evs → Eats3 (ws ++ 44 :: rest) (.comma :: evs)
  | word {ws key tl : List Nat} {evs : List Ev} : Spaces ws → key ≠ [] → (∀ c ∈ key, isTok c = true) → TailOf key tl evs → Eats3 (ws ++ (key ++ tl)) evs
  | junk {c : Nat} : c = 32 ∨ c = 9 → Eats3 [c] [.junk]
theorem Eats.to3 {t : List Nat} {evs : List Ev} (h : Eats t evs) : Eats3 t evs := by
  cases h with
  | nil => exact .nil
  | comma a b => exact .comma a b
  | lone a b c d e f => exact .word a b c (.lone d e f)
  | quoted a b c d e => exact .word a b c (.quoted d e)
  | bare a b c d e f => exact .word a b c (.bare d e f)
  | junk a => exact .junk a
theorem shw_call {prog : Program} {w : World} {base h₀ : Heap} {env : Env} {L : Addr} {m : PySem.Str → Option Value} {rest : List (Addr × Obj)} {s : Shared} {p : Program} {loose : List PySem.Str} {mean : ExcName → Option Value} {mg mb : PySem.Str → Option Value} {Q : Value → Shared → Prop} {E : Value → Shared → Prop}
  {l : Addr} {nl : Nat} {T0 : List Nat} {tx : Tok} {evs : List Ev}
  (B : Below callerA base [] h₀) (F : Fr h₀ L s.heap m) (X : (hd.heap_39 w.params).In h₀) (N : News h₀ L s.heap ((77, tabObj #[]) :: rest)) (T : Top p loose mean mg mb h₀) (hf : env.frame = some L) (hk : env.scope.kind = .function)
  (hdis : ∀ p ∈ rest, p.1 ≠ 77) (hl : s.heap.get? l = some (listOf [Value.str (S T0) tx].toArray nl)) (hl77 : l ≠ 77) (hE : Eats T0 evs) (hlen : T0.length ≤ 10000)
  (hQ : ∀ r rv n tab fz h' tk, All2 (ListOfP fz) rv (eatR evs) → Fr h₀ L h' m → News h₀ L h' ((r, listOf (List.toArray rv) n) :: (77, tabObj tab) :: fz ++ rest) → (∀ p ∈ rest, ∀ q ∈ (r, listOf (List.toArray rv) n) :: fz, q.1 ≠ p.1) → Q (.ref r) { s with heap := h', toks := tk }) :
  wpAny (model prog w) (callerA.deeper env) (call (.ref 82) [.ref l] []) Q E s := by
  w_on
  w_strict (
  (refine' call_fz (live := [(77, tabObj #[])]) (rest := rest) ?k1 ?k2 ?k3 ?k4 ?k5 ?kA ?kF ?kK ?k6 ?k7 ?k8 ?k9 ?kB ?kD ?_ ?c2 ?c3 ?c4 ?c5; (case kA => exact rfl); (case kF => exact hf); (case kK => exact hk); (case k1 => k_asm); (case k2 => k_asm); (case k3 => k_asm); (case k4 => k_asm); (case k5 => k_asm); (case k6 => k_is); (case k7 => k_is); (case k8 => k_room); (case k9 => first | exact BindsTo.of_eq rfl | exact binds_K (by k_in) rfl (by k_is) rfl rfl rfl | fail "k_enter: no rule for these arguments"); (case c5 => decide); (case kB => exact locs rfl); (case c2 => exact rfl); (case c3 => exact rfl); (case c4 => exact rfl); (case kD => exact fun p hp q hq => by rw [List.mem_singleton.mp hq]; exact (hdis p hp).symm); k_whole; intro g' L' h' hkeep st' F' N' l' B' X' T'; (try dsimp only); (try k_lift B'); (try k_fold))
  have hnews : ∀ p ∈ rest, s.heap.get? p.1 = some p.2 := fun p hp => (N p (.tail _ hp)).1
  have gl : g'.get? l = some (listOf [Value.str (S T0) tx].toArray nl) := hkeep _ _ (fun p hp => by rw [List.mem_singleton.mp hp]; exact hl77.symm) hl
  obtain ⟨hP1, hP2, hP3, hP4, hP5, _, _⟩ := pat_of X'
  have hgl : g'.IsList l [Value.str (S T0) tx].toArray := ⟨_, gl, rfl, _, rfl⟩
  have hC : CodeHd g' 81 77 := codeHd_of_K X' (by kernel_rfl)
  clear N F
  (repeat' ((fail_if_success ((first | (with_reducible show Turn _ _ _ _ _ _ _ _) | (with_reducible show WhileStep _ _ _ _ _ _ _) | (with_reducible show Back _ _ _ _ _ _ _ _ _) | (with_reducible show wpAny _ _ (call (Value.builtin "re.Pattern.search") _ _) _ _ _) | (with_reducible show wpAny _ _ (call (Value.builtin "re.Match.group") _ _) _ _ _) | (with_reducible show wpAny _ _ (call (Value.builtin "re.Pattern.sub") _ _) _ _ _) | (with_reducible show wpAny _ _ (call (Value.builtin "re.Pattern.subn") _ _) _ _ _) | (with_reducible show wpAny _ _ (call (Value.ref 55) _ _) _ _ _) | (with_reducible show wpAny _ _ (getMethod (Value.ref _) (PySem.Str.ofString "search") _) _ _ _) | (with_reducible show wpAny _ _ (getMethod (Value.ref _) (PySem.Str.ofString "group") _) _ _ _) | (with_reducible show wpAny _ _ (getMethod (Value.ref _) (PySem.Str.ofString "sub") _) _ _ _) | (with_reducible show wpAny _ _ (getMethod (Value.ref _) (PySem.Str.ofString "subn") _) _ _ _) | (with_reducible show wpAny _ _ (exec (Stmt.For _ _ _ _ _) _) _ _ _) | (with_reducible show wpAny _ _ (exec (Stmt.While _ _ _ _) _) _ _ _) | (with_reducible show wpAny _ _ (eval (PySem.Expr.ListComp _ _ _ _) _) _ _ _)))); first | (k_unfold; (try dsimp only)) | walk1 | (dsimp only; walk1)))
  rename Fr _ _ _ _ => F1
  rename News _ _ _ _ => N1
  rename_i l1 _ hl1 _
  refine For_invVF F1 rfl rfl ?_
  walk1
  refine iter_list (src := []) (vs := [Value.str (S T0) tx]) (k := nl) (ShwO (eatR evs) l1) rfl (.inl gl) (fun _ _ _ _ p (h : p ∈ []) => nomatch h) F1 N1 ?h0 ?turn ?done
  case h0 => exact ⟨[], 0, #[], [], rfl, rfl, (fun _ => ⟨rfl, rfl, rfl, rfl⟩), (fun h => nomatch h), .inl rfl⟩
  case turn =>
    rintro i v m₁ news₁ I oI h tk hi ⟨rv, nr, tab, fz, rfl, mr, h0, -⟩ hoff F2 N2
    obtain ⟨rfl, rfl⟩ : i = 0 ∧ v = .str (S T0) tx := by
      cases i with
      | zero => exact ⟨rfl, by simpa using hi.symm⟩
      | succ i => simp at hi
    obtain ⟨rfl, rfl, rfl, rfl⟩ := h0 rfl
    have F3 := fr_see [(PySem.Str.ofString "text", .str (S T0) tx), (PySem.Str.ofString "result", .ref l1)] F2 (by
      intro p hp
      simp only [List.mem_cons, List.not_mem_nil, or_false] at hp
      rcases hp with rfl | rfl
      · rfl
      · exact mr)
    clear F2 mr F1 N1
    simp only [List.cons_append, List.nil_append] at N2
    (repeat' ((fail_if_success ((first | (with_reducible show Turn _ _ _ _ _ _ _ _) | (with_reducible show WhileStep _ _ _ _ _ _ _) | (with_reducible show Back _ _ _ _ _ _ _ _ _) | (with_reducible show wpAny _ _ (call (Value.builtin "re.Pattern.search") _ _) _ _ _) | (with_reducible show wpAny _ _ (call (Value.builtin "re.Match.group") _ _) _ _ _) | (with_reducible show wpAny _ _ (call (Value.builtin "re.Pattern.sub") _ _) _ _ _) | (with_reducible show wpAny _ _ (call (Value.builtin "re.Pattern.subn") _ _) _ _ _) | (with_reducible show wpAny _ _ (call (Value.ref 55) _ _) _ _ _) | (with_reducible show wpAny _ _ (getMethod (Value.ref _) (PySem.Str.ofString "search") _) _ _ _) | (with_reducible show wpAny _ _ (getMethod (Value.ref _) (PySem.Str.ofString "group") _) _ _ _) | (with_reducible show wpAny _ _ (getMethod (Value.ref _) (PySem.Str.ofString "sub") _) _ _ _) | (with_reducible show wpAny _ _ (getMethod (Value.ref _) (PySem.Str.ofString "subn") _) _ _ _) | (with_reducible show wpAny _ _ (exec (Stmt.For _ _ _ _ _) _) _ _ _) | (with_reducible show wpAny _ _ (exec (Stmt.While _ _ _ _) _) _ _ _) | (with_reducible show wpAny _ _ (eval (PySem.Expr.ListComp _ _ _ _) _) _ _ _)))); first | (k_unfold; (try dsimp only)) | walk1 | (dsimp only; walk1)))
    rename Fr _ _ _ _ => F5
    rename News _ _ _ _ => N5
    clear N2 F3
    rename_i _ l2 _ hl2 _
    have hi1 : @Ne Nat l1 I := hoff _ (.head _)
    have hi2 : @Ne Nat 77 I := hoff _ (.tail _ (.head _))
    refine While_inv (ShwJ (eatR evs) l1 I oI) (n₀ := T0.length) (news := [(l1, listOf (List.toArray []) 0), (l2, listOf (List.toArray []) 0), (77, tabObj #[]), (I, oI)]) F5 (news_sub N5 ?n1) ?j0 ?wturn
    case n1 => 
      intro p hp
      simp only [List.mem_cons, List.not_mem_nil, or_false] at hp ⊢
      rcases hp with rfl | rfl | rfl | rfl <;> simp
    case j0 => exact ⟨l2, [], [], 0, 0, #[], [], T0, tx, evs, [], [], rfl, rfl, hE, rfl, .nil, .nil, by simpa using hlen, by simpa using hlen, .inl rfl, (fun _ h => nomatch h), (fun _ h => nomatch h), (fun _ h => nomatch h), (fun _ h => nomatch h), by (first | lia | omega), by (first | lia | omega), by (first | lia | omega), hi1, by (first | lia | omega), hi2, rfl, rfl, rfl⟩
    case wturn =>
      rintro n m₂ news₂ h₂ tk₂ F6 N6 ⟨Lp, rv, pv, nr, np, tab, fz, text, tt, evs₂, rs, ps, J⟩
      obtain ⟨rfl, rfl, hEats, hEnd, hrv, hpv, hszr, hszp, hTab, fzr, fzp, fzt, fzi, hrp, hrt, hpt, hri, hpi, hti, mt, mp, mr⟩ := J
      have F7 := fr_see [(PySem.Str.ofString "text", .str (S text) tt), (PySem.Str.ofString "pairs", .ref Lp), (PySem.Str.ofString "result", .ref l1)] F6 (by
        intro p hp
        simp only [List.mem_cons, List.not_mem_nil, or_false] at hp
        rcases hp with rfl | rfl | rfl
        · exact mt
        · exact mp
        · exact mr)
      clear F6 mt mp mr F5 N5
      have htl : (S text).length ≤ 10000 := by show (S text).cps.size ≤ 10000; rw [S_size]; (first | lia | omega)
      have hzr : rv.length ≤ 10000 := by (first | lia | omega)
      have hzp : pv.length ≤ 10000 := by (first | lia | omega)
      (repeat' ((fail_if_success ((first | (with_reducible show Turn _ _ _ _ _ _ _ _) | (with_reducible show WhileStep _ _ _ _ _ _ _) | (with_reducible show Back _ _ _ _ _ _ _ _ _) | (with_reducible show wpAny _ _ (call (Value.builtin "re.Pattern.search") _ _) _ _ _) | (with_reducible show wpAny _ _ (call (Value.builtin "re.Match.group") _ _) _ _ _) | (with_reducible show wpAny _ _ (call (Value.builtin "re.Pattern.sub") _ _) _ _ _) | (with_reducible show wpAny _ _ (call (Value.builtin "re.Pattern.subn") _ _) _ _ _) | (with_reducible show wpAny _ _ (call (Value.ref 55) _ _) _ _ _) | (with_reducible show wpAny _ _ (getMethod (Value.ref _) (PySem.Str.ofString "search") _) _ _ _) | (with_reducible show wpAny _ _ (getMethod (Value.ref _) (PySem.Str.ofString "group") _) _ _ _) | (with_reducible show wpAny _ _ (getMethod (Value.ref _) (PySem.Str.ofString "sub") _) _ _ _) | (with_reducible show wpAny _ _ (getMethod (Value.ref _) (PySem.Str.ofString "subn") _) _ _ _) | (with_reducible show wpAny _ _ (exec (Stmt.For _ _ _ _ _) _) _ _ _) | (with_reducible show wpAny _ _ (exec (Stmt.While _ _ _ _) _) _ _ _) | (with_reducible show wpAny _ _ (eval (PySem.Expr.ListComp _ _ _ _) _) _ _ _)))); first | (k_unfold; (try dsimp only)) | walk1 | (dsimp only; walk1)))
      · refine pat_method (hP1.keeps F7.keep) slot_search type_search ?_
        dsimp only
        (repeat' ((fail_if_success ((first | (with_reducible show Turn _ _ _ _ _ _ _ _) | (with_reducible show WhileStep _ _ _ _ _ _ _) | (with_reducible show Back _ _ _ _ _ _ _ _ _) | (with_reducible show wpAny _ _ (call (Value.builtin "re.Pattern.search") _ _) _ _ _) | (with_reducible show wpAny _ _ (call (Value.builtin "re.Match.group") _ _) _ _ _) | (with_reducible show wpAny _ _ (call (Value.builtin "re.Pattern.sub") _ _) _ _ _) | (with_reducible show wpAny _ _ (call (Value.builtin "re.Pattern.subn") _ _) _ _ _) | (with_reducible show wpAny _ _ (call (Value.ref 55) _ _) _ _ _) | (with_reducible show wpAny _ _ (getMethod (Value.ref _) (PySem.Str.ofString "search") _) _ _ _) | (with_reducible show wpAny _ _ (getMethod (Value.ref _) (PySem.Str.ofString "group") _) _ _ _) | (with_reducible show wpAny _ _ (getMethod (Value.ref _) (PySem.Str.ofString "sub") _) _ _ _) | (with_reducible show wpAny _ _ (getMethod (Value.ref _) (PySem.Str.ofString "subn") _) _ _ _) | (with_reducible show wpAny _ _ (exec (Stmt.For _ _ _ _ _) _) _ _ _) | (with_reducible show wpAny _ _ (exec (Stmt.While _ _ _ _) _) _ _ _) | (with_reducible show wpAny _ _ (eval (PySem.Expr.ListComp _ _ _ _) _) _ _ _)))); first | (k_unfold; (try dsimp only)) | walk1 | (dsimp only; walk1)))
        have hx6 : (S text).length ≤ 1000000 := Nat.le_trans htl (by decide)
        cases hEats.to3 with
        | nil => exfalso; rename (_ : Int) ≠ 0 => h0; exact h0 rfl
        | @comma ws rest' evs' hws hE2 =>
          refine search_none (hP1.keeps F7.keep) hx6 (E_tok_no (by (first | lia | omega)) hws (.inr ⟨_, rfl⟩)) (by decide) ?_
          have hls : Txt.lstrip (S (ws ++ 44 :: rest')) = S (44 :: rest') := lstrip_comma hws
          have hst : Txt.startswith (Txt.lstrip (S (ws ++ 44 :: rest'))) (PySem.Str.ofString ",") = true := by rw [hls]; exact starts_comma
          have hsl : Txt.slice (Txt.lstrip (S (ws ++ 44 :: rest'))) (some 1) none = S rest' := by rw [hls]; exact slice_comma
          simp only [List.length_append, List.length_cons] at hszr hszp
          (repeat' ((fail_if_success ((first | (with_reducible show Turn _ _ _ _ _ _ _ _) | (with_reducible show WhileStep _ _ _ _ _ _ _) | (with_reducible show Back _ _ _ _ _ _ _ _ _) | (with_reducible show wpAny _ _ (call (Value.builtin "re.Pattern.search") _ _) _ _ _) | (with_reducible show wpAny _ _ (call (Value.builtin "re.Match.group") _ _) _ _ _) | (with_reducible show wpAny _ _ (call (Value.builtin "re.Pattern.sub") _ _) _ _ _) | (with_reducible show wpAny _ _ (call (Value.builtin "re.Pattern.subn") _ _) _ _ _) | (with_reducible show wpAny _ _ (call (Value.ref 55) _ _) _ _ _) | (with_reducible show wpAny _ _ (getMethod (Value.ref _) (PySem.Str.ofString "search") _) _ _ _) | (with_reducible show wpAny _ _ (getMethod (Value.ref _) (PySem.Str.ofString "group") _) _ _ _) | (with_reducible show wpAny _ _ (getMethod (Value.ref _) (PySem.Str.ofString "sub") _) _ _ _) | (with_reducible show wpAny _ _ (getMethod (Value.ref _) (PySem.Str.ofString "subn") _) _ _ _) | (with_reducible show wpAny _ _ (exec (Stmt.For _ _ _ _ _) _) _ _ _) | (with_reducible show wpAny _ _ (exec (Stmt.While _ _ _ _) _) _ _ _) | (with_reducible show wpAny _ _ (eval (PySem.Expr.ListComp _ _ _ _) _) _ _ _)))); first | (k_unfold; (try dsimp only)) | walk1 | (dsimp only; walk1)))
          · rename Fr _ _ _ _ => F8
            rename News _ _ _ _ => N8
            rename pv ≠ [] => hne
            rename_i l3 _ hl3 _
            have hps : ps ≠ [] := hpv.ne hne
            have h3 := allLt_ne hl3.2.2.2.2
            refine WhileStep.intro (n' := rest'.length) F8 (news_sub (news' := (l1, listOf (rv ++ [Value.ref Lp]).toArray (nr + 1)) :: (l3, listOf (List.toArray []) 0) :: (77, tabObj tab) :: (I, oI) :: (Lp, listOf pv.toArray np) :: fz) N8 ?_) ?_ ⟨l3, rv ++ [Value.ref Lp], [], nr + 1, 0, tab, (Lp, listOf pv.toArray np) :: fz, rest', _, evs', rs ++ [ps], [], rfl, rfl, hE2, ?_, ?_, .nil, ?_, ?_, hTab.more fun _ h => .tail _ h, ?_, ?_, ?_, ?_, by (first | lia | omega), by (first | lia | omega), by (first | lia | omega), by (first | lia | omega), by (first | lia | omega), by (first | lia | omega), congrArg (fun y => some (Value.str y _)) hsl, rfl, rfl⟩
            · intro p hp
              simp only [List.mem_cons] at hp ⊢
              rcases hp with rfl | rfl | rfl | rfl | rfl | hp <;> simp [*]
            · simp only [List.length_append, List.length_cons]; (first | lia | omega)
            · rw [← hEnd, List.foldl_cons]
              show _ = eatEnd (List.foldl eatS (if ps = [] then rs else rs ++ [ps], []) evs')
              rw [if_neg hps]
            · exact (hrv.mono fun _ _ x => x.more fun _ h => .tail _ h).snoc ⟨Lp, pv, np, rfl, .head _, hpv.mono fun _ _ x => x.more fun _ h => .tail _ h⟩
            · simp only [List.length_append, List.length_cons, List.length_nil]; (first | lia | omega)
            · simp only [List.length_nil]; (first | lia | omega)
            · exact List.forall_mem_cons.mpr ⟨fun e => hrp e.symm, fzr⟩
            · exact List.forall_mem_cons.mpr ⟨fun e => by have : @Eq Nat Lp l3 := e; (first | lia | omega), h3⟩
            · exact List.forall_mem_cons.mpr ⟨hpt, fzt⟩
            · exact List.forall_mem_cons.mpr ⟨hpi, fzi⟩
          · rename Fr _ _ _ _ => F8
            rename News _ _ _ _ => N8
            rename pv = [] => hne
            rename_i l3 _ hl3 _
            have hps : ps = [] := hpv.nil_of hne
            have h3 := allLt_ne hl3.2.2.2.2
            refine WhileStep.intro (n' := rest'.length) F8 (news_sub (news' := (l1, listOf rv.toArray nr) :: (l3, listOf (List.toArray []) 0) :: (77, tabObj tab) :: (I, oI) :: fz) N8 ?_) ?_ ⟨l3, rv, [], nr, 0, tab, fz, rest', _, evs', rs, [], rfl, rfl, hE2, ?_, hrv, .nil, ?_, ?_, hTab, fzr, h3, fzt, fzi, by (first | lia | omega), by (first | lia | omega), by (first | lia | omega), by (first | lia | omega), by (first | lia | omega), by (first | lia | omega), congrArg (fun y => some (Value.str y _)) hsl, rfl, rfl⟩
            · intro p hp
              simp only [List.mem_cons] at hp ⊢
              rcases hp with rfl | rfl | rfl | rfl | hp <;> simp [*]
            · simp only [List.length_append, List.length_cons]; (first | lia | omega)
            · rw [← hEnd, List.foldl_cons]
              show _ = eatEnd (List.foldl eatS (if ps = [] then rs else rs ++ [ps], []) evs')
              rw [if_pos hps]
            · (first | lia | omega)
            · simp only [List.length_nil]; (first | lia | omega)
        | @word ws key tl evs' hws hk0 hk htl =>
          simp only [List.length_append, List.length_cons] at hszr hszp
          have ltx : (S tl).length ≤ 10000 := by rw [S_length]; (first | lia | omega)
          have ltx6 : (S tl).length ≤ 1000000 := Nat.le_trans ltx (by decide)
          refine search_found F7 N6 (hP1.keeps F7.keep) hx6 (E_tok_ok (by simp only [List.length_append, List.length_cons]; (first | lia | omega)) hws hk0 hk htl.after) (by decide) (by (first | lia | omega)) ?_
          intro a1 tp1 h8 F8 N8 ltp1 lta1
          have ltp := allLt_of ltp1
          simp only [AllLt] at ltp
          clear ltp1 N6
          (repeat' ((fail_if_success ((first | (with_reducible show wpAny _ _ (truthy (Value.ref _)) _ _ _) | (first | (with_reducible show Turn _ _ _ _ _ _ _ _) | (with_reducible show WhileStep _ _ _ _ _ _ _) | (with_reducible show Back _ _ _ _ _ _ _ _ _) | (with_reducible show wpAny _ _ (call (Value.builtin "re.Pattern.search") _ _) _ _ _) | (with_reducible show wpAny _ _ (call (Value.builtin "re.Match.group") _ _) _ _ _) | (with_reducible show wpAny _ _ (call (Value.builtin "re.Pattern.sub") _ _) _ _ _) | (with_reducible show wpAny _ _ (call (Value.builtin "re.Pattern.subn") _ _) _ _ _) | (with_reducible show wpAny _ _ (call (Value.ref 55) _ _) _ _ _) | (with_reducible show wpAny _ _ (getMethod (Value.ref _) (PySem.Str.ofString "search") _) _ _ _) | (with_reducible show wpAny _ _ (getMethod (Value.ref _) (PySem.Str.ofString "group") _) _ _ _) | (with_reducible show wpAny _ _ (getMethod (Value.ref _) (PySem.Str.ofString "sub") _) _ _ _) | (with_reducible show wpAny _ _ (getMethod (Value.ref _) (PySem.Str.ofString "subn") _) _ _ _) | (with_reducible show wpAny _ _ (exec (Stmt.For _ _ _ _ _) _) _ _ _) | (with_reducible show wpAny _ _ (exec (Stmt.While _ _ _ _) _) _ _ _) | (with_reducible show wpAny _ _ (eval (PySem.Expr.ListComp _ _ _ _) _) _ _ _))))); first | (k_unfold; (try dsimp only)) | walk1 | (dsimp only; walk1)))
          rename Fr _ _ _ _ => F9
          rename News _ _ _ _ => N9
          refine truthy_match (N9 _ (.head _)).1 rfl ?_
          (repeat' ((fail_if_success ((first | (with_reducible show Turn _ _ _ _ _ _ _ _) | (with_reducible show WhileStep _ _ _ _ _ _ _) | (with_reducible show Back _ _ _ _ _ _ _ _ _) | (with_reducible show wpAny _ _ (call (Value.builtin "re.Pattern.search") _ _) _ _ _) | (with_reducible show wpAny _ _ (call (Value.builtin "re.Match.group") _ _) _ _ _) | (with_reducible show wpAny _ _ (call (Value.builtin "re.Pattern.sub") _ _) _ _ _) | (with_reducible show wpAny _ _ (call (Value.builtin "re.Pattern.subn") _ _) _ _ _) | (with_reducible show wpAny _ _ (call (Value.ref 55) _ _) _ _ _) | (with_reducible show wpAny _ _ (getMethod (Value.ref _) (PySem.Str.ofString "search") _) _ _ _) | (with_reducible show wpAny _ _ (getMethod (Value.ref _) (PySem.Str.ofString "group") _) _ _ _) | (with_reducible show wpAny _ _ (getMethod (Value.ref _) (PySem.Str.ofString "sub") _) _ _ _) | (with_reducible show wpAny _ _ (getMethod (Value.ref _) (PySem.Str.ofString "subn") _) _ _ _) | (with_reducible show wpAny _ _ (exec (Stmt.For _ _ _ _ _) _) _ _ _) | (with_reducible show wpAny _ _ (exec (Stmt.While _ _ _ _) _) _ _ _) | (with_reducible show wpAny _ _ (eval (PySem.Expr.ListComp _ _ _ _) _) _ _ _)))); first | (k_unfold; (try dsimp only)) | walk1 | (dsimp only; walk1)))
          refine unm_call B' F9 X' N9 T' rfl rfl hx6 (by rw [S_length]; simp only [List.length_append, List.length_cons]; (first | lia | omega)) (N9 _ (.head _)).1 (N9 _ (.tail _ (.head _))).1 ?_
          intro t10 h10 tk10 F10 N10
          rw [cut_rest]
          clear F9 N9
          (repeat' ((fail_if_success ((first | (with_reducible show Turn _ _ _ _ _ _ _ _) | (with_reducible show WhileStep _ _ _ _ _ _ _) | (with_reducible show Back _ _ _ _ _ _ _ _ _) | (with_reducible show wpAny _ _ (call (Value.builtin "re.Pattern.search") _ _) _ _ _) | (with_reducible show wpAny _ _ (call (Value.builtin "re.Match.group") _ _) _ _ _) | (with_reducible show wpAny _ _ (call (Value.builtin "re.Pattern.sub") _ _) _ _ _) | (with_reducible show wpAny _ _ (call (Value.builtin "re.Pattern.subn") _ _) _ _ _) | (with_reducible show wpAny _ _ (call (Value.ref 55) _ _) _ _ _) | (with_reducible show wpAny _ _ (getMethod (Value.ref _) (PySem.Str.ofString "search") _) _ _ _) | (with_reducible show wpAny _ _ (getMethod (Value.ref _) (PySem.Str.ofString "group") _) _ _ _) | (with_reducible show wpAny _ _ (getMethod (Value.ref _) (PySem.Str.ofString "sub") _) _ _ _) | (with_reducible show wpAny _ _ (getMethod (Value.ref _) (PySem.Str.ofString "subn") _) _ _ _) | (with_reducible show wpAny _ _ (exec (Stmt.For _ _ _ _ _) _) _ _ _) | (with_reducible show wpAny _ _ (exec (Stmt.While _ _ _ _) _) _ _ _) | (with_reducible show wpAny _ _ (eval (PySem.Expr.ListComp _ _ _ _) _) _ _ _)))); first | (k_unfold; (try dsimp only)) | walk1 | (dsimp only; walk1)))
          rename Fr _ _ _ _ => F11
          rename News _ _ _ _ => N11
          refine match_method (N11 _ (.head _)).1 slot_group type_group ?_
          dsimp only
          (repeat' ((fail_if_success ((first | (with_reducible show Turn _ _ _ _ _ _ _ _) | (with_reducible show WhileStep _ _ _ _ _ _ _) | (with_reducible show Back _ _ _ _ _ _ _ _ _) | (with_reducible show wpAny _ _ (call (Value.builtin "re.Pattern.search") _ _) _ _ _) | (with_reducible show wpAny _ _ (call (Value.builtin "re.Match.group") _ _) _ _ _) | (with_reducible show wpAny _ _ (call (Value.builtin "re.Pattern.sub") _ _) _ _ _) | (with_reducible show wpAny _ _ (call (Value.builtin "re.Pattern.subn") _ _) _ _ _) | (with_reducible show wpAny _ _ (call (Value.ref 55) _ _) _ _ _) | (with_reducible show wpAny _ _ (getMethod (Value.ref _) (PySem.Str.ofString "search") _) _ _ _) | (with_reducible show wpAny _ _ (getMethod (Value.ref _) (PySem.Str.ofString "group") _) _ _ _) | (with_reducible show wpAny _ _ (getMethod (Value.ref _) (PySem.Str.ofString "sub") _) _ _ _) | (with_reducible show wpAny _ _ (getMethod (Value.ref _) (PySem.Str.ofString "subn") _) _ _ _) | (with_reducible show wpAny _ _ (exec (Stmt.For _ _ _ _ _) _) _ _ _) | (with_reducible show wpAny _ _ (exec (Stmt.While _ _ _ _) _) _ _ _) | (with_reducible show wpAny _ _ (eval (PySem.Expr.ListComp _ _ _ _) _) _ _ _)))); first | (k_unfold; (try dsimp only)) | walk1 | (dsimp only; walk1)))
          refine group_1 (N11 _ (.head _)).1 (N11 _ (.tail _ (.head _))).1 hx6 ?_
          intro tk12 k12
          rw [cut_key]
          have N12 := news_sub N11 fun p hp => .tail _ (.tail _ hp)
          clear N11 ltp
          (repeat' ((fail_if_success ((first | (with_reducible show Turn _ _ _ _ _ _ _ _) | (with_reducible show WhileStep _ _ _ _ _ _ _) | (with_reducible show Back _ _ _ _ _ _ _ _ _) | (with_reducible show wpAny _ _ (call (Value.builtin "re.Pattern.search") _ _) _ _ _) | (with_reducible show wpAny _ _ (call (Value.builtin "re.Match.group") _ _) _ _ _) | (with_reducible show wpAny _ _ (call (Value.builtin "re.Pattern.sub") _ _) _ _ _) | (with_reducible show wpAny _ _ (call (Value.builtin "re.Pattern.subn") _ _) _ _ _) | (with_reducible show wpAny _ _ (call (Value.ref 55) _ _) _ _ _) | (with_reducible show wpAny _ _ (getMethod (Value.ref _) (PySem.Str.ofString "search") _) _ _ _) | (with_reducible show wpAny _ _ (getMethod (Value.ref _) (PySem.Str.ofString "group") _) _ _ _) | (with_reducible show wpAny _ _ (getMethod (Value.ref _) (PySem.Str.ofString "sub") _) _ _ _) | (with_reducible show wpAny _ _ (getMethod (Value.ref _) (PySem.Str.ofString "subn") _) _ _ _) | (with_reducible show wpAny _ _ (exec (Stmt.For _ _ _ _ _) _) _ _ _) | (with_reducible show wpAny _ _ (exec (Stmt.While _ _ _ _) _) _ _ _) | (with_reducible show wpAny _ _ (eval (PySem.Expr.ListComp _ _ _ _) _) _ _ _)))); first | (k_unfold; (try dsimp only)) | walk1 | (dsimp only; walk1)))
          rename Fr _ _ _ _ => F13
          rename News _ _ _ _ => N13
          refine pat_method (hP2.keeps F13.keep) slot_search type_search ?_
          dsimp only
          (repeat' ((fail_if_success ((first | (with_reducible show Turn _ _ _ _ _ _ _ _) | (with_reducible show WhileStep _ _ _ _ _ _ _) | (with_reducible show Back _ _ _ _ _ _ _ _ _) | (with_reducible show wpAny _ _ (call (Value.builtin "re.Pattern.search") _ _) _ _ _) | (with_reducible show wpAny _ _ (call (Value.builtin "re.Match.group") _ _) _ _ _) | (with_reducible show wpAny _ _ (call (Value.builtin "re.Pattern.sub") _ _) _ _ _) | (with_reducible show wpAny _ _ (call (Value.builtin "re.Pattern.subn") _ _) _ _ _) | (with_reducible show wpAny _ _ (call (Value.ref 55) _ _) _ _ _) | (with_reducible show wpAny _ _ (getMethod (Value.ref _) (PySem.Str.ofString "search") _) _ _ _) | (with_reducible show wpAny _ _ (getMethod (Value.ref _) (PySem.Str.ofString "group") _) _ _ _) | (with_reducible show wpAny _ _ (getMethod (Value.ref _) (PySem.Str.ofString "sub") _) _ _ _) | (with_reducible show wpAny _ _ (getMethod (Value.ref _) (PySem.Str.ofString "subn") _) _ _ _) | (with_reducible show wpAny _ _ (exec (Stmt.For _ _ _ _ _) _) _ _ _) | (with_reducible show wpAny _ _ (exec (Stmt.While _ _ _ _) _) _ _ _) | (with_reducible show wpAny _ _ (eval (PySem.Expr.ListComp _ _ _ _) _) _ _ _)))); first | (k_unfold; (try dsimp only)) | walk1 | (dsimp only; walk1)))
          cases htl with
          | @lone ws2 r evs' hws2 hr hE2 =>
            simp only [List.length_append, List.length_cons] at hszr hszp
            refine search_none (hP2.keeps F13.keep) ltx6 (E_quo_no1 (by rw [S_length] at ltx; (first | lia | omega)) hws2 hr) (by decide) ?_
            (repeat' ((fail_if_success ((first | (with_reducible show Turn _ _ _ _ _ _ _ _) | (with_reducible show WhileStep _ _ _ _ _ _ _) | (with_reducible show Back _ _ _ _ _ _ _ _ _) | (with_reducible show wpAny _ _ (call (Value.builtin "re.Pattern.search") _ _) _ _ _) | (with_reducible show wpAny _ _ (call (Value.builtin "re.Match.group") _ _) _ _ _) | (with_reducible show wpAny _ _ (call (Value.builtin "re.Pattern.sub") _ _) _ _ _) | (with_reducible show wpAny _ _ (call (Value.builtin "re.Pattern.subn") _ _) _ _ _) | (with_reducible show wpAny _ _ (call (Value.ref 55) _ _) _ _ _) | (with_reducible show wpAny _ _ (getMethod (Value.ref _) (PySem.Str.ofString "search") _) _ _ _) | (with_reducible show wpAny _ _ (getMethod (Value.ref _) (PySem.Str.ofString "group") _) _ _ _) | (with_reducible show wpAny _ _ (getMethod (Value.ref _) (PySem.Str.ofString "sub") _) _ _ _) | (with_reducible show wpAny _ _ (getMethod (Value.ref _) (PySem.Str.ofString "subn") _) _ _ _) | (with_reducible show wpAny _ _ (exec (Stmt.For _ _ _ _ _) _) _ _ _) | (with_reducible show wpAny _ _ (exec (Stmt.While _ _ _ _) _) _ _ _) | (with_reducible show wpAny _ _ (eval (PySem.Expr.ListComp _ _ _ _) _) _ _ _)))); first | (k_unfold; (try dsimp only)) | walk1 | (dsimp only; walk1)))
            rename Fr _ _ _ _ => F14
            refine pat_method (hP3.keeps F14.keep) slot_search type_search ?_
            dsimp only
            (repeat' ((fail_if_success ((first | (with_reducible show Turn _ _ _ _ _ _ _ _) | (with_reducible show WhileStep _ _ _ _ _ _ _) | (with_reducible show Back _ _ _ _ _ _ _ _ _) | (with_reducible show wpAny _ _ (call (Value.builtin "re.Pattern.search") _ _) _ _ _) | (with_reducible show wpAny _ _ (call (Value.builtin "re.Match.group") _ _) _ _ _) | (with_reducible show wpAny _ _ (call (Value.builtin "re.Pattern.sub") _ _) _ _ _) | (with_reducible show wpAny _ _ (call (Value.builtin "re.Pattern.subn") _ _) _ _ _) | (with_reducible show wpAny _ _ (call (Value.ref 55) _ _) _ _ _) | (with_reducible show wpAny _ _ (getMethod (Value.ref _) (PySem.Str.ofString "search") _) _ _ _) | (with_reducible show wpAny _ _ (getMethod (Value.ref _) (PySem.Str.ofString "group") _) _ _ _) | (with_reducible show wpAny _ _ (getMethod (Value.ref _) (PySem.Str.ofString "sub") _) _ _ _) | (with_reducible show wpAny _ _ (getMethod (Value.ref _) (PySem.Str.ofString "subn") _) _ _ _) | (with_reducible show wpAny _ _ (exec (Stmt.For _ _ _ _ _) _) _ _ _) | (with_reducible show wpAny _ _ (exec (Stmt.While _ _ _ _) _) _ _ _) | (with_reducible show wpAny _ _ (eval (PySem.Expr.ListComp _ _ _ _) _) _ _ _)))); first | (k_unfold; (try dsimp only)) | walk1 | (dsimp only; walk1)))
            refine search_none (hP3.keeps F14.keep) ltx6 (E_val_no (by rw [S_length] at ltx; (first | lia | omega)) hws2 hr) (by decide) ?_
            (repeat' ((fail_if_success ((first | (with_reducible show Turn _ _ _ _ _ _ _ _) | (with_reducible show WhileStep _ _ _ _ _ _ _) | (with_reducible show Back _ _ _ _ _ _ _ _ _) | (with_reducible show wpAny _ _ (call (Value.builtin "re.Pattern.search") _ _) _ _ _) | (with_reducible show wpAny _ _ (call (Value.builtin "re.Match.group") _ _) _ _ _) | (with_reducible show wpAny _ _ (call (Value.builtin "re.Pattern.sub") _ _) _ _ _) | (with_reducible show wpAny _ _ (call (Value.builtin "re.Pattern.subn") _ _) _ _ _) | (with_reducible show wpAny _ _ (call (Value.ref 55) _ _) _ _ _) | (with_reducible show wpAny _ _ (getMethod (Value.ref _) (PySem.Str.ofString "search") _) _ _ _) | (with_reducible show wpAny _ _ (getMethod (Value.ref _) (PySem.Str.ofString "group") _) _ _ _) | (with_reducible show wpAny _ _ (getMethod (Value.ref _) (PySem.Str.ofString "sub") _) _ _ _) | (with_reducible show wpAny _ _ (getMethod (Value.ref _) (PySem.Str.ofString "subn") _) _ _ _) | (with_reducible show wpAny _ _ (exec (Stmt.For _ _ _ _ _) _) _ _ _) | (with_reducible show wpAny _ _ (exec (Stmt.While _ _ _ _) _) _ _ _) | (with_reducible show wpAny _ _ (eval (PySem.Expr.ListComp _ _ _ _) _) _ _ _)))); first | (k_unfold; (try dsimp only)) | walk1 | (dsimp only; walk1)))
            rename Fr _ _ _ _ => F90
            rename News _ _ _ _ => N90
            rename _ ∧ _ ∧ _ ∧ _ ∧ AllLt _ fz => hD
            refine shw_param (cd := []) (text := ws2 ++ r) (key := key) (val := none) (t2 := 0) ?_ hE2 ?_ hrv hpv ?_ ?_ (by rw [List.nil_append]; exact hTab) fzr fzp fzt fzi (fun _ h => nomatch h) hrp hrt hpt hri hpi hti ?_ ?_ ?_ ?_ F90 N90 (.tail _ (.head _)) (.tail _ (.tail _ (.head _))) (.tail _ (.tail _ (.tail _ (.head _)))) (.tail _ (.tail _ (.tail _ (.tail _ (.head _))))) (List.Mem.head _) (fun _ h => nomatch h) (fun _ h => .tail _ (.tail _ (.tail _ (.tail _ (.tail _ h))))) rfl rfl rfl
            · rw [← hEnd]; rfl
            · have := List.length_pos_iff.mpr hk0; simp only [List.length_append, List.length_cons]; (first | lia | omega)
            · simp only [List.length_append, List.length_cons]; (first | lia | omega)
            · simp only [List.length_append, List.length_cons]; (first | lia | omega)
            · (first | lia | omega)
            · (first | lia | omega)
            · (first | lia | omega)
            · (first | lia | omega)
          | @quoted e v more evs' he hE2 =>
            simp only [List.length_append, List.length_cons] at hszr hszp
            refine search_found F13 N13 (hP2.keeps F13.keep) ltx6 (E_quo_ok (by rw [S_length] at ltx; exact ltx) he) (by decide) (by (first | lia | omega)) ?_
            intro a2 tp2 h14 F14 N14 ltp2 lta2
            have ltp' := allLt_of ltp2
            simp only [AllLt] at ltp'
            clear ltp2 N13 F13
            (repeat' ((fail_if_success ((first | (with_reducible show wpAny _ _ (truthy (Value.ref _)) _ _ _) | (first | (with_reducible show Turn _ _ _ _ _ _ _ _) | (with_reducible show WhileStep _ _ _ _ _ _ _) | (with_reducible show Back _ _ _ _ _ _ _ _ _) | (with_reducible show wpAny _ _ (call (Value.builtin "re.Pattern.search") _ _) _ _ _) | (with_reducible show wpAny _ _ (call (Value.builtin "re.Match.group") _ _) _ _ _) | (with_reducible show wpAny _ _ (call (Value.builtin "re.Pattern.sub") _ _) _ _ _) | (with_reducible show wpAny _ _ (call (Value.builtin "re.Pattern.subn") _ _) _ _ _) | (with_reducible show wpAny _ _ (call (Value.ref 55) _ _) _ _ _) | (with_reducible show wpAny _ _ (getMethod (Value.ref _) (PySem.Str.ofString "search") _) _ _ _) | (with_reducible show wpAny _ _ (getMethod (Value.ref _) (PySem.Str.ofString "group") _) _ _ _) | (with_reducible show wpAny _ _ (getMethod (Value.ref _) (PySem.Str.ofString "sub") _) _ _ _) | (with_reducible show wpAny _ _ (getMethod (Value.ref _) (PySem.Str.ofString "subn") _) _ _ _) | (with_reducible show wpAny _ _ (exec (Stmt.For _ _ _ _ _) _) _ _ _) | (with_reducible show wpAny _ _ (exec (Stmt.While _ _ _ _) _) _ _ _) | (with_reducible show wpAny _ _ (eval (PySem.Expr.ListComp _ _ _ _) _) _ _ _))))); first | (k_unfold; (try dsimp only)) | walk1 | (dsimp only; walk1)))
            rename Fr _ _ _ _ => F15
            rename News _ _ _ _ => N15
            refine truthy_match (N15 _ (.head _)).1 rfl ?_
            (repeat' ((fail_if_success ((first | (with_reducible show Turn _ _ _ _ _ _ _ _) | (with_reducible show WhileStep _ _ _ _ _ _ _) | (with_reducible show Back _ _ _ _ _ _ _ _ _) | (with_reducible show wpAny _ _ (call (Value.builtin "re.Pattern.search") _ _) _ _ _) | (with_reducible show wpAny _ _ (call (Value.builtin "re.Match.group") _ _) _ _ _) | (with_reducible show wpAny _ _ (call (Value.builtin "re.Pattern.sub") _ _) _ _ _) | (with_reducible show wpAny _ _ (call (Value.builtin "re.Pattern.subn") _ _) _ _ _) | (with_reducible show wpAny _ _ (call (Value.ref 55) _ _) _ _ _) | (with_reducible show wpAny _ _ (getMethod (Value.ref _) (PySem.Str.ofString "search") _) _ _ _) | (with_reducible show wpAny _ _ (getMethod (Value.ref _) (PySem.Str.ofString "group") _) _ _ _) | (with_reducible show wpAny _ _ (getMethod (Value.ref _) (PySem.Str.ofString "sub") _) _ _ _) | (with_reducible show wpAny _ _ (getMethod (Value.ref _) (PySem.Str.ofString "subn") _) _ _ _) | (with_reducible show wpAny _ _ (exec (Stmt.For _ _ _ _ _) _) _ _ _) | (with_reducible show wpAny _ _ (exec (Stmt.While _ _ _ _) _) _ _ _) | (with_reducible show wpAny _ _ (eval (PySem.Expr.ListComp _ _ _ _) _) _ _ _)))); first | (k_unfold; (try dsimp only)) | walk1 | (dsimp only; walk1)))
            refine unm_call B' F15 X' N15 T' rfl rfl ltx6 (by rw [S_length]; simp only [List.length_append, List.length_cons]; (first | lia | omega)) (N15 _ (.head _)).1 (N15 _ (.tail _ (.head _))).1 ?_
            intro t16 h16 tk16 F16 N16
            rw [rest_quo]
            clear F15 N15
            (repeat' ((fail_if_success ((first | (with_reducible show Turn _ _ _ _ _ _ _ _) | (with_reducible show WhileStep _ _ _ _ _ _ _) | (with_reducible show Back _ _ _ _ _ _ _ _ _) | (with_reducible show wpAny _ _ (call (Value.builtin "re.Pattern.search") _ _) _ _ _) | (with_reducible show wpAny _ _ (call (Value.builtin "re.Match.group") _ _) _ _ _) | (with_reducible show wpAny _ _ (call (Value.builtin "re.Pattern.sub") _ _) _ _ _) | (with_reducible show wpAny _ _ (call (Value.builtin "re.Pattern.subn") _ _) _ _ _) | (with_reducible show wpAny _ _ (call (Value.ref 55) _ _) _ _ _) | (with_reducible show wpAny _ _ (getMethod (Value.ref _) (PySem.Str.ofString "search") _) _ _ _) | (with_reducible show wpAny _ _ (getMethod (Value.ref _) (PySem.Str.ofString "group") _) _ _ _) | (with_reducible show wpAny _ _ (getMethod (Value.ref _) (PySem.Str.ofString "sub") _) _ _ _) | (with_reducible show wpAny _ _ (getMethod (Value.ref _) (PySem.Str.ofString "subn") _) _ _ _) | (with_reducible show wpAny _ _ (exec (Stmt.For _ _ _ _ _) _) _ _ _) | (with_reducible show wpAny _ _ (exec (Stmt.While _ _ _ _) _) _ _ _) | (with_reducible show wpAny _ _ (eval (PySem.Expr.ListComp _ _ _ _) _) _ _ _)))); first | (k_unfold; (try dsimp only)) | walk1 | (dsimp only; walk1)))
            rename Fr _ _ _ _ => F17
            rename News _ _ _ _ => N17
            refine match_method (N17 _ (.head _)).1 slot_group type_group ?_
            dsimp only
            (repeat' ((fail_if_success ((first | (with_reducible show Turn _ _ _ _ _ _ _ _) | (with_reducible show WhileStep _ _ _ _ _ _ _) | (with_reducible show Back _ _ _ _ _ _ _ _ _) | (with_reducible show wpAny _ _ (call (Value.builtin "re.Pattern.search") _ _) _ _ _) | (with_reducible show wpAny _ _ (call (Value.builtin "re.Match.group") _ _) _ _ _) | (with_reducible show wpAny _ _ (call (Value.builtin "re.Pattern.sub") _ _) _ _ _) | (with_reducible show wpAny _ _ (call (Value.builtin "re.Pattern.subn") _ _) _ _ _) | (with_reducible show wpAny _ _ (call (Value.ref 55) _ _) _ _ _) | (with_reducible show wpAny _ _ (getMethod (Value.ref _) (PySem.Str.ofString "search") _) _ _ _) | (with_reducible show wpAny _ _ (getMethod (Value.ref _) (PySem.Str.ofString "group") _) _ _ _) | (with_reducible show wpAny _ _ (getMethod (Value.ref _) (PySem.Str.ofString "sub") _) _ _ _) | (with_reducible show wpAny _ _ (getMethod (Value.ref _) (PySem.Str.ofString "subn") _) _ _ _) | (with_reducible show wpAny _ _ (exec (Stmt.For _ _ _ _ _) _) _ _ _) | (with_reducible show wpAny _ _ (exec (Stmt.While _ _ _ _) _) _ _ _) | (with_reducible show wpAny _ _ (eval (PySem.Expr.ListComp _ _ _ _) _) _ _ _)))); first | (k_unfold; (try dsimp only)) | walk1 | (dsimp only; walk1)))
            refine group_1 (N17 _ (.head _)).1 (N17 _ (.tail _ (.head _))).1 ltx6 ?_
            intro tk18 k18
            rw [cut_quo]
            have N18 := news_sub N17 fun p hp => .tail _ (.tail _ hp)
            clear N17 ltp'
            (repeat' ((fail_if_success ((first | (with_reducible show Turn _ _ _ _ _ _ _ _) | (with_reducible show WhileStep _ _ _ _ _ _ _) | (with_reducible show Back _ _ _ _ _ _ _ _ _) | (with_reducible show wpAny _ _ (call (Value.builtin "re.Pattern.search") _ _) _ _ _) | (with_reducible show wpAny _ _ (call (Value.builtin "re.Match.group") _ _) _ _ _) | (with_reducible show wpAny _ _ (call (Value.builtin "re.Pattern.sub") _ _) _ _ _) | (with_reducible show wpAny _ _ (call (Value.builtin "re.Pattern.subn") _ _) _ _ _) | (with_reducible show wpAny _ _ (call (Value.ref 55) _ _) _ _ _) | (with_reducible show wpAny _ _ (getMethod (Value.ref _) (PySem.Str.ofString "search") _) _ _ _) | (with_reducible show wpAny _ _ (getMethod (Value.ref _) (PySem.Str.ofString "group") _) _ _ _) | (with_reducible show wpAny _ _ (getMethod (Value.ref _) (PySem.Str.ofString "sub") _) _ _ _) | (with_reducible show wpAny _ _ (getMethod (Value.ref _) (PySem.Str.ofString "subn") _) _ _ _) | (with_reducible show wpAny _ _ (exec (Stmt.For _ _ _ _ _) _) _ _ _) | (with_reducible show wpAny _ _ (exec (Stmt.While _ _ _ _) _) _ _ _) | (with_reducible show wpAny _ _ (eval (PySem.Expr.ListComp _ _ _ _) _) _ _ _)))); first | (k_unfold; (try dsimp only)) | walk1 | (dsimp only; walk1)))
            rename Fr _ _ _ _ => F19
            rename News _ _ _ _ => N19
            refine pat_method (hP4.keeps F19.keep) slot_sub type_sub ?_
            dsimp only
            rcases hTab with rfl | ⟨c', oc, vs', t', rfl, hc1, hc2, hc3⟩
            · (repeat' ((fail_if_success ((first | (with_reducible show Turn _ _ _ _ _ _ _ _) | (with_reducible show WhileStep _ _ _ _ _ _ _) | (with_reducible show Back _ _ _ _ _ _ _ _ _) | (with_reducible show wpAny _ _ (call (Value.builtin "re.Pattern.search") _ _) _ _ _) | (with_reducible show wpAny _ _ (call (Value.builtin "re.Match.group") _ _) _ _ _) | (with_reducible show wpAny _ _ (call (Value.builtin "re.Pattern.sub") _ _) _ _ _) | (with_reducible show wpAny _ _ (call (Value.builtin "re.Pattern.subn") _ _) _ _ _) | (with_reducible show wpAny _ _ (call (Value.ref 55) _ _) _ _ _) | (with_reducible show wpAny _ _ (getMethod (Value.ref _) (PySem.Str.ofString "search") _) _ _ _) | (with_reducible show wpAny _ _ (getMethod (Value.ref _) (PySem.Str.ofString "group") _) _ _ _) | (with_reducible show wpAny _ _ (getMethod (Value.ref _) (PySem.Str.ofString "sub") _) _ _ _) | (with_reducible show wpAny _ _ (getMethod (Value.ref _) (PySem.Str.ofString "subn") _) _ _ _) | (with_reducible show wpAny _ _ (exec (Stmt.For _ _ _ _ _) _) _ _ _) | (with_reducible show wpAny _ _ (exec (Stmt.While _ _ _ _) _) _ _ _) | (with_reducible show wpAny _ _ (eval (PySem.Expr.ListComp _ _ _ _) _) _ _ _)))); first | (k_unfold; (try dsimp only)) | walk1 | (dsimp only; walk1)))
              simp only [List.cons_append, List.nil_append]
              obtain ⟨qs, hS, hqs⟩ := esc_subs e.length [] e v false (Nat.le_refl _) he (by simp only [List.nil_append]; (first | lia | omega))
              have hel : (S e).length ≤ 10000 := by rw [S_length]; (first | lia | omega)
              rename Fr _ _ _ _ => F20
              rename News _ _ _ _ => N20
              refine sub_call (f := fun b e' => PySem.Str.ofString "" ++ (⟨(S e).cps.extract b e'⟩ : PySem.Str)) hel F20 N20 hP4 (N20 _ (.head _)).1 rfl ?_ hS ?_
              · intro s' Q' E' a tup nw st hd' b e' F' N' hsub ma mt hbe he' hq
                exact lam_call B' F' X' N' T' rfl rfl rfl (by k_room) rfl (Nat.le_trans hel (by decide)) (by decide) (N' _ (hsub _ (.head _))).1 ⟨_, _, _, _, rfl, (N' _ (hsub _ (.tail _ (.head _)))).1, by assumption, by assumption⟩ (N' _ ma).1 (N' _ mt).1 hbe he' hq
              intro t21 h21 k21 F21 N21
              rw [hqs]
              clear F20 N20
              (repeat' ((fail_if_success ((first | (with_reducible show Turn _ _ _ _ _ _ _ _) | (with_reducible show WhileStep _ _ _ _ _ _ _) | (with_reducible show Back _ _ _ _ _ _ _ _ _) | (with_reducible show wpAny _ _ (call (Value.builtin "re.Pattern.search") _ _) _ _ _) | (with_reducible show wpAny _ _ (call (Value.builtin "re.Match.group") _ _) _ _ _) | (with_reducible show wpAny _ _ (call (Value.builtin "re.Pattern.sub") _ _) _ _ _) | (with_reducible show wpAny _ _ (call (Value.builtin "re.Pattern.subn") _ _) _ _ _) | (with_reducible show wpAny _ _ (call (Value.ref 55) _ _) _ _ _) | (with_reducible show wpAny _ _ (getMethod (Value.ref _) (PySem.Str.ofString "search") _) _ _ _) | (with_reducible show wpAny _ _ (getMethod (Value.ref _) (PySem.Str.ofString "group") _) _ _ _) | (with_reducible show wpAny _ _ (getMethod (Value.ref _) (PySem.Str.ofString "sub") _) _ _ _) | (with_reducible show wpAny _ _ (getMethod (Value.ref _) (PySem.Str.ofString "subn") _) _ _ _) | (with_reducible show wpAny _ _ (exec (Stmt.For _ _ _ _ _) _) _ _ _) | (with_reducible show wpAny _ _ (exec (Stmt.While _ _ _ _) _) _ _ _) | (with_reducible show wpAny _ _ (eval (PySem.Expr.ListComp _ _ _ _) _) _ _ _)))); first | (k_unfold; (try dsimp only)) | walk1 | (dsimp only; walk1)))
              rename Fr _ _ _ _ => F90
              rename News _ _ _ _ => N90
              rename _ ∧ _ ∧ _ ∧ _ ∧ AllLt _ fz => hcL
              rename _ ∧ _ ∧ _ ∧ _ ∧ _ ∧ _ ∧ AllLt _ fz => hD
              refine shw_param (cd := [(_, _)]) (text := more) (key := key) (val := some v) (tab := #[rawInt 62, rawInt 49, .ref _]) ?_ hE2 ?_ hrv hpv ?_ ?_ (.inr ⟨_, _, _, _, rfl, .head _, by assumption, by assumption⟩) fzr fzp fzt fzi ?hcd hrp hrt hpt hri hpi hti ?_ ?_ ?_ ?_ F90 N90 (.tail _ (.tail _ (.tail _ (.head _)))) (.tail _ (.tail _ (.tail _ (.tail _ (.head _))))) (.tail _ (.tail _ (.tail _ (.tail _ (.tail _ (.head _)))))) (.tail _ (.tail _ (.tail _ (.tail _ (.tail _ (.tail _ (.head _))))))) (.head _) ?m6 (fun _ h => .tail _ (.tail _ (.tail _ (.tail _ (.tail _ (.tail _ (.tail _ h))))))) rfl rfl rfl
              case m6 => exact fun p hp => by rw [List.mem_singleton.mp hp]; exact .tail _ (.tail _ (.head _))
              case hcd => exact fun p hp => by rw [List.mem_singleton.mp hp]; refine ⟨?_, ?_, ?_, ?_⟩ <;> exact Nat.ne_of_gt (by (first | lia | omega))
              · rw [← hEnd]; rfl
              · have := List.length_pos_iff.mpr hk0; simp only [List.length_append, List.length_cons]; (first | lia | omega)
              · simp only [List.length_append, List.length_cons]; (first | lia | omega)
              · simp only [List.length_append, List.length_cons]; (first | lia | omega)
              · (first | lia | omega)
              · (first | lia | omega)
              · (first | lia | omega)
              · (first | lia | omega)
            · (repeat' ((fail_if_success ((first | (with_reducible show Turn _ _ _ _ _ _ _ _) | (with_reducible show WhileStep _ _ _ _ _ _ _) | (with_reducible show Back _ _ _ _ _ _ _ _ _) | (with_reducible show wpAny _ _ (call (Value.builtin "re.Pattern.search") _ _) _ _ _) | (with_reducible show wpAny _ _ (call (Value.builtin "re.Match.group") _ _) _ _ _) | (with_reducible show wpAny _ _ (call (Value.builtin "re.Pattern.sub") _ _) _ _ _) | (with_reducible show wpAny _ _ (call (Value.builtin "re.Pattern.subn") _ _) _ _ _) | (with_reducible show wpAny _ _ (call (Value.ref 55) _ _) _ _ _) | (with_reducible show wpAny _ _ (getMethod (Value.ref _) (PySem.Str.ofString "search") _) _ _ _) | (with_reducible show wpAny _ _ (getMethod (Value.ref _) (PySem.Str.ofString "group") _) _ _ _) | (with_reducible show wpAny _ _ (getMethod (Value.ref _) (PySem.Str.ofString "sub") _) _ _ _) | (with_reducible show wpAny _ _ (getMethod (Value.ref _) (PySem.Str.ofString "subn") _) _ _ _) | (with_reducible show wpAny _ _ (exec (Stmt.For _ _ _ _ _) _) _ _ _) | (with_reducible show wpAny _ _ (exec (Stmt.While _ _ _ _) _) _ _ _) | (with_reducible show wpAny _ _ (eval (PySem.Expr.ListComp _ _ _ _) _) _ _ _)))); first | (k_unfold; (try dsimp only)) | walk1 | (dsimp only; walk1)))
              simp only [List.cons_append, List.nil_append]
              obtain ⟨qs, hS, hqs⟩ := esc_subs e.length [] e v false (Nat.le_refl _) he (by simp only [List.nil_append]; (first | lia | omega))
              have hel : (S e).length ≤ 10000 := by rw [S_length]; (first | lia | omega)
              rename Fr _ _ _ _ => F20
              rename News _ _ _ _ => N20
              refine sub_call (f := fun b e' => PySem.Str.ofString "" ++ (⟨(S e).cps.extract b e'⟩ : PySem.Str)) hel F20 N20 hP4 (N20 _ (.head _)).1 rfl ?_ hS ?_
              · intro s' Q' E' a tup nw st hd' b e' F' N' hsub ma mt hbe he' hq
                exact lam_call B' F' X' N' T' rfl rfl rfl (by k_room) rfl (Nat.le_trans hel (by decide)) (by decide) (N' _ (hsub _ (.head _))).1 ⟨_, _, _, _, rfl, (N' _ (hsub _ (.tail _ (.tail _ (.tail _ (.tail _ (.tail _ hc1))))))).1, hc2, hc3⟩ (N' _ ma).1 (N' _ mt).1 hbe he' hq
              intro t21 h21 k21 F21 N21
              rw [hqs]
              clear F20 N20
              (repeat' ((fail_if_success ((first | (with_reducible show Turn _ _ _ _ _ _ _ _) | (with_reducible show WhileStep _ _ _ _ _ _ _) | (with_reducible show Back _ _ _ _ _ _ _ _ _) | (with_reducible show wpAny _ _ (call (Value.builtin "re.Pattern.search") _ _) _ _ _) | (with_reducible show wpAny _ _ (call (Value.builtin "re.Match.group") _ _) _ _ _) | (with_reducible show wpAny _ _ (call (Value.builtin "re.Pattern.sub") _ _) _ _ _) | (with_reducible show wpAny _ _ (call (Value.builtin "re.Pattern.subn") _ _) _ _ _) | (with_reducible show wpAny _ _ (call (Value.ref 55) _ _) _ _ _) | (with_reducible show wpAny _ _ (getMethod (Value.ref _) (PySem.Str.ofString "search") _) _ _ _) | (with_reducible show wpAny _ _ (getMethod (Value.ref _) (PySem.Str.ofString "group") _) _ _ _) | (with_reducible show wpAny _ _ (getMethod (Value.ref _) (PySem.Str.ofString "sub") _) _ _ _) | (with_reducible show wpAny _ _ (getMethod (Value.ref _) (PySem.Str.ofString "subn") _) _ _ _) | (with_reducible show wpAny _ _ (exec (Stmt.For _ _ _ _ _) _) _ _ _) | (with_reducible show wpAny _ _ (exec (Stmt.While _ _ _ _) _) _ _ _) | (with_reducible show wpAny _ _ (eval (PySem.Expr.ListComp _ _ _ _) _) _ _ _)))); first | (k_unfold; (try dsimp only)) | walk1 | (dsimp only; walk1)))
              rename Fr _ _ _ _ => F90
              rename News _ _ _ _ => N90
              rename _ ∧ _ ∧ _ ∧ _ ∧ _ ∧ AllLt _ fz => hD
              refine shw_param (cd := []) (text := more) (key := key) (val := some v) ?_ hE2 ?_ hrv hpv ?_ ?_ (.inr ⟨c', oc, vs', t', rfl, hc1, hc2, hc3⟩) fzr fzp fzt fzi (fun _ h => nomatch h) hrp hrt hpt hri hpi hti ?_ ?_ ?_ ?_ F90 N90 (.tail _ (.tail _ (.head _))) (.tail _ (.tail _ (.tail _ (.head _)))) (.tail _ (.tail _ (.tail _ (.tail _ (.head _))))) (.tail _ (.tail _ (.tail _ (.tail _ (.tail _ (.head _)))))) (.head _) (fun _ h => nomatch h) (fun _ h => .tail _ (.tail _ (.tail _ (.tail _ (.tail _ (.tail _ h)))))) rfl rfl rfl
              · rw [← hEnd]; rfl
              · have := List.length_pos_iff.mpr hk0; simp only [List.length_append, List.length_cons]; (first | lia | omega)
              · simp only [List.length_append, List.length_cons]; (first | lia | omega)
              · simp only [List.length_append, List.length_cons]; (first | lia | omega)
              · (first | lia | omega)
              · (first | lia | omega)
              · (first | lia | omega)
              · (first | lia | omega)
          | @bare ws2 v more evs' hws2 hb hE2 =>
            simp only [List.length_append, List.length_cons] at hszr hszp
            refine search_none (hP2.keeps F13.keep) ltx6 (E_quo_no2 (by rw [S_length] at ltx; exact ltx) hws2 hb) (by decide) ?_
            (repeat' ((fail_if_success ((first | (with_reducible show Turn _ _ _ _ _ _ _ _) | (with_reducible show WhileStep _ _ _ _ _ _ _) | (with_reducible show Back _ _ _ _ _ _ _ _ _) | (with_reducible show wpAny _ _ (call (Value.builtin "re.Pattern.search") _ _) _ _ _) | (with_reducible show wpAny _ _ (call (Value.builtin "re.Match.group") _ _) _ _ _) | (with_reducible show wpAny _ _ (call (Value.builtin "re.Pattern.sub") _ _) _ _ _) | (with_reducible show wpAny _ _ (call (Value.builtin "re.Pattern.subn") _ _) _ _ _) | (with_reducible show wpAny _ _ (call (Value.ref 55) _ _) _ _ _) | (with_reducible show wpAny _ _ (getMethod (Value.ref _) (PySem.Str.ofString "search") _) _ _ _) | (with_reducible show wpAny _ _ (getMethod (Value.ref _) (PySem.Str.ofString "group") _) _ _ _) | (with_reducible show wpAny _ _ (getMethod (Value.ref _) (PySem.Str.ofString "sub") _) _ _ _) | (with_reducible show wpAny _ _ (getMethod (Value.ref _) (PySem.Str.ofString "subn") _) _ _ _) | (with_reducible show wpAny _ _ (exec (Stmt.For _ _ _ _ _) _) _ _ _) | (with_reducible show wpAny _ _ (exec (Stmt.While _ _ _ _) _) _ _ _) | (with_reducible show wpAny _ _ (eval (PySem.Expr.ListComp _ _ _ _) _) _ _ _)))); first | (k_unfold; (try dsimp only)) | walk1 | (dsimp only; walk1)))
            rename Fr _ _ _ _ => F14
            rename News _ _ _ _ => N14
            refine pat_method (hP3.keeps F14.keep) slot_search type_search ?_
            dsimp only
            (repeat' ((fail_if_success ((first | (with_reducible show Turn _ _ _ _ _ _ _ _) | (with_reducible show WhileStep _ _ _ _ _ _ _) | (with_reducible show Back _ _ _ _ _ _ _ _ _) | (with_reducible show wpAny _ _ (call (Value.builtin "re.Pattern.search") _ _) _ _ _) | (with_reducible show wpAny _ _ (call (Value.builtin "re.Match.group") _ _) _ _ _) | (with_reducible show wpAny _ _ (call (Value.builtin "re.Pattern.sub") _ _) _ _ _) | (with_reducible show wpAny _ _ (call (Value.builtin "re.Pattern.subn") _ _) _ _ _) | (with_reducible show wpAny _ _ (call (Value.ref 55) _ _) _ _ _) | (with_reducible show wpAny _ _ (getMethod (Value.ref _) (PySem.Str.ofString "search") _) _ _ _) | (with_reducible show wpAny _ _ (getMethod (Value.ref _) (PySem.Str.ofString "group") _) _ _ _) | (with_reducible show wpAny _ _ (getMethod (Value.ref _) (PySem.Str.ofString "sub") _) _ _ _) | (with_reducible show wpAny _ _ (getMethod (Value.ref _) (PySem.Str.ofString "subn") _) _ _ _) | (with_reducible show wpAny _ _ (exec (Stmt.For _ _ _ _ _) _) _ _ _) | (with_reducible show wpAny _ _ (exec (Stmt.While _ _ _ _) _) _ _ _) | (with_reducible show wpAny _ _ (eval (PySem.Expr.ListComp _ _ _ _) _) _ _ _)))); first | (k_unfold; (try dsimp only)) | walk1 | (dsimp only; walk1)))
            refine search_found F14 N14 (hP3.keeps F14.keep) ltx6 (E_val_ok (by rw [S_length] at ltx; exact ltx) hws2 hb) (by decide) (by (first | lia | omega)) ?_
            intro a2 tp2 h15 F15 N15 ltp2 lta2
            have ltp' := allLt_of ltp2
            simp only [AllLt] at ltp'
            clear ltp2 N14 F14
            (repeat' ((fail_if_success ((first | (with_reducible show wpAny _ _ (truthy (Value.ref _)) _ _ _) | (first | (with_reducible show Turn _ _ _ _ _ _ _ _) | (with_reducible show WhileStep _ _ _ _ _ _ _) | (with_reducible show Back _ _ _ _ _ _ _ _ _) | (with_reducible show wpAny _ _ (call (Value.builtin "re.Pattern.search") _ _) _ _ _) | (with_reducible show wpAny _ _ (call (Value.builtin "re.Match.group") _ _) _ _ _) | (with_reducible show wpAny _ _ (call (Value.builtin "re.Pattern.sub") _ _) _ _ _) | (with_reducible show wpAny _ _ (call (Value.builtin "re.Pattern.subn") _ _) _ _ _) | (with_reducible show wpAny _ _ (call (Value.ref 55) _ _) _ _ _) | (with_reducible show wpAny _ _ (getMethod (Value.ref _) (PySem.Str.ofString "search") _) _ _ _) | (with_reducible show wpAny _ _ (getMethod (Value.ref _) (PySem.Str.ofString "group") _) _ _ _) | (with_reducible show wpAny _ _ (getMethod (Value.ref _) (PySem.Str.ofString "sub") _) _ _ _) | (with_reducible show wpAny _ _ (getMethod (Value.ref _) (PySem.Str.ofString "subn") _) _ _ _) | (with_reducible show wpAny _ _ (exec (Stmt.For _ _ _ _ _) _) _ _ _) | (with_reducible show wpAny _ _ (exec (Stmt.While _ _ _ _) _) _ _ _) | (with_reducible show wpAny _ _ (eval (PySem.Expr.ListComp _ _ _ _) _) _ _ _))))); first | (k_unfold; (try dsimp only)) | walk1 | (dsimp only; walk1)))
            rename Fr _ _ _ _ => F16
            rename News _ _ _ _ => N16
            refine truthy_match (N16 _ (.head _)).1 rfl ?_
            (repeat' ((fail_if_success ((first | (with_reducible show Turn _ _ _ _ _ _ _ _) | (with_reducible show WhileStep _ _ _ _ _ _ _) | (with_reducible show Back _ _ _ _ _ _ _ _ _) | (with_reducible show wpAny _ _ (call (Value.builtin "re.Pattern.search") _ _) _ _ _) | (with_reducible show wpAny _ _ (call (Value.builtin "re.Match.group") _ _) _ _ _) | (with_reducible show wpAny _ _ (call (Value.builtin "re.Pattern.sub") _ _) _ _ _) | (with_reducible show wpAny _ _ (call (Value.builtin "re.Pattern.subn") _ _) _ _ _) | (with_reducible show wpAny _ _ (call (Value.ref 55) _ _) _ _ _) | (with_reducible show wpAny _ _ (getMethod (Value.ref _) (PySem.Str.ofString "search") _) _ _ _) | (with_reducible show wpAny _ _ (getMethod (Value.ref _) (PySem.Str.ofString "group") _) _ _ _) | (with_reducible show wpAny _ _ (getMethod (Value.ref _) (PySem.Str.ofString "sub") _) _ _ _) | (with_reducible show wpAny _ _ (getMethod (Value.ref _) (PySem.Str.ofString "subn") _) _ _ _) | (with_reducible show wpAny _ _ (exec (Stmt.For _ _ _ _ _) _) _ _ _) | (with_reducible show wpAny _ _ (exec (Stmt.While _ _ _ _) _) _ _ _) | (with_reducible show wpAny _ _ (eval (PySem.Expr.ListComp _ _ _ _) _) _ _ _)))); first | (k_unfold; (try dsimp only)) | walk1 | (dsimp only; walk1)))
            refine unm_call B' F16 X' N16 T' rfl rfl ltx6 (by rw [S_length]; simp only [List.length_append, List.length_cons]; (first | lia | omega)) (N16 _ (.head _)).1 (N16 _ (.tail _ (.head _))).1 ?_
            intro t17 h17 tk17 F17 N17
            rw [rest_bare]
            clear F16 N16
            (repeat' ((fail_if_success ((first | (with_reducible show Turn _ _ _ _ _ _ _ _) | (with_reducible show WhileStep _ _ _ _ _ _ _) | (with_reducible show Back _ _ _ _ _ _ _ _ _) | (with_reducible show wpAny _ _ (call (Value.builtin "re.Pattern.search") _ _) _ _ _) | (with_reducible show wpAny _ _ (call (Value.builtin "re.Match.group") _ _) _ _ _) | (with_reducible show wpAny _ _ (call (Value.builtin "re.Pattern.sub") _ _) _ _ _) | (with_reducible show wpAny _ _ (call (Value.builtin "re.Pattern.subn") _ _) _ _ _) | (with_reducible show wpAny _ _ (call (Value.ref 55) _ _) _ _ _) | (with_reducible show wpAny _ _ (getMethod (Value.ref _) (PySem.Str.ofString "search") _) _ _ _) | (with_reducible show wpAny _ _ (getMethod (Value.ref _) (PySem.Str.ofString "group") _) _ _ _) | (with_reducible show wpAny _ _ (getMethod (Value.ref _) (PySem.Str.ofString "sub") _) _ _ _) | (with_reducible show wpAny _ _ (getMethod (Value.ref _) (PySem.Str.ofString "subn") _) _ _ _) | (with_reducible show wpAny _ _ (exec (Stmt.For _ _ _ _ _) _) _ _ _) | (with_reducible show wpAny _ _ (exec (Stmt.While _ _ _ _) _) _ _ _) | (with_reducible show wpAny _ _ (eval (PySem.Expr.ListComp _ _ _ _) _) _ _ _)))); first | (k_unfold; (try dsimp only)) | walk1 | (dsimp only; walk1)))
            rename Fr _ _ _ _ => F18
            rename News _ _ _ _ => N18
            refine match_method (N18 _ (.head _)).1 slot_group type_group ?_
            dsimp only
            (repeat' ((fail_if_success ((first | (with_reducible show Turn _ _ _ _ _ _ _ _) | (with_reducible show WhileStep _ _ _ _ _ _ _) | (with_reducible show Back _ _ _ _ _ _ _ _ _) | (with_reducible show wpAny _ _ (call (Value.builtin "re.Pattern.search") _ _) _ _ _) | (with_reducible show wpAny _ _ (call (Value.builtin "re.Match.group") _ _) _ _ _) | (with_reducible show wpAny _ _ (call (Value.builtin "re.Pattern.sub") _ _) _ _ _) | (with_reducible show wpAny _ _ (call (Value.builtin "re.Pattern.subn") _ _) _ _ _) | (with_reducible show wpAny _ _ (call (Value.ref 55) _ _) _ _ _) | (with_reducible show wpAny _ _ (getMethod (Value.ref _) (PySem.Str.ofString "search") _) _ _ _) | (with_reducible show wpAny _ _ (getMethod (Value.ref _) (PySem.Str.ofString "group") _) _ _ _) | (with_reducible show wpAny _ _ (getMethod (Value.ref _) (PySem.Str.ofString "sub") _) _ _ _) | (with_reducible show wpAny _ _ (getMethod (Value.ref _) (PySem.Str.ofString "subn") _) _ _ _) | (with_reducible show wpAny _ _ (exec (Stmt.For _ _ _ _ _) _) _ _ _) | (with_reducible show wpAny _ _ (exec (Stmt.While _ _ _ _) _) _ _ _) | (with_reducible show wpAny _ _ (eval (PySem.Expr.ListComp _ _ _ _) _) _ _ _)))); first | (k_unfold; (try dsimp only)) | walk1 | (dsimp only; walk1)))
            refine group_1 (N18 _ (.head _)).1 (N18 _ (.tail _ (.head _))).1 ltx6 ?_
            intro tk19 k19
            rw [cut_bare]
            have N19 := news_sub N18 fun p hp => .tail _ (.tail _ hp)
            have hvl : (S v).length ≤ 10000 := by rw [S_length]; (first | lia | omega)
            clear N18 ltp'
            have hrs : Txt.rstrip (S v) = S v := rstrip_free fun c hc => bare_sp (hb.bare c hc)
            (repeat' ((fail_if_success ((first | (with_reducible show Turn _ _ _ _ _ _ _ _) | (with_reducible show WhileStep _ _ _ _ _ _ _) | (with_reducible show Back _ _ _ _ _ _ _ _ _) | (with_reducible show wpAny _ _ (call (Value.builtin "re.Pattern.search") _ _) _ _ _) | (with_reducible show wpAny _ _ (call (Value.builtin "re.Match.group") _ _) _ _ _) | (with_reducible show wpAny _ _ (call (Value.builtin "re.Pattern.sub") _ _) _ _ _) | (with_reducible show wpAny _ _ (call (Value.builtin "re.Pattern.subn") _ _) _ _ _) | (with_reducible show wpAny _ _ (call (Value.ref 55) _ _) _ _ _) | (with_reducible show wpAny _ _ (getMethod (Value.ref _) (PySem.Str.ofString "search") _) _ _ _) | (with_reducible show wpAny _ _ (getMethod (Value.ref _) (PySem.Str.ofString "group") _) _ _ _) | (with_reducible show wpAny _ _ (getMethod (Value.ref _) (PySem.Str.ofString "sub") _) _ _ _) | (with_reducible show wpAny _ _ (getMethod (Value.ref _) (PySem.Str.ofString "subn") _) _ _ _) | (with_reducible show wpAny _ _ (exec (Stmt.For _ _ _ _ _) _) _ _ _) | (with_reducible show wpAny _ _ (exec (Stmt.While _ _ _ _) _) _ _ _) | (with_reducible show wpAny _ _ (eval (PySem.Expr.ListComp _ _ _ _) _) _ _ _)))); first | (k_unfold; (try dsimp only)) | walk1 | (dsimp only; walk1)))
            simp only [hrs] at *
            rename Fr _ _ _ _ => F90
            rename News _ _ _ _ => N90
            rename _ ∧ _ ∧ _ ∧ _ ∧ AllLt _ fz => hD
            refine shw_param (cd := []) (text := more) (key := key) (val := some v) ?_ hE2 ?_ hrv hpv ?_ ?_ (by rw [List.nil_append]; exact hTab) fzr fzp fzt fzi (fun _ h => nomatch h) hrp hrt hpt hri hpi hti ?_ ?_ ?_ ?_ F90 N90 (.tail _ (.head _)) (.tail _ (.tail _ (.head _))) (.tail _ (.tail _ (.tail _ (.head _)))) (.tail _ (.tail _ (.tail _ (.tail _ (.head _))))) (.head _) (fun _ h => nomatch h) (fun _ h => .tail _ (.tail _ (.tail _ (.tail _ (.tail _ h))))) rfl rfl rfl
            · rw [← hEnd]; rfl
            · have := List.length_pos_iff.mpr hk0; simp only [List.length_append, List.length_cons]; (first | lia | omega)
            · simp only [List.length_append, List.length_cons]; (first | lia | omega)
            · simp only [List.length_append, List.length_cons]; (first | lia | omega)
            · (first | lia | omega)
            · (first | lia | omega)
            · (first | lia | omega)
            · (first | lia | omega)
        | @junk c hc =>
          refine search_none (hP1.keeps F7.keep) hx6 (E_tok_no (ws := [c]) (r := []) (by simp) (fun d hd => by rw [List.mem_singleton.mp hd]; rcases hc with rfl | rfl <;> decide +kernel) (.inl rfl)) (by decide) ?_
          have hst : Txt.startswith (Txt.lstrip (S [c])) (PySem.Str.ofString ",") = false := by rw [lstrip_junk hc]; exact starts_none
          (repeat' ((fail_if_success ((first | (with_reducible show Turn _ _ _ _ _ _ _ _) | (with_reducible show WhileStep _ _ _ _ _ _ _) | (with_reducible show Back _ _ _ _ _ _ _ _ _) | (with_reducible show wpAny _ _ (call (Value.builtin "re.Pattern.search") _ _) _ _ _) | (with_reducible show wpAny _ _ (call (Value.builtin "re.Match.group") _ _) _ _ _) | (with_reducible show wpAny _ _ (call (Value.builtin "re.Pattern.sub") _ _) _ _ _) | (with_reducible show wpAny _ _ (call (Value.builtin "re.Pattern.subn") _ _) _ _ _) | (with_reducible show wpAny _ _ (call (Value.ref 55) _ _) _ _ _) | (with_reducible show wpAny _ _ (getMethod (Value.ref _) (PySem.Str.ofString "search") _) _ _ _) | (with_reducible show wpAny _ _ (getMethod (Value.ref _) (PySem.Str.ofString "group") _) _ _ _) | (with_reducible show wpAny _ _ (getMethod (Value.ref _) (PySem.Str.ofString "sub") _) _ _ _) | (with_reducible show wpAny _ _ (getMethod (Value.ref _) (PySem.Str.ofString "subn") _) _ _ _) | (with_reducible show wpAny _ _ (exec (Stmt.For _ _ _ _ _) _) _ _ _) | (with_reducible show wpAny _ _ (exec (Stmt.While _ _ _ _) _) _ _ _) | (with_reducible show wpAny _ _ (eval (PySem.Expr.ListComp _ _ _ _) _) _ _ _)))); first | (k_unfold; (try dsimp only)) | walk1 | (dsimp only; walk1)))
          rename Fr _ _ _ _ => F8
          rename News _ _ _ _ => N8
          refine pat_method (hP5.keeps F8.keep) slot_subn type_subn ?_
          dsimp only
          (repeat' ((fail_if_success ((first | (with_reducible show Turn _ _ _ _ _ _ _ _) | (with_reducible show WhileStep _ _ _ _ _ _ _) | (with_reducible show Back _ _ _ _ _ _ _ _ _) | (with_reducible show wpAny _ _ (call (Value.builtin "re.Pattern.search") _ _) _ _ _) | (with_reducible show wpAny _ _ (call (Value.builtin "re.Match.group") _ _) _ _ _) | (with_reducible show wpAny _ _ (call (Value.builtin "re.Pattern.sub") _ _) _ _ _) | (with_reducible show wpAny _ _ (call (Value.builtin "re.Pattern.subn") _ _) _ _ _) | (with_reducible show wpAny _ _ (call (Value.ref 55) _ _) _ _ _) | (with_reducible show wpAny _ _ (getMethod (Value.ref _) (PySem.Str.ofString "search") _) _ _ _) | (with_reducible show wpAny _ _ (getMethod (Value.ref _) (PySem.Str.ofString "group") _) _ _ _) | (with_reducible show wpAny _ _ (getMethod (Value.ref _) (PySem.Str.ofString "sub") _) _ _ _) | (with_reducible show wpAny _ _ (getMethod (Value.ref _) (PySem.Str.ofString "subn") _) _ _ _) | (with_reducible show wpAny _ _ (exec (Stmt.For _ _ _ _ _) _) _ _ _) | (with_reducible show wpAny _ _ (exec (Stmt.While _ _ _ _) _) _ _ _) | (with_reducible show wpAny _ _ (eval (PySem.Expr.ListComp _ _ _ _) _) _ _ _)))); first | (k_unfold; (try dsimp only)) | walk1 | (dsimp only; walk1)))
          simp only [ofStr_nil]
          refine subn_call hc F8 N8 hP5 ?_
          intro l9 t9 u9 h9 k9 F9 N9 lt9
          (repeat' ((fail_if_success ((first | (with_reducible show Turn _ _ _ _ _ _ _ _) | (with_reducible show WhileStep _ _ _ _ _ _ _) | (with_reducible show Back _ _ _ _ _ _ _ _ _) | (with_reducible show wpAny _ _ (call (Value.builtin "re.Pattern.search") _ _) _ _ _) | (with_reducible show wpAny _ _ (call (Value.builtin "re.Match.group") _ _) _ _ _) | (with_reducible show wpAny _ _ (call (Value.builtin "re.Pattern.sub") _ _) _ _ _) | (with_reducible show wpAny _ _ (call (Value.builtin "re.Pattern.subn") _ _) _ _ _) | (with_reducible show wpAny _ _ (call (Value.ref 55) _ _) _ _ _) | (with_reducible show wpAny _ _ (getMethod (Value.ref _) (PySem.Str.ofString "search") _) _ _ _) | (with_reducible show wpAny _ _ (getMethod (Value.ref _) (PySem.Str.ofString "group") _) _ _ _) | (with_reducible show wpAny _ _ (getMethod (Value.ref _) (PySem.Str.ofString "sub") _) _ _ _) | (with_reducible show wpAny _ _ (getMethod (Value.ref _) (PySem.Str.ofString "subn") _) _ _ _) | (with_reducible show wpAny _ _ (exec (Stmt.For _ _ _ _ _) _) _ _ _) | (with_reducible show wpAny _ _ (exec (Stmt.While _ _ _ _) _) _ _ _) | (with_reducible show wpAny _ _ (eval (PySem.Expr.ListComp _ _ _ _) _) _ _ _)))); first | (k_unfold; (try dsimp only)) | walk1 | (dsimp only; walk1)))
          rename Fr _ _ _ _ => F10
          rename News _ _ _ _ => N10
          refine WhileStep.intro (n' := 0) F10 (news_sub (news' := (l1, listOf rv.toArray nr) :: (Lp, listOf pv.toArray np) :: (77, tabObj tab) :: (I, oI) :: fz) N10 fun p hp => .tail _ hp) (by simp) ⟨Lp, rv, pv, nr, np, tab, fz, [], _, [], rs, ps, rfl, rfl, .nil, hEnd, hrv, hpv, by simp only [List.length_nil]; (first | lia | omega), by simp only [List.length_nil]; (first | lia | omega), hTab, fzr, fzp, fzt, fzi, hrp, hrt, hpt, hri, hpi, hti, rfl, rfl, rfl⟩
      · rename ((S text).length : Int) = 0 => htx
        rename pv ≠ [] => hne
        rename Fr _ _ _ _ => F8
        rename News _ _ _ _ => N8
        have ht0 : text = [] := by rw [S_length] at htx; exact List.length_eq_zero_iff.mp (by (first | lia | omega))
        subst ht0
        have hev : evs₂ = [] := hEats.nil_evs rfl
        subst hev
        refine Turn.next F8 (news' := (l1, listOf (rv ++ [Value.ref Lp]).toArray (nr + 1)) :: (77, tabObj tab) :: (Lp, listOf pv.toArray np) :: fz) (news_sub N8 ?_) ?_ ⟨_, _, _, _, rfl, rfl, (fun h => nomatch h), fun _ => ?_, hTab.more fun _ h => .tail _ h⟩
        · intro p hp
          simp only [List.mem_append, List.mem_cons, List.not_mem_nil, or_false] at hp ⊢
          rcases hp with (rfl | rfl | rfl | hp) | rfl <;> simp [*]
        · exact List.forall_mem_cons.mpr ⟨hri, List.forall_mem_cons.mpr ⟨hti, List.forall_mem_cons.mpr ⟨hpi, fzi⟩⟩⟩
        · have : rs ++ [ps] = eatR evs := by
            rw [← hEnd]; show _ = eatEnd (rs, ps); unfold eatEnd; exact (if_neg (hpv.ne hne)).symm
          rw [← this]
          exact (hrv.mono fun _ _ x => x.more fun _ h => .tail _ h).snoc ⟨Lp, pv, np, rfl, .head _, hpv.mono fun _ _ x => x.more fun _ h => .tail _ h⟩
      · rename ((S text).length : Int) = 0 => htx
        rename pv = [] => hne
        have ht0 : text = [] := by rw [S_length] at htx; exact List.length_eq_zero_iff.mp (by (first | lia | omega))
        subst ht0
        have hev : evs₂ = [] := hEats.nil_evs rfl
        subst hev
        refine Turn.next F7 (news' := (l1, listOf rv.toArray nr) :: (77, tabObj tab) :: fz) (news_sub N6 ?_) ?_ ⟨_, _, _, _, rfl, rfl, (fun h => nomatch h), fun _ => ?_, hTab⟩
        · intro p hp
          simp only [List.cons_append, List.mem_append, List.mem_cons, List.not_mem_nil, or_false] at hp ⊢
          rcases hp with rfl | rfl | hp | rfl <;> simp [*]
        · exact List.forall_mem_cons.mpr ⟨hri, List.forall_mem_cons.mpr ⟨hti, fzi⟩⟩
        · have : rs = eatR evs := by
            rw [← hEnd]; show _ = eatEnd (rs, ps); unfold eatEnd; exact (if_pos (hpv.nil_of hne)).symm
          rw [← this]
          exact hrv
  case done =>
    rintro m₁ news₁ h tk ⟨rv, nr, tab, fz, rfl, mr, -, h1, htab⟩ F2 N2
    have F3 := fr_see [(PySem.Str.ofString "result", .ref l1)] F2 (by
      intro p hp
      rw [List.mem_singleton.mp hp]
      exact mr)
    clear F2 mr F1 N1
    dsimp only
    (repeat' ((fail_if_success ((first | (with_reducible show Turn _ _ _ _ _ _ _ _) | (with_reducible show WhileStep _ _ _ _ _ _ _) | (with_reducible show Back _ _ _ _ _ _ _ _ _) | (with_reducible show wpAny _ _ (call (Value.builtin "re.Pattern.search") _ _) _ _ _) | (with_reducible show wpAny _ _ (call (Value.builtin "re.Match.group") _ _) _ _ _) | (with_reducible show wpAny _ _ (call (Value.builtin "re.Pattern.sub") _ _) _ _ _) | (with_reducible show wpAny _ _ (call (Value.builtin "re.Pattern.subn") _ _) _ _ _) | (with_reducible show wpAny _ _ (call (Value.ref 55) _ _) _ _ _) | (with_reducible show wpAny _ _ (getMethod (Value.ref _) (PySem.Str.ofString "search") _) _ _ _) | (with_reducible show wpAny _ _ (getMethod (Value.ref _) (PySem.Str.ofString "group") _) _ _ _) | (with_reducible show wpAny _ _ (getMethod (Value.ref _) (PySem.Str.ofString "sub") _) _ _ _) | (with_reducible show wpAny _ _ (getMethod (Value.ref _) (PySem.Str.ofString "subn") _) _ _ _) | (with_reducible show wpAny _ _ (exec (Stmt.For _ _ _ _ _) _) _ _ _) | (with_reducible show wpAny _ _ (exec (Stmt.While _ _ _ _) _) _ _ _) | (with_reducible show wpAny _ _ (eval (PySem.Expr.ListComp _ _ _ _) _) _ _ _)))); first | (k_unfold; (try dsimp only)) | walk1 | (dsimp only; walk1)))
    rename Fr _ _ _ _ => F4
    rename News _ _ _ _ => N4
    show Back _ _ _ _ _ _ _ _ _
    refine ⟨_, (l1, listOf rv.toArray nr) :: (77, tabObj tab) :: fz, F4, N4, fun F5 N5 => hQ l1 rv nr tab fz _ _ (h1 rfl) F5 N5 ?_⟩
    intro p hp q hq e
    have h1 := hkeep p.1 p.2 (fun q hq => by rw [List.mem_singleton.mp hq]; exact (hdis p hp).symm) (hnews p hp)
    have h2 := (N4 q (by rcases List.mem_cons.mp hq with rfl | hq; exact .head _; exact .tail _ (.tail _ hq))).2.2
    rw [e, h1] at h2; cases h2)
end Mine

end

section
open PySem PySem.W PyProof.Rows PySem.Calls PySem.Sre
set_option maxRecDepth 100000
set_option maxHeartbeats 40000000
set_option linter.unusedVariables false
namespace Mine
theorem fill7 : Challenge.rw_nb0191_01 = Challenge.rw_nb0191_01 ∧ hd.heap_39 = hd.heap_39 := by k_fill; exact ⟨rfl, rfl⟩


local macro_rules | `(tactic| k_all) => `(tactic| assumption)
local macro_rules | `(tactic| walk_at "truthy ref") => `(tactic| walk_at "mine truthy")
local macro_rules | `(tactic| walk_at "call builtin:list.append") => `(tactic| walk_at "mine append")

theorem first_not : ∀ {v : List Nat}, (¬ ∀ c ∈ v, isWritten c = true) → ∃ pl c r, v = pl ++ c :: r ∧ (∀ d ∈ pl, isWritten d = true) ∧ isWritten c = false
  | [], h => absurd (fun _ h => nomatch h) h
  | c :: v, h => by
    cases hc : isWritten c
    · exact ⟨[], c, v, rfl, (fun _ h => nomatch h), hc⟩
    · obtain ⟨pl, d, r, rfl, h1, h2⟩ := first_not (v := v) fun k => h fun d hd => by
        rcases List.mem_cons.mp hd with rfl | hd
        · exact hc
        · exact k d hd
      exact ⟨c :: pl, d, r, rfl, (fun e he => by rcases List.mem_cons.mp he with rfl | he; exact hc; exact h1 e he), h2⟩
theorem E_wr_ok {v : List Nat} (hl : v.length ≤ 1000) (h0 : v ≠ []) (hw : ∀ c ∈ v, isWritten c = true) : Ends 10 (forMatch C6 (S v).cps 0 0 (S v).cps.size true false) Matched := by
  have := List.length_pos_iff.mpr h0
  refine wr_ok (by rw [S_size]; (first | lia | omega)) (by rw [S_size]; (first | lia | omega)) fun j hj => ?_
  rw [S_size] at hj
  rw [gd]; exact hw _ (gd_mem hj)
theorem E_wr_no {v : List Nat} (hl : v.length ≤ 1000) (h : ¬ (v ≠ [] ∧ ∀ c ∈ v, isWritten c = true)) : Ends 2010 (forMatch C6 (S v).cps 0 0 (S v).cps.size true false) Failed := by
  by_cases h0 : v = []
  · subst h0
    exact (wr_no (T := (S []).cps) (k := 0) (by decide) (.inr rfl) (fun j hj => absurd hj (Nat.not_lt_zero _)) (fun h => absurd h (by decide))).mono (by decide) fun _ x => x
  · obtain ⟨pl, c, r, rfl, h1, h2⟩ := first_not (v := v) fun k => h ⟨h0, k⟩
    have hz : (S (pl ++ c :: r)).cps.size = pl.length + (r.length + 1) := by rw [S_size, List.length_append, List.length_cons]
    rw [List.length_append, List.length_cons] at hl
    refine (wr_no (k := pl.length) (by (first | lia | omega)) (.inl (by (first | lia | omega))) (fun j hj => ?_) (fun _ => ?_)).mono (by (first | lia | omega)) fun _ x => x
    · rw [gd, gd_left hj]; exact h1 _ (gd_mem hj)
    · rw [gd]
      have := gd_right (a := pl) (b := c :: r) (j := 0)
      rw [Nat.add_zero] at this
      rw [this]; exact h2
/-- a parameter as join_header_words writes it -/
noncomputable def wordJ (p : Par) : List Nat := match p.2 with
  | none => p.1
  | some v => p.1 ++ 61 :: (if v ≠ [] ∧ (∀ c ∈ v, isWritten c = true) then v else 34 :: (escJ v ++ [34]))
noncomputable def joinL (sep : List Nat) : List (List Nat) → List Nat
  | [] => []
  | [x] => x
  | x :: y :: r => x ++ (sep ++ joinL sep (y :: r))

theorem ofStr_eq : PySem.Str.ofString "=" = S [61] := by decide +kernel
theorem ofStr_quote : PySem.Str.ofString "\"" = S [34] := by decide +kernel
theorem word_yes {key v : List Nat} (hw : v ≠ [] ∧ ∀ c ∈ v, isWritten c = true) : PySem.Str.empty ++ S key ++ PySem.Str.ofString "=" ++ S v = S (wordJ (key, some v)) := by
  unfold wordJ; dsimp only; rw [if_pos hw, ofStr_eq, show PySem.Str.empty = S [] from rfl]; simp only [S_append]; simp
theorem word_no {key v : List Nat} (hw : ¬ (v ≠ [] ∧ ∀ c ∈ v, isWritten c = true)) : PySem.Str.empty ++ S key ++ PySem.Str.ofString "=" ++ (PySem.Str.ofString "\"" ++ S (escJ v) ++ PySem.Str.ofString "\"") = S (wordJ (key, some v)) := by
  unfold wordJ; dsimp only; rw [if_neg hw, ofStr_eq, ofStr_quote, show PySem.Str.empty = S [] from rfl]; simp only [S_append]; simp
theorem escJ_len : ∀ v : List Nat, (escJ v).length ≤ 2 * v.length
  | [] => Nat.le_refl _
  | c :: v => by
    have := escJ_len v
    unfold escJ at this ⊢
    rw [List.flatMap_cons, List.length_append, List.length_cons]
    split <;> simp only [List.length_cons, List.length_nil] <;> (first | lia | omega)
theorem wordJ_len {p : Par} (h : p.1.length ≤ 100 ∧ ∀ v, p.2 = some v → v.length ≤ 100) : (wordJ p).length ≤ 400 := by
  obtain ⟨k, v⟩ := p
  unfold wordJ
  cases v with
  | none => exact Nat.le_trans h.1 (by decide)
  | some v =>
    have h1 := h.1
    have h2 := h.2 v rfl
    have h3 := escJ_len v
    dsimp only at h1 ⊢
    split <;> simp only [List.length_append, List.length_cons, List.length_nil] <;> (first | lia | omega)
theorem join_one (x y : PySem.Str) : Txt.join x [y] = y := (StrLaws.glued_eq_join _ [y]).trans rfl
/-- the lists of one pair each, in a heap -/
noncomputable def TupAt (h : Heap) (v : Value) (p : Par) : Prop := ∃ a t1 t2, v = .ref a ∧ h.get? a = some (tup2 (.str (S p.1) t1) (valOf p.2 t2))
noncomputable def OneAt (h : Heap) (v : Value) (p : Par) : Prop := ∃ a n x, v = .ref a ∧ h.get? a = some (listOf (List.toArray [x]) n) ∧ TupAt h x p

noncomputable def TabOkJ (tab : Array Value) (fz : List (Addr × Obj)) : Prop :=
  tab = #[] ∨ ∃ c' oc vs t, tab = #[rawInt 93, rawInt 50, .ref c'] ∧ (c', oc) ∈ fz ∧ oc.data = .fields vs ∧ vs[1]? = some (Value.str ((PySem.Str.ofString "join_header_words" ++ PySem.Str.ofString ".<locals>.") ++ PySem.Str.ofString "<lambda>") t)
theorem TabOkJ.more {tab : Array Value} {fz fz' : List (Addr × Obj)} (h : TabOkJ tab fz) (k : ∀ q ∈ fz, q ∈ fz') : TabOkJ tab fz' := by
  rcases h with h | ⟨c', oc, vs, t, h1, h2, h3, h4⟩
  · exact .inl h
  · exact .inr ⟨c', oc, vs, t, h1, k _ h2, h3, h4⟩
structure JhwI (pr : Par) (Lh I La : Addr) (oI : Obj) (hv : List Value) (nh : Nat) (j : Nat) (m : PySem.Str → Option Value) (news : List (Addr × Obj)) (av : List Value) (na : Nat) (tab : Array Value) (fz : List (Addr × Obj)) : Prop where
  h_news : news = (La, listOf av.toArray na) :: (Lh, listOf hv.toArray nh) :: (94, tabObj tab) :: (I, oI) :: fz
  h_0 : j = 0 → av = [] ∧ na = 0
  h_1 : j = 1 → ∃ t, av = [Value.str (S (wordJ pr)) t]
  h_tab : TabOkJ tab fz
  fza : ∀ p ∈ fz, p.1 ≠ La
  fzh : ∀ p ∈ fz, p.1 ≠ Lh
  fzt : ∀ p ∈ fz, p.1 ≠ 94
  fzi : ∀ p ∈ fz, p.1 ≠ I
  ma : m (PySem.Str.ofString "attr") = some (.ref La)
  mh : m (PySem.Str.ofString "headers") = some (.ref Lh)
noncomputable def JhwJ (pr : Par) (Lh I La : Addr) (oI : Obj) (hv : List Value) (nh : Nat) (j : Nat) (m : PySem.Str → Option Value) (news : List (Addr × Obj)) : Prop := ∃ av na tab fz, JhwI pr Lh I La oI hv nh j m news av na tab fz
noncomputable def JhwO (g : Heap) (ps : List Par) (Lh : Addr) (i : Nat) (m : PySem.Str → Option Value) (news : List (Addr × Obj)) : Prop :=
  ∃ hv nh tab fz, news = (Lh, listOf (List.toArray hv) nh) :: (94, tabObj tab) :: fz ∧ m (PySem.Str.ofString "headers") = some (.ref Lh) ∧ StrsAre hv (((ps.take i).map wordJ).map S) ∧ (∀ p ∈ fz, p.1 ≠ Lh) ∧ (∀ p ∈ fz, p.1 ≠ 94) ∧ @Ne Nat Lh 94 ∧ TabOkJ tab fz

theorem jhw_turn {g' h' : Heap} {L' : Addr} {m' : PySem.Str → Option Value} {nw fz : List (Addr × Obj)} {pr : Par} {l1 I La I2 : Addr} {oI oI2 : Obj} {hv : List Value} {nh tk : Nat} {tab : Array Value} {y : PySem.Str} {t : Tok} {s : Shared} {Q : Flow → Shared → Prop}
    (F : Fr g' L' h' m') (N : News g' L' h' nw) (m1 : (La, listOf (List.toArray [Value.str y t]) 1) ∈ nw) (hy : y = S (wordJ pr)) (m2 : (l1, listOf hv.toArray nh) ∈ nw) (m3 : (94, tabObj tab) ∈ nw) (m4 : (I, oI) ∈ nw) (m5 : (I2, oI2) ∈ nw) (m6 : ∀ p ∈ fz, p ∈ nw) (hTab : TabOkJ tab fz)
    (fza : ∀ p ∈ fz, p.1 ≠ La) (fzh : ∀ p ∈ fz, p.1 ≠ l1) (fzt : ∀ p ∈ fz, p.1 ≠ 94) (fzi : ∀ p ∈ fz, p.1 ≠ I) (o1 : @Ne Nat La I2) (o2 : @Ne Nat l1 I2) (o3 : @Ne Nat 94 I2) (o4 : @Ne Nat I I2) (o5 : ∀ p ∈ fz, p.1 ≠ I2)
    (ma : m' (PySem.Str.ofString "attr") = some (.ref La)) (mh : m' (PySem.Str.ofString "headers") = some (.ref l1)) : Turn g' L' (I2, oI2) (JhwJ pr l1 I La oI hv nh (0 + 1)) s Q .next { s with heap := h', toks := tk } := by
  subst hy
  refine Turn.next F (news' := (La, listOf (List.toArray [Value.str (S (wordJ pr)) t]) 1) :: (l1, listOf hv.toArray nh) :: (94, tabObj tab) :: (I, oI) :: fz) (news_sub N ?_) ?_ ⟨_, _, _, _, rfl, (fun h => nomatch h), (fun _ => ⟨t, rfl⟩), hTab, fza, fzh, fzt, fzi, ma, mh⟩
  · intro p hp
    simp only [List.cons_append, List.mem_append, List.mem_cons, List.not_mem_nil, or_false] at hp
    rcases hp with rfl | rfl | rfl | rfl | hp | rfl
    · exact m1
    · exact m2
    · exact m3
    · exact m4
    · exact m6 p hp
    · exact m5
  · exact List.forall_mem_cons.mpr ⟨o1, List.forall_mem_cons.mpr ⟨o2, List.forall_mem_cons.mpr ⟨o3, List.forall_mem_cons.mpr ⟨o4, o5⟩⟩⟩⟩

theorem join_S (sep : List Nat) : ∀ l : List (List Nat), Txt.join (S sep) (l.map S) = S (joinL sep l) := by
  have k : ∀ l : List (List Nat), PySem.Str.join (S sep) (l.map S) = S (joinL sep l) := by
    intro l
    induction l with
    | nil => rfl
    | cons x r ih =>
      cases r with
      | nil => rfl
      | cons y r =>
        show S x ++ S sep ++ PySem.Str.join (S sep) ((y :: r).map S) = _
        rw [ih, S_append, S_append, List.append_assoc]
        rfl
  exact fun l => (StrLaws.glued_eq_join _ _).trans (k l)
theorem ofStr_sep : PySem.Str.ofString ", " = S [44, 32] := by decide +kernel
theorem join_weight {ps : List Par} (hlen : ps.length ≤ 100) (hpl : ∀ p ∈ ps, p.1.length ≤ 100 ∧ ∀ v, p.2 = some v → v.length ≤ 100) : (((ps.map wordJ).map S).map (·.length)).sum + ((ps.map wordJ).map S).length ≤ 1048576 := by
  have k : (((ps.map wordJ).map S).map (·.length)).sum ≤ 400 * ps.length := by
    clear hlen
    induction ps with
    | nil => exact Nat.le_refl _
    | cons p ps ih =>
      have h1 := wordJ_len (hpl p (.head _))
      have h2 := ih fun q hq => hpl q (.tail _ hq)
      simp only [List.map_cons, List.sum_cons, List.length_cons, S_length] at *
      (first | lia | omega)
  simp only [List.length_map] at *
  (first | lia | omega)
theorem jhw_next {g' h' : Heap} {L' : Addr} {m' : PySem.Str → Option Value} {nw fz : List (Addr × Obj)} {ps : List Par} {pr : Par} {l1 I : Addr} {oI : Obj} {hv : List Value} {i nh tk : Nat} {tab : Array Value} {y : PySem.Str} {t : Tok} {s : Shared} {Q : Flow → Shared → Prop}
    (F : Fr g' L' h' m') (N : News g' L' h' nw) (m2 : (l1, listOf (hv ++ [Value.str y t]).toArray (nh + 1)) ∈ nw) (hy : y = S (wordJ pr)) (m3 : (94, tabObj tab) ∈ nw) (m4 : (I, oI) ∈ nw) (m6 : ∀ p ∈ fz, p ∈ nw) (hst : StrsAre hv (((ps.take i).map wordJ).map S)) (htk : ps.take (i + 1) = ps.take i ++ [pr]) (hTab : TabOkJ tab fz)
    (fzh : ∀ p ∈ fz, p.1 ≠ l1) (fzt : ∀ p ∈ fz, p.1 ≠ 94) (hht : @Ne Nat l1 94) (o2 : @Ne Nat l1 I) (o3 : @Ne Nat 94 I) (o5 : ∀ p ∈ fz, p.1 ≠ I)
    (mh : m' (PySem.Str.ofString "headers") = some (.ref l1)) : Turn g' L' (I, oI) (JhwO g' ps l1 (i + 1)) s Q .next { s with heap := h', toks := tk } := by
  subst hy
  refine Turn.next F (news' := (l1, listOf (hv ++ [Value.str (S (wordJ pr)) t]).toArray (nh + 1)) :: (94, tabObj tab) :: fz) (news_sub N ?_) ?_ ⟨_, _, _, _, rfl, mh, ?_, fzh, fzt, hht, hTab⟩
  · intro p hp
    simp only [List.cons_append, List.mem_append, List.mem_cons, List.not_mem_nil, or_false] at hp
    rcases hp with rfl | rfl | hp | rfl
    · exact m2
    · exact m3
    · exact m6 p hp
    · exact m4
  · exact List.forall_mem_cons.mpr ⟨o2, List.forall_mem_cons.mpr ⟨o3, o5⟩⟩
  · rw [htk, List.map_append, List.map_append]
    exact KStt.strs_snoc hst

theorem jhw_call {prog : Program} {w : World} {base h₀ : Heap} {env : Env} {L : Addr} {m : PySem.Str → Option Value} {rest : List (Addr × Obj)} {s : Shared} {p : Program} {loose : List PySem.Str} {mean : ExcName → Option Value} {mg mb : PySem.Str → Option Value} {Q : Value → Shared → Prop} {E : Value → Shared → Prop}
  {l : Addr} {nl : Nat} {rv : List Value} {ps : List Par}
  (B : Below callerA base [] h₀) (F : Fr h₀ L s.heap m) (X : (hd.heap_39 w.params).In h₀) (N : News h₀ L s.heap ((94, tabObj #[]) :: rest)) (T : Top p loose mean mg mb h₀) (hf : env.frame = some L) (hk : env.scope.kind = .function)
  (hdis : ∀ p ∈ rest, p.1 ≠ 94) (hl : s.heap.get? l = some (listOf rv.toArray nl)) (hl94 : l ≠ 94)
  (hR : ∀ g : Heap, (∀ p ∈ rest, g.get? p.1 = some p.2) → All2 (OneAt g) rv ps) (hlen : ps.length ≤ 100) (hpl : ∀ p ∈ ps, p.1.length ≤ 100 ∧ ∀ v, p.2 = some v → v.length ≤ 100)
  (hQ : ∀ tab fz h' tk t, Fr h₀ L h' m → News h₀ L h' ((94, tabObj tab) :: fz ++ rest) → Q (.str (S (joinL [44, 32] (ps.map wordJ))) t) { s with heap := h', toks := tk }) :
  wpAny (model prog w) (callerA.deeper env) (call (.ref 99) [.ref l] []) Q E s := by
  w_on
  w_strict (
  (refine' call_fz (live := [(94, tabObj #[])]) (rest := rest) ?k1 ?k2 ?k3 ?k4 ?k5 ?kA ?kF ?kK ?k6 ?k7 ?k8 ?k9 ?kB ?kD ?_ ?c2 ?c3 ?c4 ?c5; (case kA => exact rfl); (case kF => exact hf); (case kK => exact hk); (case k1 => k_asm); (case k2 => k_asm); (case k3 => k_asm); (case k4 => k_asm); (case k5 => k_asm); (case k6 => k_is); (case k7 => k_is); (case k8 => k_room); (case k9 => first | exact BindsTo.of_eq rfl | exact binds_K (by k_in) rfl (by k_is) rfl rfl rfl | fail "k_enter: no rule for these arguments"); (case c5 => decide); (case kB => exact locs rfl); (case c2 => exact rfl); (case c3 => exact rfl); (case c4 => exact rfl); (case kD => exact fun p hp q hq => by rw [List.mem_singleton.mp hq]; exact (hdis p hp).symm); k_whole; intro g' L' h' hkeep st' F' N' l' B' X' T'; (try dsimp only); (try k_lift B'); (try k_fold))
  have hnews : ∀ p ∈ rest, s.heap.get? p.1 = some p.2 := fun p hp => (N p (.tail _ hp)).1
  have hk1 : ∀ b o, b ≠ 94 → s.heap.get? b = some o → g'.get? b = some o := fun b o hb => hkeep b o fun p hp => by rw [List.mem_singleton.mp hp]; exact hb.symm
  have gl : g'.get? l = some (listOf rv.toArray nl) := hk1 _ _ hl94 hl
  have hall : All2 (OneAt g') rv ps := hR g' fun p hp => hk1 _ _ (hdis p hp) (hnews p hp)
  obtain ⟨_, _, _, _, _, hP6, hP7⟩ := pat_of X'
  have hC : CodeHd g' 98 94 := codeHd_of_K X' (by kernel_rfl)
  clear N F hR
  (repeat' ((fail_if_success ((first | (with_reducible show Turn _ _ _ _ _ _ _ _) | (with_reducible show WhileStep _ _ _ _ _ _ _) | (with_reducible show Back _ _ _ _ _ _ _ _ _) | (with_reducible show wpAny _ _ (call (Value.builtin "re.Pattern.fullmatch") _ _) _ _ _) | (with_reducible show wpAny _ _ (getMethod (Value.ref _) (PySem.Str.ofString "fullmatch") _) _ _ _) | (with_reducible show wpAny _ _ (call (Value.builtin "re.Match.group") _ _) _ _ _) | (with_reducible show wpAny _ _ (call (Value.builtin "re.Pattern.sub") _ _) _ _ _) | (with_reducible show wpAny _ _ (call (Value.builtin "re.Pattern.subn") _ _) _ _ _) | (with_reducible show wpAny _ _ (call (Value.ref 55) _ _) _ _ _) | (with_reducible show wpAny _ _ (getMethod (Value.ref _) (PySem.Str.ofString "search") _) _ _ _) | (with_reducible show wpAny _ _ (getMethod (Value.ref _) (PySem.Str.ofString "group") _) _ _ _) | (with_reducible show wpAny _ _ (getMethod (Value.ref _) (PySem.Str.ofString "sub") _) _ _ _) | (with_reducible show wpAny _ _ (getMethod (Value.ref _) (PySem.Str.ofString "subn") _) _ _ _) | (with_reducible show wpAny _ _ (exec (Stmt.For _ _ _ _ _) _) _ _ _) | (with_reducible show wpAny _ _ (exec (Stmt.While _ _ _ _) _) _ _ _) | (with_reducible show wpAny _ _ (eval (PySem.Expr.ListComp _ _ _ _) _) _ _ _)))); first | (k_unfold; (try dsimp only)) | walk1 | (dsimp only; walk1)))
  rename Fr _ _ _ _ => F1
  rename News _ _ _ _ => N1
  rename_i l1 _ hl1 _
  refine For_invVF F1 rfl rfl ?_
  walk1
  refine iter_list (src := []) (vs := rv) (k := nl) (JhwO g' ps l1) rfl (.inl gl) (fun _ _ _ _ p (h : p ∈ []) => nomatch h) F1 N1 ?h0 ?turn ?done
  case h0 => exact ⟨[], 0, #[], [], rfl, rfl, .nil, (fun _ h => nomatch h), (fun _ h => nomatch h), by (first | lia | omega), .inl rfl⟩
  case turn =>
    rintro i v m₁ news₁ I oI h tk hi ⟨hv, nh, tab, fz, rfl, mh, hst, fzh, fzt, hht, hTab⟩ hoff F2 N2
    obtain ⟨pr, hpr, a, na, x, rfl, ga, tx⟩ := hall.get hi
    obtain ⟨at', t1, t2, rfl, gt⟩ := tx
    have F3 := fr_see [(PySem.Str.ofString "pairs", .ref a), (PySem.Str.ofString "headers", .ref l1)] F2 (by
      intro p hp
      simp only [List.mem_cons, List.not_mem_nil, or_false] at hp
      rcases hp with rfl | rfl
      · rfl
      · exact mh)
    clear F2 mh F1 N1
    have hI1 : @Ne Nat l1 I := hoff _ (.head _)
    have hI2 : @Ne Nat 94 I := hoff _ (.tail _ (.head _))
    have fzi : ∀ p ∈ fz, p.1 ≠ I := fun p hp => hoff p (.tail _ (.tail _ hp))
    have N3 := news_sub (news' := (l1, listOf hv.toArray nh) :: (94, tabObj tab) :: (I, oI) :: fz) N2 (by
      intro p hp
      simp only [List.cons_append, List.mem_append, List.mem_cons, List.not_mem_nil, or_false] at hp ⊢
      rcases hp with rfl | rfl | rfl | hp <;> simp [*])
    clear N2
    (repeat' ((fail_if_success ((first | (with_reducible show Turn _ _ _ _ _ _ _ _) | (with_reducible show WhileStep _ _ _ _ _ _ _) | (with_reducible show Back _ _ _ _ _ _ _ _ _) | (with_reducible show wpAny _ _ (call (Value.builtin "re.Pattern.fullmatch") _ _) _ _ _) | (with_reducible show wpAny _ _ (getMethod (Value.ref _) (PySem.Str.ofString "fullmatch") _) _ _ _) | (with_reducible show wpAny _ _ (call (Value.builtin "re.Match.group") _ _) _ _ _) | (with_reducible show wpAny _ _ (call (Value.builtin "re.Pattern.sub") _ _) _ _ _) | (with_reducible show wpAny _ _ (call (Value.builtin "re.Pattern.subn") _ _) _ _ _) | (with_reducible show wpAny _ _ (call (Value.ref 55) _ _) _ _ _) | (with_reducible show wpAny _ _ (getMethod (Value.ref _) (PySem.Str.ofString "search") _) _ _ _) | (with_reducible show wpAny _ _ (getMethod (Value.ref _) (PySem.Str.ofString "group") _) _ _ _) | (with_reducible show wpAny _ _ (getMethod (Value.ref _) (PySem.Str.ofString "sub") _) _ _ _) | (with_reducible show wpAny _ _ (getMethod (Value.ref _) (PySem.Str.ofString "subn") _) _ _ _) | (with_reducible show wpAny _ _ (exec (Stmt.For _ _ _ _ _) _) _ _ _) | (with_reducible show wpAny _ _ (exec (Stmt.While _ _ _ _) _) _ _ _) | (with_reducible show wpAny _ _ (eval (PySem.Expr.ListComp _ _ _ _) _) _ _ _)))); first | (k_unfold; (try dsimp only)) | walk1 | (dsimp only; walk1)))
    rename Fr _ _ _ _ => F4
    rename News _ _ _ _ => N4
    rename_i La _ Fx Nx hLa _
    clear Fx Nx
    refine For_T ?_ (by intro _; rfl)
    walk1
    refine iter_listT (hE := by passes_own) (src := []) (vs := [Value.ref at']) (k := na) (JhwJ pr l1 I La oI hv nh) rfl (.inl ga) (fun _ _ _ _ p (h : p ∈ []) => nomatch h) F4 N4 ?i0 ?iturn ?idone
    case i0 => exact ⟨[], 0, tab, fz, rfl, (fun _ => ⟨rfl, rfl⟩), (fun h => nomatch h), hTab, allLt_ne hLa.2.2.2, fzh, fzt, fzi, rfl, rfl⟩
    case iturn =>
      rintro j v2 m₂ news₂ I2 oI2 h2 tk2 hj2 ⟨av, na2, tab2, fz2, rfl, hj0, -, hTab2, fza2, fzh2, fzt2, fzi2, ma2, mh2⟩ hoff2 F5 N5
      obtain ⟨rfl, rfl⟩ : j = 0 ∧ v2 = .ref at' := by
        cases j with
        | zero => exact ⟨rfl, by simpa using hj2.symm⟩
        | succ i => simp at hj2
      obtain ⟨rfl, rfl⟩ := hj0 rfl
      have hT : IsTup h2 at' #[.str (S pr.1) t1, valOf pr.2 t2] := ⟨_, F5.keep _ _ gt, rfl, _, rfl⟩
      have F6 := fr_see [(PySem.Str.ofString "attr", .ref La), (PySem.Str.ofString "headers", .ref l1)] F5 (by
        intro p hp
        simp only [List.mem_cons, List.not_mem_nil, or_false] at hp
        rcases hp with rfl | rfl
        · exact ma2
        · exact mh2)
      clear F5 F4 N4
      replace F6 : Fr g' L' _ _ := F6
      have hpr2 := hpl _ (List.mem_of_getElem? hpr)
      have o1 : @Ne Nat La I2 := hoff2 _ (.head _)
      have o2 : @Ne Nat l1 I2 := hoff2 _ (.tail _ (.head _))
      have o3 : @Ne Nat 94 I2 := hoff2 _ (.tail _ (.tail _ (.head _)))
      have o4 : @Ne Nat I I2 := hoff2 _ (.tail _ (.tail _ (.tail _ (.head _))))
      have o5 : ∀ p ∈ fz2, p.1 ≠ I2 := fun p hp => hoff2 p (.tail _ (.tail _ (.tail _ (.tail _ hp))))
      have N6 := news_sub (news' := (La, listOf (List.toArray []) 0) :: (l1, listOf hv.toArray nh) :: (94, tabObj tab2) :: (I, oI) :: (I2, oI2) :: fz2) N5 (by
        intro p hp
        simp only [List.cons_append, List.mem_append, List.mem_cons, List.not_mem_nil, or_false] at hp ⊢
        rcases hp with rfl | rfl | rfl | rfl | rfl | hp <;> simp [*])
      clear N5
      replace N6 : News g' L' _ _ := N6
      have hLa1 := hLa.1
      have hLa2 := hLa.2.1
      have hLa3 := hLa.2.2.1
      obtain ⟨key, val⟩ := pr
      cases val with
      | none =>
        dsimp only [valOf] at hT gt
        (repeat' ((fail_if_success ((first | (with_reducible show Turn _ _ _ _ _ _ _ _) | (with_reducible show WhileStep _ _ _ _ _ _ _) | (with_reducible show Back _ _ _ _ _ _ _ _ _) | (with_reducible show wpAny _ _ (call (Value.builtin "re.Pattern.fullmatch") _ _) _ _ _) | (with_reducible show wpAny _ _ (getMethod (Value.ref _) (PySem.Str.ofString "fullmatch") _) _ _ _) | (with_reducible show wpAny _ _ (call (Value.builtin "re.Match.group") _ _) _ _ _) | (with_reducible show wpAny _ _ (call (Value.builtin "re.Pattern.sub") _ _) _ _ _) | (with_reducible show wpAny _ _ (call (Value.builtin "re.Pattern.subn") _ _) _ _ _) | (with_reducible show wpAny _ _ (call (Value.ref 55) _ _) _ _ _) | (with_reducible show wpAny _ _ (getMethod (Value.ref _) (PySem.Str.ofString "search") _) _ _ _) | (with_reducible show wpAny _ _ (getMethod (Value.ref _) (PySem.Str.ofString "group") _) _ _ _) | (with_reducible show wpAny _ _ (getMethod (Value.ref _) (PySem.Str.ofString "sub") _) _ _ _) | (with_reducible show wpAny _ _ (getMethod (Value.ref _) (PySem.Str.ofString "subn") _) _ _ _) | (with_reducible show wpAny _ _ (exec (Stmt.For _ _ _ _ _) _) _ _ _) | (with_reducible show wpAny _ _ (exec (Stmt.While _ _ _ _) _) _ _ _) | (with_reducible show wpAny _ _ (eval (PySem.Expr.ListComp _ _ _ _) _) _ _ _)))); first | (k_unfold; (try dsimp only)) | walk1 | (dsimp only; walk1)))
        rename Fr _ _ _ _ => F7
        rename News _ _ _ _ => N7
        refine Turn.next F7 (news' := (La, listOf (List.toArray [Value.str (S key) t1]) 1) :: (l1, listOf hv.toArray nh) :: (94, tabObj tab2) :: (I, oI) :: fz2) (news_sub N7 ?_) ?_ ⟨_, _, _, _, rfl, (fun h => nomatch h), (fun _ => ⟨t1, rfl⟩), hTab2, fza2, fzh2, fzt2, fzi2, rfl, rfl⟩
        · intro p hp
          simp only [List.cons_append, List.mem_append, List.mem_cons, List.not_mem_nil, or_false] at hp ⊢
          rcases hp with rfl | rfl | rfl | rfl | hp | rfl <;> simp [*]
        · exact List.forall_mem_cons.mpr ⟨o1, List.forall_mem_cons.mpr ⟨o2, List.forall_mem_cons.mpr ⟨o3, List.forall_mem_cons.mpr ⟨o4, o5⟩⟩⟩⟩
      | some v =>
        dsimp only [valOf] at hT gt
        have hvl : v.length ≤ 100 := hpr2.2 v rfl
        have hkl : key.length ≤ 100 := hpr2.1
        have hvS : (S v).length ≤ 100 := by rw [S_length]; exact hvl
        have hkS : (S key).length ≤ 100 := by rw [S_length]; exact hkl
        (repeat' ((fail_if_success ((first | (with_reducible show Turn _ _ _ _ _ _ _ _) | (with_reducible show WhileStep _ _ _ _ _ _ _) | (with_reducible show Back _ _ _ _ _ _ _ _ _) | (with_reducible show wpAny _ _ (call (Value.builtin "re.Pattern.fullmatch") _ _) _ _ _) | (with_reducible show wpAny _ _ (getMethod (Value.ref _) (PySem.Str.ofString "fullmatch") _) _ _ _) | (with_reducible show wpAny _ _ (call (Value.builtin "re.Match.group") _ _) _ _ _) | (with_reducible show wpAny _ _ (call (Value.builtin "re.Pattern.sub") _ _) _ _ _) | (with_reducible show wpAny _ _ (call (Value.builtin "re.Pattern.subn") _ _) _ _ _) | (with_reducible show wpAny _ _ (call (Value.ref 55) _ _) _ _ _) | (with_reducible show wpAny _ _ (getMethod (Value.ref _) (PySem.Str.ofString "search") _) _ _ _) | (with_reducible show wpAny _ _ (getMethod (Value.ref _) (PySem.Str.ofString "group") _) _ _ _) | (with_reducible show wpAny _ _ (getMethod (Value.ref _) (PySem.Str.ofString "sub") _) _ _ _) | (with_reducible show wpAny _ _ (getMethod (Value.ref _) (PySem.Str.ofString "subn") _) _ _ _) | (with_reducible show wpAny _ _ (exec (Stmt.For _ _ _ _ _) _) _ _ _) | (with_reducible show wpAny _ _ (exec (Stmt.While _ _ _ _) _) _ _ _) | (with_reducible show wpAny _ _ (eval (PySem.Expr.ListComp _ _ _ _) _) _ _ _)))); first | (k_unfold; (try dsimp only)) | walk1 | (dsimp only; walk1)))
        rename Fr _ _ _ _ => F7
        rename News _ _ _ _ => N7
        refine pat_method (hP6.keeps F7.keep) slot_full type_full ?_
        dsimp only
        (repeat' ((fail_if_success ((first | (with_reducible show Turn _ _ _ _ _ _ _ _) | (with_reducible show WhileStep _ _ _ _ _ _ _) | (with_reducible show Back _ _ _ _ _ _ _ _ _) | (with_reducible show wpAny _ _ (call (Value.builtin "re.Pattern.fullmatch") _ _) _ _ _) | (with_reducible show wpAny _ _ (getMethod (Value.ref _) (PySem.Str.ofString "fullmatch") _) _ _ _) | (with_reducible show wpAny _ _ (call (Value.builtin "re.Match.group") _ _) _ _ _) | (with_reducible show wpAny _ _ (call (Value.builtin "re.Pattern.sub") _ _) _ _ _) | (with_reducible show wpAny _ _ (call (Value.builtin "re.Pattern.subn") _ _) _ _ _) | (with_reducible show wpAny _ _ (call (Value.ref 55) _ _) _ _ _) | (with_reducible show wpAny _ _ (getMethod (Value.ref _) (PySem.Str.ofString "search") _) _ _ _) | (with_reducible show wpAny _ _ (getMethod (Value.ref _) (PySem.Str.ofString "group") _) _ _ _) | (with_reducible show wpAny _ _ (getMethod (Value.ref _) (PySem.Str.ofString "sub") _) _ _ _) | (with_reducible show wpAny _ _ (getMethod (Value.ref _) (PySem.Str.ofString "subn") _) _ _ _) | (with_reducible show wpAny _ _ (exec (Stmt.For _ _ _ _ _) _) _ _ _) | (with_reducible show wpAny _ _ (exec (Stmt.While _ _ _ _) _) _ _ _) | (with_reducible show wpAny _ _ (eval (PySem.Expr.ListComp _ _ _ _) _) _ _ _)))); first | (k_unfold; (try dsimp only)) | walk1 | (dsimp only; walk1)))
        by_cases hw : v ≠ [] ∧ ∀ c ∈ v, isWritten c = true
        · refine full_yes F7 N7 (hP6.keeps F7.keep) (Nat.le_trans hvS (by decide)) (E_wr_ok (by (first | lia | omega)) hw.1 hw.2) (by decide) ?_
          intro a8 o8 h8 F8 N8 ho8 lt8
          clear F7 N7
          (repeat' ((fail_if_success ((first | (with_reducible show wpAny _ _ (truthy (Value.ref _)) _ _ _) | (first | (with_reducible show Turn _ _ _ _ _ _ _ _) | (with_reducible show WhileStep _ _ _ _ _ _ _) | (with_reducible show Back _ _ _ _ _ _ _ _ _) | (with_reducible show wpAny _ _ (call (Value.builtin "re.Pattern.fullmatch") _ _) _ _ _) | (with_reducible show wpAny _ _ (getMethod (Value.ref _) (PySem.Str.ofString "fullmatch") _) _ _ _) | (with_reducible show wpAny _ _ (call (Value.builtin "re.Match.group") _ _) _ _ _) | (with_reducible show wpAny _ _ (call (Value.builtin "re.Pattern.sub") _ _) _ _ _) | (with_reducible show wpAny _ _ (call (Value.builtin "re.Pattern.subn") _ _) _ _ _) | (with_reducible show wpAny _ _ (call (Value.ref 55) _ _) _ _ _) | (with_reducible show wpAny _ _ (getMethod (Value.ref _) (PySem.Str.ofString "search") _) _ _ _) | (with_reducible show wpAny _ _ (getMethod (Value.ref _) (PySem.Str.ofString "group") _) _ _ _) | (with_reducible show wpAny _ _ (getMethod (Value.ref _) (PySem.Str.ofString "sub") _) _ _ _) | (with_reducible show wpAny _ _ (getMethod (Value.ref _) (PySem.Str.ofString "subn") _) _ _ _) | (with_reducible show wpAny _ _ (exec (Stmt.For _ _ _ _ _) _) _ _ _) | (with_reducible show wpAny _ _ (exec (Stmt.While _ _ _ _) _) _ _ _) | (with_reducible show wpAny _ _ (eval (PySem.Expr.ListComp _ _ _ _) _) _ _ _))))); first | (k_unfold; (try dsimp only)) | walk1 | (dsimp only; walk1)))
          refine truthy_match (N8 _ (.head _)).1 ho8 ?_
          have N9 := news_sub N8 fun p hp => .tail _ hp
          clear N8
          (repeat' ((fail_if_success ((first | (with_reducible show Turn _ _ _ _ _ _ _ _) | (with_reducible show WhileStep _ _ _ _ _ _ _) | (with_reducible show Back _ _ _ _ _ _ _ _ _) | (with_reducible show wpAny _ _ (call (Value.builtin "re.Pattern.fullmatch") _ _) _ _ _) | (with_reducible show wpAny _ _ (getMethod (Value.ref _) (PySem.Str.ofString "fullmatch") _) _ _ _) | (with_reducible show wpAny _ _ (call (Value.builtin "re.Match.group") _ _) _ _ _) | (with_reducible show wpAny _ _ (call (Value.builtin "re.Pattern.sub") _ _) _ _ _) | (with_reducible show wpAny _ _ (call (Value.builtin "re.Pattern.subn") _ _) _ _ _) | (with_reducible show wpAny _ _ (call (Value.ref 55) _ _) _ _ _) | (with_reducible show wpAny _ _ (getMethod (Value.ref _) (PySem.Str.ofString "search") _) _ _ _) | (with_reducible show wpAny _ _ (getMethod (Value.ref _) (PySem.Str.ofString "group") _) _ _ _) | (with_reducible show wpAny _ _ (getMethod (Value.ref _) (PySem.Str.ofString "sub") _) _ _ _) | (with_reducible show wpAny _ _ (getMethod (Value.ref _) (PySem.Str.ofString "subn") _) _ _ _) | (with_reducible show wpAny _ _ (exec (Stmt.For _ _ _ _ _) _) _ _ _) | (with_reducible show wpAny _ _ (exec (Stmt.While _ _ _ _) _) _ _ _) | (with_reducible show wpAny _ _ (eval (PySem.Expr.ListComp _ _ _ _) _) _ _ _)))); first | (k_unfold; (try dsimp only)) | walk1 | (dsimp only; walk1)))
          rename Fr _ _ _ _ => F10
          rename News _ _ _ _ => N10
          exact jhw_turn F10 N10 (.head _) (word_yes hw) (.tail _ (.head _)) (.tail _ (.tail _ (.head _))) (.tail _ (.tail _ (.tail _ (.head _)))) (.tail _ (.tail _ (.tail _ (.tail _ (.head _))))) (fun _ h => .tail _ (.tail _ (.tail _ (.tail _ (.tail _ h))))) hTab2 fza2 fzh2 fzt2 fzi2 o1 o2 o3 o4 o5 rfl rfl
        · refine full_no (hP6.keeps F7.keep) (Nat.le_trans hvS (by decide)) (E_wr_no (by (first | lia | omega)) hw) (by decide) ?_
          (repeat' ((fail_if_success ((first | (with_reducible show Turn _ _ _ _ _ _ _ _) | (with_reducible show WhileStep _ _ _ _ _ _ _) | (with_reducible show Back _ _ _ _ _ _ _ _ _) | (with_reducible show wpAny _ _ (call (Value.builtin "re.Pattern.fullmatch") _ _) _ _ _) | (with_reducible show wpAny _ _ (getMethod (Value.ref _) (PySem.Str.ofString "fullmatch") _) _ _ _) | (with_reducible show wpAny _ _ (call (Value.builtin "re.Match.group") _ _) _ _ _) | (with_reducible show wpAny _ _ (call (Value.builtin "re.Pattern.sub") _ _) _ _ _) | (with_reducible show wpAny _ _ (call (Value.builtin "re.Pattern.subn") _ _) _ _ _) | (with_reducible show wpAny _ _ (call (Value.ref 55) _ _) _ _ _) | (with_reducible show wpAny _ _ (getMethod (Value.ref _) (PySem.Str.ofString "search") _) _ _ _) | (with_reducible show wpAny _ _ (getMethod (Value.ref _) (PySem.Str.ofString "group") _) _ _ _) | (with_reducible show wpAny _ _ (getMethod (Value.ref _) (PySem.Str.ofString "sub") _) _ _ _) | (with_reducible show wpAny _ _ (getMethod (Value.ref _) (PySem.Str.ofString "subn") _) _ _ _) | (with_reducible show wpAny _ _ (exec (Stmt.For _ _ _ _ _) _) _ _ _) | (with_reducible show wpAny _ _ (exec (Stmt.While _ _ _ _) _) _ _ _) | (with_reducible show wpAny _ _ (eval (PySem.Expr.ListComp _ _ _ _) _) _ _ _)))); first | (k_unfold; (try dsimp only)) | walk1 | (dsimp only; walk1)))
          refine pat_method (hP7.keeps F7.keep) slot_sub type_sub ?_
          dsimp only
          rcases hTab2 with rfl | ⟨c', oc, vs', t', rfl, hc1, hc2, hc3⟩
          · (repeat' ((fail_if_success ((first | (with_reducible show Turn _ _ _ _ _ _ _ _) | (with_reducible show WhileStep _ _ _ _ _ _ _) | (with_reducible show Back _ _ _ _ _ _ _ _ _) | (with_reducible show wpAny _ _ (call (Value.builtin "re.Pattern.fullmatch") _ _) _ _ _) | (with_reducible show wpAny _ _ (getMethod (Value.ref _) (PySem.Str.ofString "fullmatch") _) _ _ _) | (with_reducible show wpAny _ _ (call (Value.builtin "re.Match.group") _ _) _ _ _) | (with_reducible show wpAny _ _ (call (Value.builtin "re.Pattern.sub") _ _) _ _ _) | (with_reducible show wpAny _ _ (call (Value.builtin "re.Pattern.subn") _ _) _ _ _) | (with_reducible show wpAny _ _ (call (Value.ref 55) _ _) _ _ _) | (with_reducible show wpAny _ _ (getMethod (Value.ref _) (PySem.Str.ofString "search") _) _ _ _) | (with_reducible show wpAny _ _ (getMethod (Value.ref _) (PySem.Str.ofString "group") _) _ _ _) | (with_reducible show wpAny _ _ (getMethod (Value.ref _) (PySem.Str.ofString "sub") _) _ _ _) | (with_reducible show wpAny _ _ (getMethod (Value.ref _) (PySem.Str.ofString "subn") _) _ _ _) | (with_reducible show wpAny _ _ (exec (Stmt.For _ _ _ _ _) _) _ _ _) | (with_reducible show wpAny _ _ (exec (Stmt.While _ _ _ _) _) _ _ _) | (with_reducible show wpAny _ _ (eval (PySem.Expr.ListComp _ _ _ _) _) _ _ _)))); first | (k_unfold; (try dsimp only)) | walk1 | (dsimp only; walk1)))
            simp only [List.cons_append, List.nil_append]
            obtain ⟨qs, hS, hqs⟩ := jes_subs v.length [] v false (Nat.le_refl _) (by simp only [List.nil_append]; (first | lia | omega))
            rename Fr _ _ _ _ => F20
            rename News _ _ _ _ => N20
            refine sub_call (f := fun b e' => PySem.Str.ofString "\\" ++ (⟨(S v).cps.extract b e'⟩ : PySem.Str)) (Nat.le_trans hvS (by decide)) F20 N20 hP7 (N20 _ (.head _)).1 rfl ?_ hS ?_
            · intro s' Q' E' a tup nw st hd' b e' F' N' hsub ma mt hbe he' hq
              exact lam_call B' F' X' N' T' rfl rfl rfl (by k_room) rfl (Nat.le_trans hvS (by decide)) (by decide) (N' _ (hsub _ (.head _))).1 ⟨_, _, _, _, rfl, (N' _ (hsub _ (.tail _ (.head _)))).1, by assumption, by assumption⟩ (N' _ ma).1 (N' _ mt).1 hbe he' hq
            intro t21 h21 k21 F21 N21
            rw [hqs]
            have hel : (S (escJ v)).length ≤ 200 := by rw [S_length]; exact Nat.le_trans (escJ_len v) (by (first | lia | omega))
            clear F20 N20
            (repeat' ((fail_if_success ((first | (with_reducible show Turn _ _ _ _ _ _ _ _) | (with_reducible show WhileStep _ _ _ _ _ _ _) | (with_reducible show Back _ _ _ _ _ _ _ _ _) | (with_reducible show wpAny _ _ (call (Value.builtin "re.Pattern.fullmatch") _ _) _ _ _) | (with_reducible show wpAny _ _ (getMethod (Value.ref _) (PySem.Str.ofString "fullmatch") _) _ _ _) | (with_reducible show wpAny _ _ (call (Value.builtin "re.Match.group") _ _) _ _ _) | (with_reducible show wpAny _ _ (call (Value.builtin "re.Pattern.sub") _ _) _ _ _) | (with_reducible show wpAny _ _ (call (Value.builtin "re.Pattern.subn") _ _) _ _ _) | (with_reducible show wpAny _ _ (call (Value.ref 55) _ _) _ _ _) | (with_reducible show wpAny _ _ (getMethod (Value.ref _) (PySem.Str.ofString "search") _) _ _ _) | (with_reducible show wpAny _ _ (getMethod (Value.ref _) (PySem.Str.ofString "group") _) _ _ _) | (with_reducible show wpAny _ _ (getMethod (Value.ref _) (PySem.Str.ofString "sub") _) _ _ _) | (with_reducible show wpAny _ _ (getMethod (Value.ref _) (PySem.Str.ofString "subn") _) _ _ _) | (with_reducible show wpAny _ _ (exec (Stmt.For _ _ _ _ _) _) _ _ _) | (with_reducible show wpAny _ _ (exec (Stmt.While _ _ _ _) _) _ _ _) | (with_reducible show wpAny _ _ (eval (PySem.Expr.ListComp _ _ _ _) _) _ _ _)))); first | (k_unfold; (try dsimp only)) | walk1 | (dsimp only; walk1)))
            rename Fr _ _ _ _ => F10
            rename News _ _ _ _ => N10
            rename _ ∧ _ ∧ _ ∧ _ ∧ _ ∧ AllLt _ fz2 => hcL
            refine jhw_turn (fz := (_, _) :: fz2) (tab := #[rawInt 93, rawInt 50, .ref _]) F10 N10 (.tail _ (.tail _ (.head _))) (word_no hw) (.tail _ (.tail _ (.tail _ (.head _)))) (.tail _ (.tail _ (.tail _ (.tail _ (.head _))))) (.tail _ (.tail _ (.tail _ (.tail _ (.tail _ (.head _)))))) (.tail _ (.tail _ (.tail _ (.tail _ (.tail _ (.tail _ (.head _))))))) (List.forall_mem_cons.mpr ⟨.tail _ (.head _), fun _ h => .tail _ (.tail _ (.tail _ (.tail _ (.tail _ (.tail _ (.tail _ h))))))⟩) (.inr ⟨_, _, _, _, rfl, .head _, by assumption, by assumption⟩) (List.forall_mem_cons.mpr ⟨?_, fza2⟩) (List.forall_mem_cons.mpr ⟨?_, fzh2⟩) (List.forall_mem_cons.mpr ⟨?_, fzt2⟩) (List.forall_mem_cons.mpr ⟨?_, fzi2⟩) o1 o2 o3 o4 (List.forall_mem_cons.mpr ⟨?_, o5⟩) rfl rfl
            all_goals exact Nat.ne_of_gt (by (first | lia | omega))
          · (repeat' ((fail_if_success ((first | (with_reducible show Turn _ _ _ _ _ _ _ _) | (with_reducible show WhileStep _ _ _ _ _ _ _) | (with_reducible show Back _ _ _ _ _ _ _ _ _) | (with_reducible show wpAny _ _ (call (Value.builtin "re.Pattern.fullmatch") _ _) _ _ _) | (with_reducible show wpAny _ _ (getMethod (Value.ref _) (PySem.Str.ofString "fullmatch") _) _ _ _) | (with_reducible show wpAny _ _ (call (Value.builtin "re.Match.group") _ _) _ _ _) | (with_reducible show wpAny _ _ (call (Value.builtin "re.Pattern.sub") _ _) _ _ _) | (with_reducible show wpAny _ _ (call (Value.builtin "re.Pattern.subn") _ _) _ _ _) | (with_reducible show wpAny _ _ (call (Value.ref 55) _ _) _ _ _) | (with_reducible show wpAny _ _ (getMethod (Value.ref _) (PySem.Str.ofString "search") _) _ _ _) | (with_reducible show wpAny _ _ (getMethod (Value.ref _) (PySem.Str.ofString "group") _) _ _ _) | (with_reducible show wpAny _ _ (getMethod (Value.ref _) (PySem.Str.ofString "sub") _) _ _ _) | (with_reducible show wpAny _ _ (getMethod (Value.ref _) (PySem.Str.ofString "subn") _) _ _ _) | (with_reducible show wpAny _ _ (exec (Stmt.For _ _ _ _ _) _) _ _ _) | (with_reducible show wpAny _ _ (exec (Stmt.While _ _ _ _) _) _ _ _) | (with_reducible show wpAny _ _ (eval (PySem.Expr.ListComp _ _ _ _) _) _ _ _)))); first | (k_unfold; (try dsimp only)) | walk1 | (dsimp only; walk1)))
            simp only [List.cons_append, List.nil_append]
            obtain ⟨qs, hS, hqs⟩ := jes_subs v.length [] v false (Nat.le_refl _) (by simp only [List.nil_append]; (first | lia | omega))
            rename Fr _ _ _ _ => F20
            rename News _ _ _ _ => N20
            refine sub_call (f := fun b e' => PySem.Str.ofString "\\" ++ (⟨(S v).cps.extract b e'⟩ : PySem.Str)) (Nat.le_trans hvS (by decide)) F20 N20 hP7 (N20 _ (.head _)).1 rfl ?_ hS ?_
            · intro s' Q' E' a tup nw st hd' b e' F' N' hsub ma mt hbe he' hq
              exact lam_call B' F' X' N' T' rfl rfl rfl (by k_room) rfl (Nat.le_trans hvS (by decide)) (by decide) (N' _ (hsub _ (.head _))).1 ⟨_, _, _, _, rfl, (N' _ (hsub _ (.tail _ (.tail _ (.tail _ (.tail _ (.tail _ (.tail _ hc1)))))))).1, hc2, hc3⟩ (N' _ ma).1 (N' _ mt).1 hbe he' hq
            intro t21 h21 k21 F21 N21
            rw [hqs]
            have hel : (S (escJ v)).length ≤ 200 := by rw [S_length]; exact Nat.le_trans (escJ_len v) (by (first | lia | omega))
            clear F20 N20
            (repeat' ((fail_if_success ((first | (with_reducible show Turn _ _ _ _ _ _ _ _) | (with_reducible show WhileStep _ _ _ _ _ _ _) | (with_reducible show Back _ _ _ _ _ _ _ _ _) | (with_reducible show wpAny _ _ (call (Value.builtin "re.Pattern.fullmatch") _ _) _ _ _) | (with_reducible show wpAny _ _ (getMethod (Value.ref _) (PySem.Str.ofString "fullmatch") _) _ _ _) | (with_reducible show wpAny _ _ (call (Value.builtin "re.Match.group") _ _) _ _ _) | (with_reducible show wpAny _ _ (call (Value.builtin "re.Pattern.sub") _ _) _ _ _) | (with_reducible show wpAny _ _ (call (Value.builtin "re.Pattern.subn") _ _) _ _ _) | (with_reducible show wpAny _ _ (call (Value.ref 55) _ _) _ _ _) | (with_reducible show wpAny _ _ (getMethod (Value.ref _) (PySem.Str.ofString "search") _) _ _ _) | (with_reducible show wpAny _ _ (getMethod (Value.ref _) (PySem.Str.ofString "group") _) _ _ _) | (with_reducible show wpAny _ _ (getMethod (Value.ref _) (PySem.Str.ofString "sub") _) _ _ _) | (with_reducible show wpAny _ _ (getMethod (Value.ref _) (PySem.Str.ofString "subn") _) _ _ _) | (with_reducible show wpAny _ _ (exec (Stmt.For _ _ _ _ _) _) _ _ _) | (with_reducible show wpAny _ _ (exec (Stmt.While _ _ _ _) _) _ _ _) | (with_reducible show wpAny _ _ (eval (PySem.Expr.ListComp _ _ _ _) _) _ _ _)))); first | (k_unfold; (try dsimp only)) | walk1 | (dsimp only; walk1)))
            rename Fr _ _ _ _ => F10
            rename News _ _ _ _ => N10
            exact jhw_turn F10 N10 (.tail _ (.head _)) (word_no hw) (.tail _ (.tail _ (.head _))) (.tail _ (.tail _ (.tail _ (.head _)))) (.tail _ (.tail _ (.tail _ (.tail _ (.head _))))) (.tail _ (.tail _ (.tail _ (.tail _ (.tail _ (.head _)))))) (fun _ h => .tail _ (.tail _ (.tail _ (.tail _ (.tail _ (.tail _ h)))))) (.inr ⟨c', oc, vs', t', rfl, hc1, hc2, hc3⟩) fza2 fzh2 fzt2 fzi2 o1 o2 o3 o4 o5 rfl rfl
    case idone =>
      rintro m₃ news₃ h3 tk3 ⟨av, na3, tab3, fz3, rfl, -, h1, hTab3, fza3, fzh3, fzt3, fzi3, ma3, mh3⟩ F5 N5
      obtain ⟨tw, rfl⟩ := h1 rfl
      have F6 := fr_see [(PySem.Str.ofString "attr", .ref La), (PySem.Str.ofString "headers", .ref l1)] F5 (by
        intro p hp
        simp only [List.mem_cons, List.not_mem_nil, or_false] at hp
        rcases hp with rfl | rfl
        · exact ma3
        · exact mh3)
      clear F5 F4 N4
      replace F6 : Fr g' L' _ _ := F6
      replace N5 : News g' L' _ _ := N5
      dsimp only
      have hwl : (S (wordJ pr)).length ≤ 400 := by rw [S_length]; exact wordJ_len (hpl _ (List.mem_of_getElem? hpr))
      have hhl : hv.length ≤ 100 := by rw [hst.length, List.length_map, List.length_map, List.length_take]; (first | lia | omega)
      (repeat' ((fail_if_success ((first | (with_reducible show Turn _ _ _ _ _ _ _ _) | (with_reducible show WhileStep _ _ _ _ _ _ _) | (with_reducible show Back _ _ _ _ _ _ _ _ _) | (with_reducible show wpAny _ _ (call (Value.builtin "re.Pattern.fullmatch") _ _) _ _ _) | (with_reducible show wpAny _ _ (getMethod (Value.ref _) (PySem.Str.ofString "fullmatch") _) _ _ _) | (with_reducible show wpAny _ _ (call (Value.builtin "re.Match.group") _ _) _ _ _) | (with_reducible show wpAny _ _ (call (Value.builtin "re.Pattern.sub") _ _) _ _ _) | (with_reducible show wpAny _ _ (call (Value.builtin "re.Pattern.subn") _ _) _ _ _) | (with_reducible show wpAny _ _ (call (Value.ref 55) _ _) _ _ _) | (with_reducible show wpAny _ _ (getMethod (Value.ref _) (PySem.Str.ofString "search") _) _ _ _) | (with_reducible show wpAny _ _ (getMethod (Value.ref _) (PySem.Str.ofString "group") _) _ _ _) | (with_reducible show wpAny _ _ (getMethod (Value.ref _) (PySem.Str.ofString "sub") _) _ _ _) | (with_reducible show wpAny _ _ (getMethod (Value.ref _) (PySem.Str.ofString "subn") _) _ _ _) | (with_reducible show wpAny _ _ (exec (Stmt.For _ _ _ _ _) _) _ _ _) | (with_reducible show wpAny _ _ (exec (Stmt.While _ _ _ _) _) _ _ _) | (with_reducible show wpAny _ _ (eval (PySem.Expr.ListComp _ _ _ _) _) _ _ _)))); first | (k_unfold; (try dsimp only)) | walk1 | (dsimp only; walk1)))
      rename Fr _ _ _ _ => F8
      rename News _ _ _ _ => N8
      have htk : ps.take (i + 1) = ps.take i ++ [pr] := by rw [List.take_add_one, hpr]; rfl
      refine jhw_next F8 N8 (.tail _ (.head _)) (join_one _ _) (.tail _ (.tail _ (.head _))) (.tail _ (.tail _ (.tail _ (.head _)))) (fun _ h => .tail _ (.tail _ (.tail _ (.tail _ h)))) hst htk hTab3 fzh3 fzt3 hht hI1 hI2 fzi3 rfl
  case done =>
    rintro m₁ news₁ h tk ⟨hv, nh, tab, fz, rfl, mh, hst, fzh, fzt, hht, hTab⟩ F2 N2
    have F3 := fr_see [(PySem.Str.ofString "headers", .ref l1)] F2 (by
      intro p hp
      rw [List.mem_singleton.mp hp]
      exact mh)
    clear F2 mh F1 N1
    have hrl : rv.length = ps.length := hall.length
    rw [hrl, List.take_length] at hst
    dsimp only
    (repeat' ((fail_if_success ((first | (with_reducible show wpAny _ _ (call (Value.builtin "str.join") _ _) _ _ _) | (first | (with_reducible show Turn _ _ _ _ _ _ _ _) | (with_reducible show WhileStep _ _ _ _ _ _ _) | (with_reducible show Back _ _ _ _ _ _ _ _ _) | (with_reducible show wpAny _ _ (call (Value.builtin "re.Pattern.fullmatch") _ _) _ _ _) | (with_reducible show wpAny _ _ (getMethod (Value.ref _) (PySem.Str.ofString "fullmatch") _) _ _ _) | (with_reducible show wpAny _ _ (call (Value.builtin "re.Match.group") _ _) _ _ _) | (with_reducible show wpAny _ _ (call (Value.builtin "re.Pattern.sub") _ _) _ _ _) | (with_reducible show wpAny _ _ (call (Value.builtin "re.Pattern.subn") _ _) _ _ _) | (with_reducible show wpAny _ _ (call (Value.ref 55) _ _) _ _ _) | (with_reducible show wpAny _ _ (getMethod (Value.ref _) (PySem.Str.ofString "search") _) _ _ _) | (with_reducible show wpAny _ _ (getMethod (Value.ref _) (PySem.Str.ofString "group") _) _ _ _) | (with_reducible show wpAny _ _ (getMethod (Value.ref _) (PySem.Str.ofString "sub") _) _ _ _) | (with_reducible show wpAny _ _ (getMethod (Value.ref _) (PySem.Str.ofString "subn") _) _ _ _) | (with_reducible show wpAny _ _ (exec (Stmt.For _ _ _ _ _) _) _ _ _) | (with_reducible show wpAny _ _ (exec (Stmt.While _ _ _ _) _) _ _ _) | (with_reducible show wpAny _ _ (eval (PySem.Expr.ListComp _ _ _ _) _) _ _ _))))); first | (k_unfold; (try dsimp only)) | walk1 | (dsimp only; walk1)))
    rename Fr _ _ _ _ => F4
    rename News _ _ _ _ => N4
    refine join_listW ⟨_, (N4 _ (.head _)).1, rfl, _, rfl⟩ (by simpa using hst) (by decide +kernel) (join_weight hlen hpl) ?_
    intro t5 k5
    (repeat' ((fail_if_success ((first | (with_reducible show Turn _ _ _ _ _ _ _ _) | (with_reducible show WhileStep _ _ _ _ _ _ _) | (with_reducible show Back _ _ _ _ _ _ _ _ _) | (with_reducible show wpAny _ _ (call (Value.builtin "re.Pattern.fullmatch") _ _) _ _ _) | (with_reducible show wpAny _ _ (getMethod (Value.ref _) (PySem.Str.ofString "fullmatch") _) _ _ _) | (with_reducible show wpAny _ _ (call (Value.builtin "re.Match.group") _ _) _ _ _) | (with_reducible show wpAny _ _ (call (Value.builtin "re.Pattern.sub") _ _) _ _ _) | (with_reducible show wpAny _ _ (call (Value.builtin "re.Pattern.subn") _ _) _ _ _) | (with_reducible show wpAny _ _ (call (Value.ref 55) _ _) _ _ _) | (with_reducible show wpAny _ _ (getMethod (Value.ref _) (PySem.Str.ofString "search") _) _ _ _) | (with_reducible show wpAny _ _ (getMethod (Value.ref _) (PySem.Str.ofString "group") _) _ _ _) | (with_reducible show wpAny _ _ (getMethod (Value.ref _) (PySem.Str.ofString "sub") _) _ _ _) | (with_reducible show wpAny _ _ (getMethod (Value.ref _) (PySem.Str.ofString "subn") _) _ _ _) | (with_reducible show wpAny _ _ (exec (Stmt.For _ _ _ _ _) _) _ _ _) | (with_reducible show wpAny _ _ (exec (Stmt.While _ _ _ _) _) _ _ _) | (with_reducible show wpAny _ _ (eval (PySem.Expr.ListComp _ _ _ _) _) _ _ _)))); first | (k_unfold; (try dsimp only)) | walk1 | (dsimp only; walk1)))
    rename Fr _ _ _ _ => F6
    rename News _ _ _ _ => N6
    show Back _ _ _ _ _ _ _ _ _
    refine ⟨_, (94, tabObj tab) :: fz, F6, news_sub N6 fun p hp => .tail _ hp, fun F7 N7 => ?_⟩
    rw [ofStr_sep, join_S]
    exact hQ _ _ _ _ _ F7 N7)
end Mine

end

section
open PySem PySem.W PyProof.Rows PySem.Calls
set_option maxRecDepth 100000
set_option maxHeartbeats 4000000
set_option linter.unusedVariables false
namespace Mine
theorem fillS : Challenge.rw_nb0191_01 = Challenge.rw_nb0191_01 ∧ hd.heap_39 = hd.heap_39 := by k_fill; exact ⟨rfl, rfl⟩


noncomputable def sgnL : List Nat := [34, 92, 44, 97, 59, 61, 32, 9, 233, 55, 92, 34, 126, 47, 39, 10]
theorem sgn_str : PySem.Str.ofString "\"\\,a;= \té7\\\"~/'\n" = S sgnL := by decide +kernel
noncomputable def signsF : Nat → Nat → List Nat
  | 0, _ => []
  | f + 1, n => if n = 0 then [] else sgnL.getD (n % 16) 0 :: signsF f (n / 16)
noncomputable def signsOf (n : Nat) : List Nat := signsF 5 n

theorem item_S {l : List Nat} {i : Nat} (h : i < l.length) : Txt.item (S l) (i : Int) = S [l.getD i 0] := by
  unfold Txt.item Txt.charAt
  have e : seqIndex? (i : Int) (S l).length = some i := by
    unfold seqIndex?
    rw [S_length]
    simp
    (first | lia | omega)
  rw [e]
  simp [S, List.getD_eq_getElem?_getD]
noncomputable def SigJ (n₀ : Nat) (k : Nat) (m : PySem.Str → Option Value) (news : List (Addr × Obj)) : Prop :=
  ∃ text tt n tn ts, news = [] ∧ k + text.length = 5 ∧ text ++ signsF k n = signsOf n₀ ∧ n ≤ n₀ ∧ m (PySem.Str.ofString "text") = some (.str (S text) tt) ∧ m (PySem.Str.ofString "number") = some (.int (n : Int) tn) ∧ m (PySem.Str.ofString "signs") = some (.str (S sgnL) ts)

theorem sig_call {prog : Program} {w : World} {base h₀ : Heap} {env : Env} {L : Addr} {m : PySem.Str → Option Value} {news : List (Addr × Obj)} {s : Shared} {p : Program} {loose : List PySem.Str} {mean : ExcName → Option Value} {mg mb : PySem.Str → Option Value} {i : Int} {n₀ : Nat} {t : Tok} {Q : Value → Shared → Prop} {E : Value → Shared → Prop}
  (B : Below callerA base [] h₀) (F : Fr h₀ L s.heap m) (X : (hd.heap_39 w.params).In h₀) (N : News h₀ L s.heap news) (T : Top p loose mean mg mb h₀) (hf : env.frame = some L) (hk : env.scope.kind = .function) (hi : i = (n₀ : Int)) (hn : n₀ ≤ 1000000000)
  (hQ : ∀ t' h' tk, Fr h₀ L h' m → News h₀ L h' news → Q (.str (S (signsOf n₀)) t') { s with heap := h', toks := tk }) :
  wpAny (model prog w) (callerA.deeper env) (call (.ref 106) [.int i t] []) Q E s := by
  w_on
  w_strict (
  (refine' call_fz (live := []) (rest := news) ?k1 ?k2 ?k3 ?k4 ?k5 ?kA ?kF ?kK ?k6 ?k7 ?k8 ?k9 ?kB ?kD ?_ ?c2 ?c3 ?c4 ?c5; (case kA => exact rfl); (case kF => exact hf); (case kK => exact hk); (case k1 => k_asm); (case k2 => k_asm); (case k3 => k_asm); (case k4 => k_asm); (case k5 => k_asm); (case k6 => k_is); (case k7 => k_is); (case k8 => k_room); (case k9 => first | exact BindsTo.of_eq rfl | exact binds_K (by k_in) rfl (by k_is) rfl rfl rfl | fail "k_enter: no rule for these arguments"); (case c5 => decide); (case kB => exact locs rfl); (case c2 => exact rfl); (case c3 => exact rfl); (case c4 => exact rfl); (case kD => exact fun _ _ _ h => nomatch h); k_whole; intro g' L' h' hkeep st' F' N' l' B' X' T'; (try dsimp only); (try k_lift B'); (try k_fold))
  subst hi
  clear N F
  (repeat' ((fail_if_success ((first | (with_reducible show WhileStep _ _ _ _ _ _ _) | (with_reducible show Back _ _ _ _ _ _ _ _ _) | (with_reducible show wpAny _ _ (exec (Stmt.While _ _ _ _) _) _ _ _) | (with_reducible show wpAny _ _ (subscriptTail _ _ (Value.str _ _) _) _ _ _)))); first | (k_unfold; (try dsimp only)) | walk1 | (dsimp only; walk1)))
  rename Fr _ _ _ _ => F1
  rename News _ _ _ _ => N1
  refine While_inv (SigJ n₀) (n₀ := 5) F1 N1 ⟨[], _, n₀, _, _, rfl, rfl, rfl, Nat.le_refl _, rfl, rfl, congrArg (fun y => some (Value.str y _)) sgn_str⟩ ?_
  rintro k m₁ news₁ h₁ tk₁ F2 N2 ⟨text, tt, n, tn, ts, rfl, hlen, hsig, hnn, mt, mn, ms⟩
  have F3 := fr_see [(PySem.Str.ofString "text", .str (S text) tt), (PySem.Str.ofString "number", .int n tn), (PySem.Str.ofString "signs", .str (S sgnL) ts)] F2 (by
    intro p hp
    simp only [List.mem_cons, List.not_mem_nil, or_false] at hp
    rcases hp with rfl | rfl | rfl
    · exact mt
    · exact mn
    · exact ms)
  clear F2 mt mn ms F1 N1
  have htl : (S text).length ≤ 5 := by rw [S_length]; (first | lia | omega)
  (repeat' ((fail_if_success ((first | (with_reducible show WhileStep _ _ _ _ _ _ _) | (with_reducible show Back _ _ _ _ _ _ _ _ _) | (with_reducible show wpAny _ _ (exec (Stmt.While _ _ _ _) _) _ _ _) | (with_reducible show wpAny _ _ (subscriptTail _ _ (Value.str _ _) _) _ _ _)))); first | (k_unfold; (try dsimp only)) | walk1 | (dsimp only; walk1)))
  · refine item_str_fmod (by decide) (by decide) (by decide) ?_
    intro _
    rw [show ((n : Int).fmod 16) = ((n % 16 : Nat) : Int) by rw [Int.fmod_eq_emod_of_nonneg _ (by decide)]; rfl, item_S (show n % 16 < sgnL.length from Nat.mod_lt _ (by decide))]
    (repeat' ((fail_if_success ((first | (with_reducible show WhileStep _ _ _ _ _ _ _) | (with_reducible show Back _ _ _ _ _ _ _ _ _) | (with_reducible show wpAny _ _ (exec (Stmt.While _ _ _ _) _) _ _ _) | (with_reducible show wpAny _ _ (subscriptTail _ _ (Value.str _ _) _) _ _ _)))); first | (k_unfold; (try dsimp only)) | walk1 | (dsimp only; walk1)))
    rename Fr _ _ _ _ => F4
    rename News _ _ _ _ => N4
    rename 0 < (n : Int) => hn0
    rename ((S text).length : Int) < 5 => hl5
    rw [S_length] at hl5
    obtain ⟨k, rfl⟩ : ∃ k', k = k' + 1 := ⟨k - 1, by (first | lia | omega)⟩
    have hne : n ≠ 0 := by (first | lia | omega)
    refine WhileStep.intro (n' := k) F4 N4 (Nat.lt_succ_self _) ⟨text ++ [sgnL.getD (n % 16) 0], _, n / 16, _, _, rfl, ?_, ?_, Nat.le_trans (Nat.div_le_self _ _) hnn, congrArg (fun y => some (Value.str y _)) (S_append _ _), congrArg (fun y => some (Value.int y _)) ?_, rfl⟩
    · simp only [List.length_append, List.length_cons, List.length_nil]; (first | lia | omega)
    · rw [← hsig, List.append_assoc]
      congr 1
      rw [signsF, if_neg hne]; rfl
    · exact (Int.fdiv_eq_ediv_of_nonneg _ (by decide)).trans rfl
  · rename ¬ (((S text).length : Int) < 5) => hl5
    rw [S_length] at hl5
    have hk0 : k = 0 := by (first | lia | omega)
    subst hk0
    rw [signsF, List.append_nil] at hsig
    subst hsig
    show Back _ _ _ _ _ _ _ _ _
    exact ⟨_, [], F3, N2, fun F5 N5 => hQ _ _ _ F5 N5⟩
  · rename ¬ (0 < (n : Int)) => hn0
    have hk0 : n = 0 := by (first | lia | omega)
    subst hk0
    have : signsF k 0 = [] := by cases k <;> rfl
    rw [this, List.append_nil] at hsig
    subst hsig
    show Back _ _ _ _ _ _ _ _ _
    exact ⟨_, [], F3, N2, fun F5 N5 => hQ _ _ _ F5 N5⟩)
end Mine

end

section
open PySem PySem.W PyProof.Rows PySem.Calls
set_option maxRecDepth 100000
set_option maxHeartbeats 4000000
set_option linter.unusedVariables false
namespace Mine
theorem fillO : Challenge.rw_nb0191_01 = Challenge.rw_nb0191_01 ∧ hd.heap_39 = hd.heap_39 := by k_fill; exact ⟨rfl, rfl⟩

section
variable {prog : Program} {w : World} {A A₀ : Around} {E : Value → Shared → Prop} {s : Shared} {K : Frag} {L : Addr} {h₀ base : Heap} {m mg mb : PySem.Str → Option Value} {rest : List (Addr × Obj)} {p : Program} {loose : List PySem.Str} {mean : ExcName → Option Value} {Q : Value → Shared → Prop}
  {env : Env} {outer : List Env} {name qual : PySem.Str} {params : Arguments} {body : List Stmt} {scope : Scope} {dV kV doc pm cdv ct oc : Value} {an od : Option Addr} {osl : Array (Option Value)} {f : Addr} {pos : List Value} {kw : List (PySem.Str × Value)} {binds : List (PySem.Str × Value)}

/-- a call of a def with cells; all that stands is frozen -/
theorem call_fzC
    (B : Below A₀ base outer h₀) (F : Fr h₀ L s.heap m) (X₀ : K.In h₀) (N : News h₀ L s.heap rest) (T : Top p loose mean mg mb h₀) (hA : A.frames = some (env :: outer)) (hf : env.frame = some L) (hke : env.scope.kind = .function)
    (ho : K.lookup f = some ⟨oc, od, .func (fnOf name qual params body scope dV kV doc pm an cdv ct), osl⟩) (hcd : codeIn K cdv qual = true) (hroom : A.depth < recursionLimit)
    (hbind : BindsTo s (fnOf name qual params body scope dV kV doc pm an cdv ct) ⟨pos, kw⟩ binds) (hkind : (binds.all fun y => scope.names.lookup y.1 == some .local || scope.names.lookup y.1 == some .cell) = true)
    (hnd : ((cellsFrom 0 scope.names []).map (·.1)).Nodup)
    (h : ∀ g L' h₁ tk cells, (∀ b o, s.heap.get? b = some o → g.get? b = some o) → Fr g L' h₁ (bindL (envOfC qual scope L' f cdv).kindOf binds fun _ => none) → News g L' h₁ cells →
      CellsAre (bindC (envOfC qual scope L' f cdv).kindOf binds fun _ => none) (cellsFrom (L' + 1) scope.names []) cells → Below A base (env :: outer) g → K.In g → Top p loose mean mg mb g →
      wpAny (model prog w) (A.deeper (envOfC qual scope L' f cdv)) (execs body (envOfC qual scope L' f cdv))
        (Back h₀ L m g L' rest Q)
        (fun e s' => wpAny (model prog w) (A.deeper (envOfC qual scope L' f cdv)) (leaving (envOfC qual scope L' f cdv) e) (fun _ s'' => E e s'') (fun e' s'' => E e' s'') s')
        { s with heap := h₁, toks := tk })
    (hco : scope.isCoroutine = false) (hgen : scope.isGenerator = false) (hk : scope.kind = .function) : wpAny (model prog w) A (call (.ref f) pos kw) Q E s := by
  refine wpAny_call ?_
  obtain ⟨FG, BG, st, lv⟩ := groundX (R := fun r s' => match r with | .ok (.ret v) => Q v s' | .ok _ => False | .error e => E e s') B F (News.nil (h₀ := h₀) (h := s.heap) (L := L)) hA hf hke
  refine codeAny_call_function hroom ((X₀.keeps F.keep) _ _ ho) rfl hco hgen rfl (codeRec_of (X₀.keeps F.keep) hcd) (hbind _ _ _ _ ?_)
  refine wpAny_newFunctionEnv_cells hk (kindsX hkind _) fun env' he s' x => ?_
  subst he
  refine ⟨(T.nolimit.keeps F.keep).keeps x.toInCall.keep, codeAny_func ?_⟩
  obtain ⟨h₁, tk, rfl, _⟩ := x.done
  have hk₁ := x.toInCall.keep
  obtain ⟨cells, NC, Y⟩ := Cl.news (h₀ := s.heap) (Nat.le_refl _) fun n c hm => ⟨x.cell n c (lookup_of_mem_nodup (cellsFrom_names scope.names 0 (s.heap.objs.size + 1) [] [] rfl ▸ hnd) hm), x.above n c hm⟩
  refine wpAny_mono (h s.heap s.heap.objs.size h₁ tk cells (fun _ _ e => e) ⟨x.toInCall.ns, fun b o e => hk₁ b o e, Nat.le_refl _⟩ NC Y BG (X₀.keeps st) (T.keeps st)) (fun fl s' hl => ?_) fun _ _ y => y
  obtain ⟨m', news', F', N', k⟩ := hl
  refine lv _ _ ⟨_, m', news', F', N', fun F2 N2 => k F2 fun p hp => ?_⟩
  rcases List.mem_append.mp hp with hp | hp
  · exact N2 p hp
  · have z := N p hp
    exact ⟨F'.keep _ _ z.1, z.2⟩
end


noncomputable def onlyB (v sg : List Nat) : Bool := v.all fun c => decide (c ∈ sg)
noncomputable def offs (v sg : List Nat) : List Nat := v.filter fun c => !decide (c ∈ sg)
noncomputable def ones (l : List Nat) : List PySem.Str := l.map fun c => S [c]
theorem datAll_strs {news : List (Addr × Obj)} {vs : List Value} {xs : List PySem.Str} (h : StrsAre vs xs) : DatAll news vs (xs.map Dat.str) := by
  induction h with
  | nil => exact .nil
  | cons y t _ ih => exact .cons (.str _ _) ih
theorem strOk_S {l : List Nat} (h : ∀ c ∈ l, c < 1114112) : PyData.strOk (S l) = true := by
  unfold PyData.strOk
  rw [Array.all_eq_true_iff_forall_mem]
  intro c hc
  exact decide_eq_true (h c (by simpa [S] using hc))
theorem ones_ok {l : List Nat} (h : ∀ c ∈ l, c < 1114112) : ∀ d ∈ (ones l).map Dat.str, kqdOk 8 d = true := by
  intro d hd
  obtain ⟨x, hx, rfl⟩ := List.mem_map.mp hd
  obtain ⟨c, hc, rfl⟩ := List.mem_map.mp hx
  exact strOk_S fun e he => by rw [List.mem_singleton.mp he]; exact h c hc
open Classical in
theorem only_eq (v sg : List Nat) : (decide ((ones (offs v sg)).map Dat.str = [])) = onlyB v sg := by
  rw [Bool.eq_iff_iff, decide_eq_true_iff, List.map_eq_nil_iff, ones, List.map_eq_nil_iff, offs, List.filter_eq_nil_iff, onlyB, List.all_eq_true]
  simp

theorem only_call {prog : Program} {w : World} {base h₀ : Heap} {env : Env} {L : Addr} {m : PySem.Str → Option Value} {news : List (Addr × Obj)} {s : Shared} {p : Program} {loose : List PySem.Str} {mean : ExcName → Option Value} {mg mb : PySem.Str → Option Value} {v sg : List Nat} {t1 t2 : Tok} {Q : Value → Shared → Prop} {E : Value → Shared → Prop}
  (B : Below callerA base [] h₀) (F : Fr h₀ L s.heap m) (X : (hd.heap_39 w.params).In h₀) (N : News h₀ L s.heap news) (T : Top p loose mean mg mb h₀) (hf : env.frame = some L) (hk : env.scope.kind = .function) (hv : v.length ≤ 100) (hs : sg.length ≤ 100) (hvc : ∀ c ∈ v, c < 1114112)
  (hQ : ∀ h' tk, Fr h₀ L h' m → News h₀ L h' news → Q (.bool (onlyB v sg)) { s with heap := h', toks := tk }) :
  wpAny (model prog w) (callerA.deeper env) (call (.ref 111) [.str (S v) t1, .str (S sg) t2] []) Q E s := by
  w_on
  w_strict (
  (refine' call_fzC (rest := news) ?k1 ?k2 ?k3 ?k4 ?k5 ?kA ?kF ?kK ?k6 ?k7 ?k8 ?k9 ?kB ?kD ?_ ?c2 ?c3 ?c4; (case kA => exact rfl); (case kF => exact hf); (case kK => exact hk); (case k1 => k_asm); (case k2 => k_asm); (case k3 => k_asm); (case k4 => k_asm); (case k5 => k_asm); (case k6 => k_is); (case k7 => k_is); (case k8 => k_room); (case k9 => first | exact BindsTo.of_eq rfl | exact binds_K (by k_in) rfl (by k_is) rfl rfl rfl | fail "k_enter: no rule for these arguments"); (case kB => exact rfl); (case kD => decide +kernel); (case c2 => exact rfl); (case c3 => exact rfl); (case c4 => exact rfl); k_whole; intro g' L' h' tk' cells' hkeep F' N' Y' B' X' T'; k_cells Y'; (try simp only [List.cons_append, List.nil_append] at N'); (try dsimp only); (try k_lift B'); (try k_fold))
  clear N F
  (repeat' ((fail_if_success ((first | (with_reducible show LCg.CompEnd _ _ _ _ _ _ _ _ _ _ _ _ _ _) | (with_reducible show Back _ _ _ _ _ _ _ _ _) | (with_reducible show wpAny _ _ (compareOp _ (Value.ref _) (Value.ref _)) _ _ _) | (with_reducible show wpAny _ _ (eval (PySem.Expr.ListComp _ _ _ _) _) _ _ _)))); first | (k_unfold; (try dsimp only)) | walk1 | (dsimp only; walk1)))
  rename News _ _ _ _ => N1
  rename Fr _ _ _ _ => F1
  refine ListComp_ST (hs := by intro _; rfl) (F₀ := F1) (by with_unfolding_all rfl) (by decide) (by rfl) (by decide) (by rfl) ?_
  walk1
  refine ⟨_, _, _, rfl, rfl, F1, N1, by rw [S_length, sizeLine_eq]; (first | lia | omega), ?_⟩
  rintro s₂ ⟨h₂, rfl⟩
  refine compRestT_of (fun i ys nw => nw = _ ∧ StrsAre ys (ones (offs (v.take i) sg))) ?_ ?_ _ 0 _ _ (Nat.zero_add _) ⟨rfl, .nil⟩
  · rintro i ys _ x I oI C oC D m₂ h tk E' hi ⟨rfl, hys⟩ ⟨c, u, hc, rfl⟩ hC hm F5 N5 off ne
    clear N1 F1
    have hcv : v[i]? = some c := by simpa [S] using hc
    have htk : v.take (i + 1) = v.take i ++ [c] := by rw [List.take_add_one, hcv]; rfl
    (repeat' ((fail_if_success ((first | (with_reducible show LCg.CompEnd _ _ _ _ _ _ _ _ _ _ _ _ _ _) | (with_reducible show Back _ _ _ _ _ _ _ _ _) | (with_reducible show wpAny _ _ (compareOp _ (Value.ref _) (Value.ref _)) _ _ _) | (with_reducible show wpAny _ _ (eval (PySem.Expr.ListComp _ _ _ _) _) _ _ _)))); first | (k_unfold; (try dsimp only)) | walk1 | (dsimp only; walk1)))
    · rename (Builtin.Str.occurrences _ _ _ _ _).isEmpty = true => he
      rw [empty_one, S_list] at he
      have he' : decide (c ∈ sg) = false := by simpa using he
      refine LCg.CompEnd.intro F5 N5 _ (fun _ hp => hp) off trivial ⟨rfl, ?_⟩
      rw [htk, offs, List.filter_append, ones, List.map_append, show ([c].filter fun c => !decide (c ∈ sg)) = [c] by simp [he']]
      exact KStt.strs_snoc hys
    · rename (Builtin.Str.occurrences _ _ _ _ _).isEmpty = false => he
      rw [empty_one, S_list] at he
      have he' : decide (c ∈ sg) = true := by simpa using he
      refine LCg.CompEnd.intro F5 N5 _ (fun _ hp => hp) off trivial ⟨rfl, ?_⟩
      rw [htk, offs, List.filter_append, ones, List.map_append, show ([c].filter fun c => !decide (c ∈ sg)) = [] by simp [he'], List.map_nil, List.append_nil]
      exact hys
  · rintro ys _ ⟨rfl, hys⟩ D h tk F6 N6 off
    clear N1 F1
    dsimp only
    (repeat' ((fail_if_success ((first | (with_reducible show LCg.CompEnd _ _ _ _ _ _ _ _ _ _ _ _ _ _) | (with_reducible show Back _ _ _ _ _ _ _ _ _) | (with_reducible show wpAny _ _ (compareOp _ (Value.ref _) (Value.ref _)) _ _ _) | (with_reducible show wpAny _ _ (eval (PySem.Expr.ListComp _ _ _ _) _) _ _ _)))); first | (k_unfold; (try dsimp only)) | walk1 | (dsimp only; walk1)))
    rename Fr _ _ _ _ => F7
    rename News _ _ _ _ => N7
    rw [S_length, List.take_length] at hys
    refine kqd_eq (xs := ys) (ys := []) (ds := (ones (offs v sg)).map Dat.str) (es := []) (n₁ := []) (n₂ := []) N7 (.tail _ (.head _)) rfl rfl (datAll_strs hys) (fun _ h => nomatch h) (.head _) rfl rfl .nil (fun _ h => nomatch h) (ones_ok fun c hc => hvc c (List.mem_filter.mp hc).1) (fun _ h => nomatch h) (by ke_room) ?_
    have e : (decide ((ones (offs v sg)).map Dat.str = [])) = onlyB v sg := only_eq v sg
    rw [e]
    show Back _ _ _ _ _ _ _ _ _
    exact ⟨_, [], F7, News.nil, fun F8 N8 => hQ _ _ F8 N8⟩)
end Mine

end

section
open PySem PySem.W PyProof.Rows PySem.Calls
set_option maxRecDepth 100000
set_option maxHeartbeats 4000000
set_option linter.unusedVariables false
namespace Mine
noncomputable abbrev Pr := List Nat × List Nat
noncomputable def tupD (p : Pr) : Dat := .tuple [.str (S p.1), .str (S p.2)]
/-- a table, item by item -/
noncomputable def put (es : List Pr) (k v : List Nat) : List Pr := if es.any (fun e => e.1 = k) then es.map (fun e => if e.1 = k then (e.1, v) else e) else es ++ [(k, v)]
noncomputable def KvOf (kvs : List (PySem.Str × Value)) (es : List Pr) : Prop := All2 (fun kv e => kv.1 = S e.1 ∧ ∃ t, kv.2 = .str (S e.2) t) kvs es
theorem KvOf.any {kvs : List (PySem.Str × Value)} {es : List Pr} (h : KvOf kvs es) (k : List Nat) : kvs.any (fun kv => decide (kv.1 = S k)) = es.any (fun e => decide (e.1 = k)) := by
  induction h with
  | nil => rfl
  | cons x _ ih =>
    rw [List.any_cons, List.any_cons, ih, x.1]
    congr 1
    rw [Bool.eq_iff_iff]; simp [S_inj]
theorem KvOf.put {kvs : List (PySem.Str × Value)} {es : List Pr} (h : KvOf kvs es) (k v : List Nat) (t : Tok) : KvOf (stored kvs (S k) (.str (S v) t)) (put es k v) := by
  unfold stored Mine.put
  rw [h.any]
  split
  · rename_i hx
    clear hx
    induction h with
    | nil => exact .nil
    | cons x _ ih =>
      refine .cons ?_ ih
      obtain ⟨x1, t', x2⟩ := x
      rename_i a b _ _ _
      dsimp only
      by_cases hk : b.1 = k
      · rw [if_pos (show a.1 = S k by rw [x1, hk]), if_pos hk]
        exact ⟨x1, t, rfl⟩
      · rw [if_neg (show ¬ a.1 = S k by rw [x1, S_inj]; exact hk), if_neg hk]
        exact ⟨x1, t', x2⟩
  · exact All2.snoc h ⟨rfl, t, rfl⟩
theorem put_len (es : List Pr) (k v : List Nat) : (put es k v).length ≤ es.length + 1 := by
  unfold put
  split
  · rw [List.length_map]; (first | lia | omega)
  · rw [List.length_append]; exact Nat.le_refl _

theorem all2_of_get {α β : Type} {R : α → β → Prop} : ∀ {as : List α} {bs : List β}, as.length = bs.length → (∀ (j : Nat) a, as[j]? = some a → ∃ b, bs[j]? = some b ∧ R a b) → All2 R as bs
  | [], [], _, _ => .nil
  | [], _ :: _, e, _ => nomatch e
  | _ :: _, [], e, _ => nomatch e
  | a :: as, b :: bs, e, h => by
    refine .cons ?_ (all2_of_get (by simpa using e) fun j a hj => by simpa using h (j + 1) a (by simpa using hj))
    obtain ⟨b', hb, r⟩ := h 0 a rfl
    simp at hb; subst hb; exact r

theorem tups_of {prog : Program} {w : World} {h : Heap} {as : List Addr} {kvs : List (PySem.Str × Value)} (H : All2 (fun (a : Addr) (kv : PySem.Str × Value) => ∃ key, (PySem.strKind prog w).is kv.1 key = true ∧ h.get? a = some { cls := .type "tuple", data := .seq #[key, kv.2] }) as kvs) :
    ∀ {es : List Pr}, KvOf kvs es → ∃ tups : List (Addr × Obj), DatAll tups (as.map Value.ref) (es.map tupD) ∧ ∀ q ∈ tups, q.1 ∈ as ∧ h.get? q.1 = some q.2 := by
  induction H with
  | nil => intro es hes; cases hes; exact ⟨[], .nil, fun _ h => nomatch h⟩
  | @cons a kv as kvs x _ ih =>
    intro es hes
    cases hes with
    | @cons _ e _ es y hes =>
      obtain ⟨tups, D, hT⟩ := ih hes
      obtain ⟨key, hkey, ha⟩ := x
      obtain ⟨y1, t, y2⟩ := y
      obtain ⟨t', rfl⟩ := Value.isStrOf_shape hkey
      rw [y1, y2] at ha
      refine ⟨(a, { cls := .type "tuple", data := .seq #[.str (S e.1) t', .str (S e.2) t] }) :: tups, .cons (.tuple (vs := [.str (S e.1) t', .str (S e.2) t]) (n := 0) (.head _) (.cons (.str _ _) (.cons (.str _ _) .nil))) (D.mono fun _ h => .tail _ h), ?_⟩
      intro q hq
      rcases List.mem_cons.mp hq with rfl | hq
      · exact ⟨.head _, ha⟩
      · exact ⟨.tail _ (hT q hq).1, (hT q hq).2⟩

section
variable {prog : Program} {w : World} {A : Around} {E : Value → Shared → Prop} {s : Shared} {h₀ : Heap} {L v d : Addr} {m : PySem.Str → Option Value} {news : List (Addr × Obj)} {od : Obj} {kvs : List (PySem.Str × Value)} {es : List Pr} {Q : Value → Shared → Prop}
theorem list_items (hh : A.handled = none) (F : Fr h₀ L s.heap m) (N : News h₀ L s.heap news) (hvw : (v, { cls := .type "dict_items", data := .fields #[.ref d] }) ∈ news) (hmd : (d, od) ∈ news) (hod : od.IsDictOf (PySem.strKind prog w) kvs) (hes : KvOf kvs es) (hn : es.length ≤ 16777216)
    (h : ∀ B vs tups c h' tk, Fr h₀ L h' m → News h₀ L h' ((B, listOf (List.toArray vs) c) :: (tups ++ news)) → DatAll tups vs (es.map tupD) → Q (.ref B) { s with heap := h', toks := tk }) :
    wpAny (model prog w) A (call (.type "list") [.ref v]) Q E s := by
  obtain ⟨ep, hat⟩ := KdkAt.of hod
  have hkl : kvs.length = es.length := hes.length
  refine kdx_call (knd := PySem.strKind prog w) (kvs := kvs) (ep := ep) hh ⟨_, (N _ hvw).1, rfl, rfl⟩ (hat.dictAt (N _ hmd).1) (kdl_size (by (first | lia | omega))) fun h' tk acc c as hk hS hl hG hacc => ?_
  obtain ⟨tups, D, hT⟩ := tups_of (prog := prog) (w := w) (h := h') (all2_of_get hl fun j a hj => by
    obtain ⟨key, k, x, e1, e2, e3⟩ := hG.pairs j a hj
    exact ⟨(k, x), e1, key, e2, e3⟩) hes
  have ea : acc = (as.map Value.ref).toArray := by rw [← hacc, Array.toArray_toList]
  refine h _ _ tups c h' tk (F.keeps hk) (fun q hq => ?_) D
  rcases List.mem_cons.mp hq with rfl | hq
  · exact ⟨by rw [← ea]; exact hS, kdx_fresh F (Nat.le_refl _)⟩
  rcases List.mem_append.mp hq with hq | hq
  · exact ⟨(hT q hq).2, kdx_fresh F (Nat.le_of_lt (hG.above _ (hT q hq).1))⟩
  · exact ⟨hk _ _ (N q hq).1, (N q hq).2⟩
end

/-- what _law_read and _law_due give back -/
inductive Out
  | noEq
  | nothing
  | items (es : List Pr)
noncomputable def OutAt (fz : List (Addr × Obj)) (v : Value) : Out → Prop
  | .noEq => ∃ t, v = .str (PySem.Str.ofString "no =") t
  | .nothing => ∃ t, v = .str (PySem.Str.ofString "nothing behind =") t
  | .items es => ∃ a vs n, v = .ref a ∧ (a, listOf (List.toArray vs) n) ∈ fz ∧ DatAll fz vs (es.map tupD)
theorem OutAt.more {fz fz' : List (Addr × Obj)} {v : Value} {o : Out} (h : OutAt fz v o) (k : ∀ q ∈ fz, q ∈ fz') : OutAt fz' v o := by
  cases o with
  | noEq => exact h
  | nothing => exact h
  | items es =>
    obtain ⟨a, vs, n, e, m, r⟩ := h
    exact ⟨a, vs, n, e, k _ m, r.mono k⟩
noncomputable def OutOk : Out → Prop
  | .items es => ∀ e ∈ es, (∀ c ∈ e.1, c < 1114112) ∧ ∀ c ∈ e.2, c < 1114112
  | _ => True
theorem tups_ok {es : List Pr} (h : ∀ e ∈ es, (∀ c ∈ e.1, c < 1114112) ∧ ∀ c ∈ e.2, c < 1114112) : ∀ d ∈ es.map tupD, kqdOk 8 d = true := by
  intro d hd
  obtain ⟨e, he, rfl⟩ := List.mem_map.mp hd
  show ([Dat.str (S e.1), Dat.str (S e.2)].all (kqdOk 7)) = true
  simp only [List.all_cons, List.all_nil, Bool.and_true, kqdOk, strOk_S (h e he).1, strOk_S (h e he).2]
section
variable {prog : Program} {w : World} {A : Around} {E : Value → Shared → Prop} {s : Shared} {h₀ : Heap} {L : Addr} {news f1 f2 : List (Addr × Obj)} {v1 v2 : Value} {o : Out} {Q : Value → Shared → Prop}
theorem out_eq (N : News h₀ L s.heap news) (h1 : OutAt f1 v1 o) (s1 : ∀ q ∈ f1, q ∈ news) (h2 : OutAt f2 v2 o) (s2 : ∀ q ∈ f2, q ∈ news) (ho : OutOk o) (hu : A.units + 64 < cLine) (h : Q (.bool true) s) : wpAny (model prog w) A (compareOp .Eq v1 v2) Q E s := by
  cases o with
  | noEq =>
    obtain ⟨t1, rfl⟩ := h1
    obtain ⟨t2, rfl⟩ := h2
    exact eq_str (by simpa using h)
  | nothing =>
    obtain ⟨t1, rfl⟩ := h1
    obtain ⟨t2, rfl⟩ := h2
    exact eq_str (by simpa using h)
  | items es =>
    obtain ⟨a, vs, n, rfl, ma, Da⟩ := h1
    obtain ⟨b, ws, k, rfl, mb, Db⟩ := h2
    exact kqd_eq N (s1 _ ma) rfl rfl Da s1 (s2 _ mb) rfl rfl Db s2 (tups_ok ho) (tups_ok ho) hu (by simpa using h)
theorem out_ne (N : News h₀ L s.heap news) (h1 : OutAt f1 v1 o) (s1 : ∀ q ∈ f1, q ∈ news) (h2 : OutAt f2 v2 o) (s2 : ∀ q ∈ f2, q ∈ news) (ho : OutOk o) (hu : A.units + 64 < cLine) (h : Q (.bool false) s) : wpAny (model prog w) A (compareOp .NotEq v1 v2) Q E s := by
  cases o with
  | noEq =>
    obtain ⟨t1, rfl⟩ := h1
    obtain ⟨t2, rfl⟩ := h2
    exact ne_str (by simpa using h)
  | nothing =>
    obtain ⟨t1, rfl⟩ := h1
    obtain ⟨t2, rfl⟩ := h2
    exact ne_str (by simpa using h)
  | items es =>
    obtain ⟨a, vs, n, rfl, ma, Da⟩ := h1
    obtain ⟨b, ws, k, rfl, mb, Db⟩ := h2
    exact kqd_ne N (s1 _ ma) rfl rfl Da s1 (s2 _ mb) rfl rfl Db s2 (tups_ok ho) (tups_ok ho) hu (by simpa using h)
end
end Mine

end

section
open PySem PySem.W PyProof.Rows PySem.Calls
set_option maxRecDepth 100000
set_option maxHeartbeats 40000000
set_option linter.unusedVariables false
namespace Mine
theorem fillD : Challenge.rw_nb0191_01 = Challenge.rw_nb0191_01 ∧ hd.heap_39 = hd.heap_39 := by k_fill; exact ⟨rfl, rfl⟩


noncomputable def dueF (strict : Bool) : List Pr → List Par → Out
  | es, [] => .items es
  | _, (_, none) :: _ => .noEq
  | es, (k, some v) :: r => if v = [] ∧ strict = true then .nothing else dueF strict (put es k v) r
noncomputable def dueR (strict : Bool) (ps : List Par) : Out := dueF strict [] ps

noncomputable def DueJ (prog : Program) (w : World) (strict : Bool) (ps : List Par) (d : Addr) (i : Nat) (m : PySem.Str → Option Value) (news : List (Addr × Obj)) : Prop :=
  ∃ es kvs od, news = [(d, od)] ∧ od.IsDictOf (PySem.strKind prog w) kvs ∧ KvOf kvs es ∧ dueF strict es (ps.drop i) = dueR strict ps ∧ es.length ≤ i ∧ m (PySem.Str.ofString "table") = some (.ref d) ∧ m (PySem.Str.ofString "strict") = some (.bool strict)

theorem Turn.ret {h₀ : Heap} {L : Addr} {q : Addr × Obj} {Jn : (PySem.Str → Option Value) → List (Addr × Obj) → Prop} {s s₂ : Shared} {Q : Flow → Shared → Prop} {v : Value} (h : Q (.ret v) s₂) : Turn h₀ L q Jn s Q (.ret v) s₂ := h
theorem due_call {prog : Program} {w : World} {base h₀ : Heap} {env : Env} {L : Addr} {m : PySem.Str → Option Value} {news : List (Addr × Obj)} {s : Shared} {p : Program} {loose : List PySem.Str} {mean : ExcName → Option Value} {mg mb : PySem.Str → Option Value} {Q : Value → Shared → Prop} {E : Value → Shared → Prop}
  {l : Addr} {nl : Nat} {rv : List Value} {ps : List Par} {strict : Bool}
  (B : Below callerA base [] h₀) (F : Fr h₀ L s.heap m) (X : (hd.heap_39 w.params).In h₀) (N : News h₀ L s.heap news) (T : Top p loose mean mg mb h₀) (hf : env.frame = some L) (hk : env.scope.kind = .function)
  (hl : s.heap.get? l = some (listOf rv.toArray nl)) (hR : All2 (TupAt s.heap) rv ps) (hlen : ps.length ≤ 100) (hpl : ∀ p ∈ ps, p.1.length ≤ 100 ∧ ∀ v, p.2 = some v → v.length ≤ 100)
  (hQ : ∀ v fz h' tk, OutAt fz v (dueR strict ps) → Fr h₀ L h' m → News h₀ L h' (fz ++ news) → Q v { s with heap := h', toks := tk }) :
  wpAny (model prog w) (callerA.deeper env) (call (.ref 125) [.ref l, .bool strict] []) Q E s := by
  w_on
  w_strict (
  (refine' call_fz (live := []) (rest := news) ?k1 ?k2 ?k3 ?k4 ?k5 ?kA ?kF ?kK ?k6 ?k7 ?k8 ?k9 ?kB ?kD ?_ ?c2 ?c3 ?c4 ?c5; (case kA => exact rfl); (case kF => exact hf); (case kK => exact hk); (case k1 => k_asm); (case k2 => k_asm); (case k3 => k_asm); (case k4 => k_asm); (case k5 => k_asm); (case k6 => k_is); (case k7 => k_is); (case k8 => k_room); (case k9 => first | exact BindsTo.of_eq rfl | exact binds_K (by k_in) rfl (by k_is) rfl rfl rfl | fail "k_enter: no rule for these arguments"); (case c5 => decide); (case kB => exact locs rfl); (case c2 => exact rfl); (case c3 => exact rfl); (case c4 => exact rfl); (case kD => exact fun _ _ _ h => nomatch h); k_whole; intro g' L' h' hkeep st' F' N' l' B' X' T'; (try dsimp only); (try k_lift B'); (try k_fold))
  have gl : g'.get? l = some (listOf rv.toArray nl) := hkeep _ _ (fun _ h => nomatch h) hl
  have hall : All2 (TupAt g') rv ps := hR.mono fun v p hv => by
    obtain ⟨a, t1, t2, e, ha⟩ := hv
    exact ⟨a, t1, t2, e, hkeep _ _ (fun _ h => nomatch h) ha⟩
  clear N F
  (repeat' ((fail_if_success ((first | (with_reducible show Turn _ _ _ _ _ _ _ _) | (with_reducible show Back _ _ _ _ _ _ _ _ _) | (with_reducible show wpAny _ _ (setItem _ _ _) _ _ _) | (with_reducible show wpAny _ _ (call (Value.builtin "dict.items") _ _) _ _ _) | (with_reducible show wpAny _ _ (call (Value.type "list") _ _) _ _ _) | (with_reducible show wpAny _ _ (exec (Stmt.For _ _ _ _ _) _) _ _ _) | (with_reducible show wpAny _ _ (exec (Stmt.While _ _ _ _) _) _ _ _) | (with_reducible show wpAny _ _ (eval (PySem.Expr.ListComp _ _ _ _) _) _ _ _)))); first | (k_unfold; (try dsimp only)) | walk1 | (dsimp only; walk1)))
  rename Fr _ _ _ _ => F1
  rename News _ _ _ _ => N1
  rename Obj.IsDictOf (PySem.strKind _ _) _ _ => hD0
  rename (_ == sysModules) = false => hsys
  rename_i d _ od0 _ _ _ _ _
  refine For_T ?_ (by intro _; rfl)
  walk1
  refine iter_listT (hE := by passes_own) (src := []) (vs := rv) (k := nl) (DueJ prog w strict ps d) rfl (.inl gl) (fun _ _ _ _ p (h : p ∈ []) => nomatch h) F1 N1 ⟨[], [], od0, rfl, hD0, .nil, rfl, Nat.le_refl _, rfl, rfl⟩ ?turn ?done
  case turn =>
    rintro i v m₁ news₁ I oI h tk hi ⟨es, kvs, od, rfl, hD, hkv, hdue, hesl, mt, mst⟩ hoff F2 N2
    obtain ⟨pr, hpr, a, t1, t2, rfl, ga⟩ := hall.get hi
    have hT : IsTup h a #[.str (S pr.1) t1, valOf pr.2 t2] := ⟨_, F2.keep _ _ ga, rfl, _, rfl⟩
    have F3 := fr_see [(PySem.Str.ofString "table", .ref d), (PySem.Str.ofString "strict", .bool strict)] F2 (by
      intro p hp
      simp only [List.mem_cons, List.not_mem_nil, or_false] at hp
      rcases hp with rfl | rfl
      · exact mt
      · exact mst)
    clear F2 mt mst F1 N1
    have hdI : @Ne Nat d I := hoff _ (.head _)
    have hpr2 := hpl _ (List.mem_of_getElem? hpr)
    have hdrop : ps.drop i = pr :: ps.drop (i + 1) := by
      obtain ⟨hil, rfl⟩ := List.getElem?_eq_some_iff.mp hpr
      exact List.drop_eq_getElem_cons hil
    have hilt : i < ps.length := (List.getElem?_eq_some_iff.mp hpr).1
    rw [hdrop] at hdue
    simp only [List.cons_append, List.nil_append] at N2
    obtain ⟨key, val⟩ := pr
    cases val with
    | none =>
      dsimp only [valOf] at hT ga
      (repeat' ((fail_if_success ((first | (with_reducible show Turn _ _ _ _ _ _ _ _) | (with_reducible show Back _ _ _ _ _ _ _ _ _) | (with_reducible show wpAny _ _ (setItem _ _ _) _ _ _) | (with_reducible show wpAny _ _ (call (Value.builtin "dict.items") _ _) _ _ _) | (with_reducible show wpAny _ _ (call (Value.type "list") _ _) _ _ _) | (with_reducible show wpAny _ _ (exec (Stmt.For _ _ _ _ _) _) _ _ _) | (with_reducible show wpAny _ _ (exec (Stmt.While _ _ _ _) _) _ _ _) | (with_reducible show wpAny _ _ (eval (PySem.Expr.ListComp _ _ _ _) _) _ _ _)))); first | (k_unfold; (try dsimp only)) | walk1 | (dsimp only; walk1)))
      rename Fr _ _ _ _ => F7
      refine Turn.ret ?_
      show Back _ _ _ _ _ _ _ _ _
      refine ⟨_, [], F7, News.nil, fun F8 N8 => hQ _ [] _ _ ?_ F8 N8⟩
      rw [← hdue]
      exact ⟨_, rfl⟩
    | some v =>
      dsimp only [valOf] at hT ga
      have hvl : v.length ≤ 100 := hpr2.2 v rfl
      have hkl : key.length ≤ 100 := hpr2.1
      have hvS : (S v).length ≤ 100 := by rw [S_length]; exact hvl
      have hkS : (S key).length ≤ 100 := by rw [S_length]; exact hkl
      (repeat' ((fail_if_success ((first | (with_reducible show Turn _ _ _ _ _ _ _ _) | (with_reducible show Back _ _ _ _ _ _ _ _ _) | (with_reducible show wpAny _ _ (setItem _ _ _) _ _ _) | (with_reducible show wpAny _ _ (call (Value.builtin "dict.items") _ _) _ _ _) | (with_reducible show wpAny _ _ (call (Value.type "list") _ _) _ _ _) | (with_reducible show wpAny _ _ (exec (Stmt.For _ _ _ _ _) _) _ _ _) | (with_reducible show wpAny _ _ (exec (Stmt.While _ _ _ _) _) _ _ _) | (with_reducible show wpAny _ _ (eval (PySem.Expr.ListComp _ _ _ _) _) _ _ _)))); first | (k_unfold; (try dsimp only)) | walk1 | (dsimp only; walk1)))
      · rename (S v == PySem.Str.ofString "") = true => hv0
        rename strict = true => hst
        rename Fr _ _ _ _ => F7
        refine Turn.ret ?_
        show Back _ _ _ _ _ _ _ _ _
        refine ⟨_, [], F7, News.nil, fun F8 N8 => hQ _ [] _ _ ?_ F8 N8⟩
        rw [ofStr_nil, S_eq_beq] at hv0
        rw [← hdue, dueF, if_pos ⟨by simpa using hv0, hst⟩]
        exact ⟨_, rfl⟩
      · rename strict = false => hst
        rename Fr _ _ _ _ => F7
        rename News _ _ _ _ => N7
        refine kda_set (knd := PySem.strKind prog w) (k := S key) F7 N7 (.head fun p hp => by rw [List.mem_singleton.mp hp]; exact hdI.symm) hD (strKind_is _ _ _ _) (by have : kvs.length = es.length := hkv.length; rw [sizeLine_eq]; (first | lia | omega)) ?_
        intro h8 od8 F8 N8 hD8
        (repeat' ((fail_if_success ((first | (with_reducible show Turn _ _ _ _ _ _ _ _) | (with_reducible show Back _ _ _ _ _ _ _ _ _) | (with_reducible show wpAny _ _ (setItem _ _ _) _ _ _) | (with_reducible show wpAny _ _ (call (Value.builtin "dict.items") _ _) _ _ _) | (with_reducible show wpAny _ _ (call (Value.type "list") _ _) _ _ _) | (with_reducible show wpAny _ _ (exec (Stmt.For _ _ _ _ _) _) _ _ _) | (with_reducible show wpAny _ _ (exec (Stmt.While _ _ _ _) _) _ _ _) | (with_reducible show wpAny _ _ (eval (PySem.Expr.ListComp _ _ _ _) _) _ _ _)))); first | (k_unfold; (try dsimp only)) | walk1 | (dsimp only; walk1)))
        refine Turn.next (news' := [(d, od8)]) F8 N8 (fun p hp => by rw [List.mem_singleton.mp hp]; exact hdI) ⟨_, _, od8, rfl, hD8, hkv.put key v t2, ?_, ?_, rfl, rfl⟩
        · rw [← hdue, dueF, if_neg]
          rintro ⟨rfl, hs⟩
          rw [hst] at hs; cases hs
        · have := put_len es key v; (first | lia | omega)
      · rename (S v == PySem.Str.ofString "") = false => hv0
        rw [ofStr_nil, S_eq_beq] at hv0
        rename Fr _ _ _ _ => F7
        rename News _ _ _ _ => N7
        refine kda_set (knd := PySem.strKind prog w) (k := S key) F7 N7 (.head fun p hp => by rw [List.mem_singleton.mp hp]; exact hdI.symm) hD (strKind_is _ _ _ _) (by have : kvs.length = es.length := hkv.length; rw [sizeLine_eq]; (first | lia | omega)) ?_
        intro h8 od8 F8 N8 hD8
        (repeat' ((fail_if_success ((first | (with_reducible show Turn _ _ _ _ _ _ _ _) | (with_reducible show Back _ _ _ _ _ _ _ _ _) | (with_reducible show wpAny _ _ (setItem _ _ _) _ _ _) | (with_reducible show wpAny _ _ (call (Value.builtin "dict.items") _ _) _ _ _) | (with_reducible show wpAny _ _ (call (Value.type "list") _ _) _ _ _) | (with_reducible show wpAny _ _ (exec (Stmt.For _ _ _ _ _) _) _ _ _) | (with_reducible show wpAny _ _ (exec (Stmt.While _ _ _ _) _) _ _ _) | (with_reducible show wpAny _ _ (eval (PySem.Expr.ListComp _ _ _ _) _) _ _ _)))); first | (k_unfold; (try dsimp only)) | walk1 | (dsimp only; walk1)))
        refine Turn.next (news' := [(d, od8)]) F8 N8 (fun p hp => by rw [List.mem_singleton.mp hp]; exact hdI) ⟨_, _, od8, rfl, hD8, hkv.put key v t2, ?_, ?_, rfl, rfl⟩
        · rw [← hdue, dueF, if_neg]
          rintro ⟨rfl, hs⟩
          simp at hv0
        · have := put_len es key v; (first | lia | omega)
  case done =>
    rintro m₁ news₁ h tk ⟨es, kvs, od, rfl, hD, hkv, hdue, hesl, mt, mst⟩ F2 N2
    have F3 := fr_see [(PySem.Str.ofString "table", .ref d)] F2 (by
      intro p hp
      rw [List.mem_singleton.mp hp]
      exact mt)
    clear F2 mt mst F1 N1
    replace F3 : Fr g' L' _ _ := F3
    replace N2 : News g' L' _ _ := N2
    have hrl : rv.length = ps.length := hall.length
    rw [hrl, List.drop_length] at hdue
    rw [hrl] at hesl
    dsimp only
    (repeat' ((fail_if_success ((first | (with_reducible show Turn _ _ _ _ _ _ _ _) | (with_reducible show Back _ _ _ _ _ _ _ _ _) | (with_reducible show wpAny _ _ (setItem _ _ _) _ _ _) | (with_reducible show wpAny _ _ (call (Value.builtin "dict.items") _ _) _ _ _) | (with_reducible show wpAny _ _ (call (Value.type "list") _ _) _ _ _) | (with_reducible show wpAny _ _ (exec (Stmt.For _ _ _ _ _) _) _ _ _) | (with_reducible show wpAny _ _ (exec (Stmt.While _ _ _ _) _) _ _ _) | (with_reducible show wpAny _ _ (eval (PySem.Expr.ListComp _ _ _ _) _) _ _ _)))); first | (k_unfold; (try dsimp only)) | walk1 | (dsimp only; walk1)))
    refine kdx_view (knd := PySem.strKind prog w) F3 N2 (.head _) hD hsys ?_
    intro D4 h4 F4 N4 l4
    (repeat' ((fail_if_success ((first | (with_reducible show Turn _ _ _ _ _ _ _ _) | (with_reducible show Back _ _ _ _ _ _ _ _ _) | (with_reducible show wpAny _ _ (setItem _ _ _) _ _ _) | (with_reducible show wpAny _ _ (call (Value.builtin "dict.items") _ _) _ _ _) | (with_reducible show wpAny _ _ (call (Value.type "list") _ _) _ _ _) | (with_reducible show wpAny _ _ (exec (Stmt.For _ _ _ _ _) _) _ _ _) | (with_reducible show wpAny _ _ (exec (Stmt.While _ _ _ _) _) _ _ _) | (with_reducible show wpAny _ _ (eval (PySem.Expr.ListComp _ _ _ _) _) _ _ _)))); first | (k_unfold; (try dsimp only)) | walk1 | (dsimp only; walk1)))
    refine list_items rfl F4 N4 (.head _) (.tail _ (.head _)) hD hkv (by (first | lia | omega)) ?_
    intro B5 vs5 tups5 c5 h5 tk5 F5 N5 D5
    (repeat' ((fail_if_success ((first | (with_reducible show Turn _ _ _ _ _ _ _ _) | (with_reducible show Back _ _ _ _ _ _ _ _ _) | (with_reducible show wpAny _ _ (setItem _ _ _) _ _ _) | (with_reducible show wpAny _ _ (call (Value.builtin "dict.items") _ _) _ _ _) | (with_reducible show wpAny _ _ (call (Value.type "list") _ _) _ _ _) | (with_reducible show wpAny _ _ (exec (Stmt.For _ _ _ _ _) _) _ _ _) | (with_reducible show wpAny _ _ (exec (Stmt.While _ _ _ _) _) _ _ _) | (with_reducible show wpAny _ _ (eval (PySem.Expr.ListComp _ _ _ _) _) _ _ _)))); first | (k_unfold; (try dsimp only)) | walk1 | (dsimp only; walk1)))
    show Back _ _ _ _ _ _ _ _ _
    refine ⟨_, (B5, listOf vs5.toArray c5) :: tups5, F5, news_sub N5 fun p hp => ?_, fun F6 N6 => hQ _ _ _ _ ?_ F6 N6⟩
    · rcases List.mem_cons.mp hp with rfl | hp
      · exact .head _
      · exact .tail _ (List.mem_append_left _ hp)
    · rw [← hdue]
      exact ⟨_, _, _, rfl, .head _, D5.mono fun _ h => .tail _ h⟩)
end Mine

end

section
open PySem PySem.W PyProof.Rows PySem.Calls
set_option maxRecDepth 100000
set_option maxHeartbeats 40000000
set_option linter.unusedVariables false
namespace Mine
theorem fillK : Challenge.rw_nb0191_01 = Challenge.rw_nb0191_01 ∧ hd.heap_39 = hd.heap_39 := by k_fill; exact ⟨rfl, rfl⟩

section
variable {prog : Program} {w : World} {A A₀ : Around} {E : Value → Shared → Prop} {s : Shared} {K : Frag} {C L : Addr} {h₀ base : Heap} {m mg mb : PySem.Str → Option Value} {rest : List (Addr × Obj)} {p : Program} {loose : List PySem.Str} {mean : ExcName → Option Value} {Q : Value → Shared → Prop}
  {env : Env} {outer : List Env} {name qual : PySem.Str} {params : Arguments} {body : List Stmt} {scope : Scope} {dV kV doc pm cdv ct oc : Value} {an od : Option Addr} {osl : Array (Option Value)} {f : Addr} {pos : List Value} {kw : List (PySem.Str × Value)} {binds : List (PySem.Str × Value)}
/-- a call of a def that may raise; all that stands is frozen -/
theorem call_fzG
    (B : Below A₀ base outer h₀) (F : Fr h₀ L s.heap m) (X₀ : K.In h₀) (N : News h₀ L s.heap rest) (T : Top p loose mean mg mb h₀) (hA : A.frames = some (env :: outer)) (hf : env.frame = some L) (hke : env.scope.kind = .function)
    (ho : K.lookup f = some ⟨oc, od, .func (fnOf name qual params body scope dV kV doc pm an cdv ct), osl⟩) (hcd : codeIn K cdv qual = true) (hroom : A.depth < recursionLimit)
    (hbind : BindsTo s (fnOf name qual params body scope dV kV doc pm an cdv ct) ⟨pos, kw⟩ binds) (hloc : ∀ y ∈ binds, scope.names.lookup y.1 = some .local)
    (h : ∀ g L' h₁, (∀ b o, s.heap.get? b = some o → g.get? b = some o) → Fr h₀ L g m → News h₀ L g rest → Fr g L' h₁ (fun y => binds.reverse.lookup y) → News g L' h₁ [] → Below A base (env :: outer) g → K.In g → Top p loose mean mg mb g →
      wpAny (model prog w) (A.deeper (envOf qual scope L' f cdv)) (execs body (envOf qual scope L' f cdv))
        (Back h₀ L m g L' rest Q)
        (fun e s' => wpAny (model prog w) (A.deeper (envOf qual scope L' f cdv)) (leaving (envOf qual scope L' f cdv) e) (fun _ s'' => E e s'') (fun e' s'' => E e' s'') s')
        { s with heap := h₁, toks := s.toks + binds.length })
    (hco : scope.isCoroutine = false) (hgen : scope.isGenerator = false) (hk : scope.kind = .function)
    (hcell : ∀ x ∈ scope.names, x.2 ≠ .cell) : wpAny (model prog w) A (call (.ref f) pos kw) Q E s := by
  refine wpAny_call ?_
  obtain ⟨FG, BG, st, lv⟩ := groundX (R := fun r s' => match r with | .ok (.ret v) => Q v s' | .ok _ => False | .error e => E e s') B F (News.nil (h₀ := h₀) (h := s.heap) (L := L)) hA hf hke
  refine codeAny_call_def (fd := fnOf name qual params body scope dV kV doc pm an cdv ct) (body := body) (binds := binds) hroom ((X₀.keeps F.keep) _ _ ho) rfl (T.nolimit.keeps F.keep) (codeRec_of (X₀.keeps F.keep) hcd) rfl hbind hcell hloc (fun h₁ hns hk₁ => ?_) hco hgen hk
  refine wpAny_mono (h s.heap s.heap.objs.size h₁ (fun _ _ e => e) F N ⟨hns, hk₁, Nat.le_refl _⟩ News.nil BG (X₀.keeps st) (T.keeps st)) (fun fl s' hl => ?_) fun _ _ y => y
  obtain ⟨m', news', F', N', k⟩ := hl
  refine lv _ _ ⟨_, m', news', F', N', fun F2 N2 => k F2 fun p hp => ?_⟩
  rcases List.mem_append.mp hp with hp | hp
  · exact N2 p hp
  · have z := N p hp
    exact ⟨F'.keep _ _ z.1, z.2⟩
end

/-- an element of a row: a key, or a key and what stands behind = -/
noncomputable def eltOf (r : Par) : List Nat := match r.2 with
  | none => r.1
  | some v => r.1 ++ 61 :: v
noncomputable def unq (v : List Nat) : List Nat := if v.getD 0 0 = 34 ∧ v.getD (v.length - 1) 0 = 34 then (v.drop 1).take (v.length - 2) else v
noncomputable def readF : List Pr → List Par → Out
  | es, [] => .items es
  | _, (_, none) :: _ => .noEq
  | es, (k, some v) :: r => if v = [] then .nothing else readF (put es k (unq v)) r
noncomputable def readR (rs : List Par) : Out := readF [] rs

section
open PySem.Builtin PySem.Builtin.Str
theorem at_one {l : List Nat} {c i : Nat} : StrLaws.At (S l) (S [c]) (S l).length i ↔ l[i]? = some c := by
  unfold StrLaws.At
  rw [StrLaws.subAt_eq, S_list, S_list, show (S [c]).length = 1 from rfl, S_length]
  constructor
  · rintro ⟨h1, h2⟩
    have hi : i < l.length := by (first | lia | omega)
    have h3 : List.take 1 (List.drop i l) = [c] := by simpa using h2
    rw [List.drop_eq_getElem_cons hi, List.take_succ_cons, List.take_zero] at h3
    rw [List.getElem?_eq_getElem hi, List.head_eq_of_cons_eq h3]
  · intro h
    obtain ⟨hi, e⟩ := List.getElem?_eq_some_iff.mp h
    refine ⟨by (first | lia | omega), ?_⟩
    rw [List.drop_eq_getElem_cons hi, e]
    simp
theorem limit_one (x : PySem.Str) : limitOf x 1 = 1 := rfl
theorem split_no {k : List Nat} (h : 61 ∉ k) : Txt.splitMax (S k) (S [61]) 1 = [S k] := by
  unfold Txt.splitMax
  rw [limit_one]
  split
  · rfl
  · split
    · rfl
    · rename_i h1 h2
      exfalso
      apply h2
      rcases StrLaws.occ_head (S k) (S [61]) 1 (by decide) with ⟨e, _⟩ | ⟨i, r, e, hi, _⟩
      · rw [e]; rfl
      · exact absurd (List.mem_of_getElem? (at_one.mp hi)) h
theorem kind_pos (x : PySem.Str) : 1 ≤ Builtin.Str.strKind x := by
  unfold Builtin.Str.strKind
  split
  · exact Nat.le_refl _
  · split <;> decide
theorem occ_eq1 {k v : List Nat} (h : 61 ∉ k) : occurrences (S (k ++ 61 :: v)) (S [61]) 0 (S (k ++ 61 :: v)).length 1 = [k.length] := by
  have hat : StrLaws.At (S (k ++ 61 :: v)) (S [61]) (S (k ++ 61 :: v)).length k.length := at_one.mpr (by rw [List.getElem?_append_right (Nat.le_refl _)]; simp)
  have hlen := StrLaws.occ_length_le (S (k ++ 61 :: v)) (S [61]) 0 (S (k ++ 61 :: v)).length 1
  rcases StrLaws.occ_head (S (k ++ 61 :: v)) (S [61]) 1 (by decide) with ⟨e, hn⟩ | ⟨i, r, e, hi, hn⟩
  · exact absurd hat (hn _)
  · have hr : r = [] := by
      rw [e] at hlen
      simp at hlen
      exact hlen
    rw [e, hr]
    congr 1
    rcases Nat.lt_trichotomy i k.length with q | q | q
    · exfalso
      have := at_one.mp hi
      rw [List.getElem?_append_left q] at this
      exact h (List.mem_of_getElem? this)
    · exact q
    · exact absurd hat (hn _ q)
theorem sub_S (l : List Nat) (a b : Nat) : strSub (S l) a b = S ((l.drop a).take (b - a)) := by
  rw [← ext_S]; rfl
theorem split_eq {k v : List Nat} (h : 61 ∉ k) : Txt.splitMax (S (k ++ 61 :: v)) (S [61]) 1 = [S k, S v] := by
  unfold Txt.splitMax
  rw [limit_one, occ_eq1 h, if_neg, if_neg (by simp), StrLaws.partsBetween_eq]
  · show [strSub (S (k ++ 61 :: v)) 0 k.length, strSub (S (k ++ 61 :: v)) (k.length + 1) (S (k ++ 61 :: v)).length] = _
    rw [sub_S, sub_S, S_length]
    have e1 : ((k ++ 61 :: v).drop 0).take (k.length - 0) = k := by simp
    have e2 : ((k ++ 61 :: v).drop (k.length + 1)).take ((k ++ 61 :: v).length - (k.length + 1)) = v := by
      rw [← List.drop_drop, List.drop_left]
      simp
      exact List.take_of_length_le (by (first | lia | omega))
    rw [e1, e2]
  · have h1 : Builtin.Str.strKind (S [61]) = 1 := by decide +kernel
    have h2 := kind_pos (S (k ++ 61 :: v))
    rw [h1, S_length, show (S [61]).length = 1 from rfl]
    simp
    (first | lia | omega)
end

section
variable {prog : Program} {w : World} {A : Around} {E : Value → Shared → Prop} {s : Shared}
theorem item_str_none {value slice : PySem.Expr} {t u : Tok} {Q : Value → Shared → Prop} (hA : A.handled = none)
    (hE : ∀ h' tk e, Heap.NewExc s.heap h' e "IndexError" → E (.ref e) { s with heap := h', toks := tk })
    (hs : subscripted slice false (.str (S []) t) (.int 0 u) = operate [.str (S []) t, .int 0 u] (getItem (.str (S []) t) (.int 0 u)))
    (ht : ∀ r, letTemporaryGo value (.str (S []) t) r = pure ()) :
    wpAny (model prog w) A (subscriptTail value slice (.str (S []) t) (.int 0 u)) Q E s :=
  tail_of_ItemOn ⟨"str", _, PySem.F.slot_str_getitem.lookup, typeIs_str _ _ _, getItem_meets (typeIs_str _ _ _) (by decide) PySem.F.slot_str_getitem PySem.F.entry_str_getitem (PySem.F.args_str_getitem_2 _ _) (raises_str_getitem (S []) 0 t u (by decide) rfl) ⟨hA, hE⟩⟩ hs ht
theorem unpack_one {l : Addr} {x : Value} {Q : List Value → Shared → Prop} (hh : A.handled = none) (hl : s.heap.IsList l #[x])
    (hE : ∀ h' tk e h₁, (∀ b o, s.heap.get? b = some o → h₁.get? b = some o) → Heap.NewExc h₁ h' e "ValueError" → E (.ref e) { s with heap := h', toks := tk }) : wpAny (model prog w) A (unpackItems (.ref l) 2 none) Q E s := by
  have hlt : l ≠ s.heap.objs.size := by obtain ⟨o, ho, _⟩ := hl; exact Nat.ne_of_lt (Heap.lt_size ho)
  unfold unpackItems
  refine wpAny_bind ?_
  unfold notIterableAtAll
  refine wpAny_bind (wpAny_specialOf hl.typeIs slot_list_iter.lookup ?_)
  refine wpAny_pure ?_
  simp only [Bool.false_eq_true, if_false]
  refine wpAny_bind (wpAny_holding (wpAny_pyIter_list hl ?_))
  refine wpAny_bind (wpAny_holding ?_)
  show wpAny _ _ (pyNext (.ref s.heap.objs.size) >>= _) _ E _
  refine wpAny_bind (wpAny_pyNext_list_item (l := l) (i := 0) (items := #[x]) (x := x) ⟨_, Heap.get?_push_size _ rfl, rfl, rfl⟩ (hl.push _) rfl fun h₁ hit₁ hs₁ => ?_)
  refine wpAny_bind (wpAny_holding ?_)
  show wpAny _ _ (pyNext (.ref s.heap.objs.size) >>= _) _ E _
  refine wpAny_bind (wpAny_pyNext_list_end hh hit₁ ((hl.push _).extBut hs₁.extBut hlt) (by simp) fun h₂ he₂ => ?_)
  refine wpAny_pure (wpAny_pure ?_)
  simp only [List.length_cons, List.length_nil]
  refine wpAny_bind (wpAny_rule ?_)
  have keep : ∀ b o, s.heap.get? b = some o → h₂.get? b = some o := fun b o e => he₂ b o (Nat.ne_of_lt (Heap.lt_size e)) (hs₁.extBut b o (Nat.ne_of_lt (Heap.lt_size e)) (Heap.get?_push_of_some _ e))
  refine wpAny_bind (wpAny_raiseErrorMade plainExc_ValueError hh (fun h' tk e x => hE h' tk e h₂ keep x) (by decide +kernel))
theorem assign_one {elts : List PySem.Expr} {k : Nat} {pos : Pos} {env : Env} {l : Addr} {x : Value} {Q : Unit → Shared → Prop} (hh : A.handled = none) (hl : s.heap.IsList l #[x]) (hn : (assignEach elts env).length = 2)
    (hstar : (assignEach elts env).findIdx? (·.1) = none)
    (hE : ∀ h' tk e h₁, (∀ b o, s.heap.get? b = some o → h₁.get? b = some o) → Heap.NewExc h₁ h' e "ValueError" → E (.ref e) { s with heap := h', toks := tk }) :
    wpAny (model prog w) A (assign (.Tuple elts k pos) env (.ref l)) Q E s := by
  rw [assign_Tuple]
  refine wpAny_bind (wpAny_standAt ?_)
  unfold unpack
  rw [hn, hstar]
  exact wpAny_bind (wpAny_holding (unpack_one hh hl hE))
end


noncomputable def KeqJ (prog : Program) (w : World) (rs : List Par) (d : Addr) (i : Nat) (m : PySem.Str → Option Value) (news : List (Addr × Obj)) : Prop :=
  ∃ es kvs od, news = [(d, od)] ∧ od.IsDictOf (PySem.strKind prog w) kvs ∧ KvOf kvs es ∧ readF es (rs.drop i) = readR rs ∧ es.length ≤ i ∧ m (PySem.Str.ofString "parsed") = some (.ref d)

/-- what comes of parse_keqv_list -/
noncomputable def KeqE (base : Heap) (envs : List Env) (h₀ : Heap) (L : Addr) (m : PySem.Str → Option Value) (s : Shared) (E : Value → Shared → Prop) (cls : String) : Prop :=
  ∀ e g h' tk, (∀ b o, s.heap.get? b = some o → g.get? b = some o) → Fr h₀ L g m → RaisedSN base g envs e (.type cls) [] h' → g.UpToSlots h' → E (.ref e) { s with heap := h', toks := tk }

theorem item_last {v : List Nat} (h : 0 < v.length) : Txt.item (S v) (-1) = S [v.getD (v.length - 1) 0] := by
  unfold Txt.item Txt.charAt
  have e : seqIndex? (-1) (S v).length = some (v.length - 1) := by
    unfold seqIndex?
    rw [S_length]
    simp
    (first | lia | omega)
  rw [e]
  simp [S, List.getD_eq_getElem?_getD]
theorem slice_mid {v : List Nat} (h : 2 ≤ v.length) : Txt.slice (S v) (some 1) (some (-1)) = S ((v.drop 1).take (v.length - 2)) := by
  show StrLaws.sliceText (S v) (some 1) (some (-1)) = _
  rw [StrLaws.sliceText_neg_hi _ _ (by decide) (by rw [S_length]; (first | lia | omega)), S_length, StrLaws.sliceText_plain ⟨by decide, by (first | lia | omega), by rw [S_list]; (first | lia | omega)⟩, S_list]
  show PySem.Str.mk _ = PySem.Str.mk _
  congr 3
  (first | lia | omega)

theorem two_at_least {v : List Nat} (h0 : v ≠ []) (h1 : v ≠ [34]) (h : decide (v.getD 0 0 = 34) = true) : 2 ≤ v.length := by
  rcases v with _ | ⟨c, _ | ⟨d, l⟩⟩
  · exact absurd rfl h0
  · exact absurd (congrArg (fun x => [x]) (of_decide_eq_true h : c = 34)) h1
  · exact Nat.le_add_left _ _

theorem keq_call {prog : Program} {w : World} {base h₀ : Heap} {env env2 : Env} {L : Addr} {m : PySem.Str → Option Value} {news : List (Addr × Obj)} {s : Shared} {p : Program} {loose : List PySem.Str} {mean : ExcName → Option Value} {mg mb : PySem.Str → Option Value} {Q : Value → Shared → Prop} {E : Value → Shared → Prop}
  {l : Addr} {nl : Nat} {vs : List Value} {rs : List Par}
  (B : Below (callerA.deeper env) base [env] h₀) (F : Fr h₀ L s.heap m) (X : (hd.heap_39 w.params).In h₀) (N : News h₀ L s.heap news) (T : Top p loose mean mg mb h₀) (hf : env2.frame = some L) (hk : env2.scope.kind = .function)
  (hl : s.heap.get? l = some (listOf vs.toArray nl)) (hvs : StrsAre vs ((rs.map eltOf).map S)) (hlen : rs.length ≤ 100) (hpl : ∀ r ∈ rs, 61 ∉ r.1 ∧ r.1.length ≤ 100 ∧ ∀ v, r.2 = some v → v.length ≤ 100 ∧ v ≠ [34])
  (hQ : ∀ es kvs d od h' tk, readR rs = .items es → od.IsDictOf (PySem.strKind prog w) kvs → KvOf kvs es → es.length ≤ 100 → (d == sysModules) = false → Fr h₀ L h' m → News h₀ L h' ((d, od) :: news) → Q (.ref d) { s with heap := h', toks := tk })
  (hE1 : readR rs = .noEq → KeqE base [env2, env] h₀ L m s E "ValueError") (hE2 : readR rs = .nothing → KeqE base [env2, env] h₀ L m s E "IndexError") :
  wpAny (model prog w) ((callerA.deeper env).deeper env2) (call (.ref 38) [.ref l] []) Q E s := by
  w_on
  w_strict (
  (refine' call_fzG (rest := news) ?k1 ?k2 ?k3 ?k4 ?k5 ?kA ?kF ?kK ?k6 ?k7 ?k8 ?k9 ?kB ?_ ?c2 ?c3 ?c4 ?c5; (case kA => exact rfl); (case kF => exact hf); (case kK => exact hk); (case k1 => k_asm); (case k2 => k_asm); (case k3 => k_asm); (case k4 => k_asm); (case k5 => k_asm); (case k6 => k_is); (case k7 => k_is); (case k8 => k_room); (case k9 => first | exact BindsTo.of_eq rfl | exact binds_K (by k_in) rfl (by k_is) rfl rfl rfl | fail "k_enter: no rule for these arguments"); (case c5 => decide); (case kB => exact locs rfl); (case c2 => exact rfl); (case c3 => exact rfl); (case c4 => exact rfl); k_whole; intro g' L' h' hkeep FG NG F' N' B' X' T'; (try dsimp only); (try k_lift B'); (try k_fold))
  have gl : g'.get? l = some (listOf vs.toArray nl) := hkeep _ _ hl
  clear N F NG
  replace FG := id FG
  have FG' : Fr h₀ L g' m ∧ True := ⟨FG, trivial⟩
  clear FG
  (repeat' ((fail_if_success ((first | (with_reducible show Turn _ _ _ _ _ _ _ _) | (with_reducible show Back _ _ _ _ _ _ _ _ _) | (with_reducible show wpAny _ _ (setItem _ _ _) _ _ _) | (with_reducible show wpAny _ _ (leaving _ _) _ _ _) | (with_reducible show wpAny _ _ (subscriptTail _ _ (Value.str _ _) (Value.int _ _)) _ _ _) | (with_reducible show wpAny _ _ (call (Value.builtin "str.split") _ _) _ _ _) | (with_reducible show wpAny _ _ (exec (Stmt.For _ _ _ _ _) _) _ _ _) | (with_reducible show wpAny _ _ (exec (Stmt.While _ _ _ _) _) _ _ _) | (with_reducible show wpAny _ _ (eval (PySem.Expr.ListComp _ _ _ _) _) _ _ _)))); first | (k_unfold; (try dsimp only)) | walk1 | (dsimp only; walk1)))
  rename Fr _ _ _ _ => F1
  rename News _ _ _ _ => N1
  rename Obj.IsDictOf (PySem.strKind _ _) _ _ => hD0
  rename (_ == sysModules) = false => hsys
  rename_i d _ od0 _ _ _ _ _
  refine For_invVF F1 rfl rfl ?_
  walk1
  refine iter_list (src := []) (vs := vs) (k := nl) (KeqJ prog w rs d) rfl (.inl gl) (fun _ _ _ _ p (h : p ∈ []) => nomatch h) F1 N1 ⟨[], [], od0, rfl, hD0, .nil, rfl, Nat.le_refl _, rfl⟩ ?turn ?done
  case turn =>
    rintro i v m₁ news₁ I oI h tk hi ⟨es, kvs, od, rfl, hD, hkv, hdue, hesl, mt⟩ hoff F2 N2
    obtain ⟨y, t, rfl, hy⟩ := hvs.item i v hi
    obtain ⟨r, hr, rfl⟩ : ∃ r, rs[i]? = some r ∧ y = S (eltOf r) := by
      rw [List.getElem?_map, List.getElem?_map] at hy
      cases hq : rs[i]? with
      | none => rw [hq] at hy; cases hy
      | some r => rw [hq] at hy; exact ⟨r, rfl, (Option.some.inj hy).symm⟩
    have F3 := fr_see [(PySem.Str.ofString "elt", .str (S (eltOf r)) t), (PySem.Str.ofString "parsed", .ref d)] F2 (by
      intro p hp
      simp only [List.mem_cons, List.not_mem_nil, or_false] at hp
      rcases hp with rfl | rfl
      · rfl
      · exact mt)
    clear F2 mt F1 N1
    replace F3 : Fr g' L' _ _ := F3
    replace N2 : News g' L' _ _ := N2
    have hdI : @Ne Nat d I := hoff _ (.head _)
    obtain ⟨hk61, hkl, hvl⟩ := hpl _ (List.mem_of_getElem? hr)
    have hdrop : rs.drop i = r :: rs.drop (i + 1) := by
      obtain ⟨hil, rfl⟩ := List.getElem?_eq_some_iff.mp hr
      exact List.drop_eq_getElem_cons hil
    have hilt : i < rs.length := (List.getElem?_eq_some_iff.mp hr).1
    rw [hdrop] at hdue
    simp only [List.cons_append, List.nil_append] at N2
    obtain ⟨key, val⟩ := r
    cases val with
    | none =>
      dsimp only [eltOf] at F3 hkl hk61
      have hkS : (S key).length ≤ 100 := by rw [S_length]; exact hkl
      (repeat' ((fail_if_success ((first | (with_reducible show Turn _ _ _ _ _ _ _ _) | (with_reducible show Back _ _ _ _ _ _ _ _ _) | (with_reducible show wpAny _ _ (setItem _ _ _) _ _ _) | (with_reducible show wpAny _ _ (leaving _ _) _ _ _) | (with_reducible show wpAny _ _ (subscriptTail _ _ (Value.str _ _) (Value.int _ _)) _ _ _) | (with_reducible show wpAny _ _ (call (Value.builtin "str.split") _ _) _ _ _) | (with_reducible show wpAny _ _ (exec (Stmt.For _ _ _ _ _) _) _ _ _) | (with_reducible show wpAny _ _ (exec (Stmt.While _ _ _ _) _) _ _ _) | (with_reducible show wpAny _ _ (eval (PySem.Expr.ListComp _ _ _ _) _) _ _ _)))); first | (k_unfold; (try dsimp only)) | walk1 | (dsimp only; walk1)))
      rename Fr _ _ _ _ => F4
      refine splitN2A F4 N2 rfl (by decide) ?_ (by rw [sizeLine_eq]; (first | lia | omega))
      intro l5 h5 tk5 e5 s5 b5 i5 F5 N5
      rw [ofStr_eq, split_no hk61] at e5
      obtain ⟨⟨x5, t5⟩, rfl⟩ : ∃ q, l5 = [q] := by
        cases l5 with
        | nil => cases e5
        | cons q r => cases r with
          | nil => exact ⟨q, rfl⟩
          | cons _ _ => simp at e5
      have hx5 : x5 = S key := by simpa using e5
      subst hx5
      have hl5 : h5.IsList _ #[Value.str (S key) t5] := i5
      clear N2 F4
      (repeat' ((fail_if_success ((first | (with_reducible show Turn _ _ _ _ _ _ _ _) | (with_reducible show Back _ _ _ _ _ _ _ _ _) | (with_reducible show wpAny _ _ (setItem _ _ _) _ _ _) | (with_reducible show wpAny _ _ (leaving _ _) _ _ _) | (with_reducible show wpAny _ _ (subscriptTail _ _ (Value.str _ _) (Value.int _ _)) _ _ _) | (with_reducible show wpAny _ _ (call (Value.builtin "str.split") _ _) _ _ _) | (with_reducible show wpAny _ _ (exec (Stmt.For _ _ _ _ _) _) _ _ _) | (with_reducible show wpAny _ _ (exec (Stmt.While _ _ _ _) _) _ _ _) | (with_reducible show wpAny _ _ (eval (PySem.Expr.ListComp _ _ _ _) _) _ _ _)))); first | (k_unfold; (try dsimp only)) | walk1 | (dsimp only; walk1)))
      refine assign_one rfl hl5 rfl rfl ?_
      intro h6 tk6 e6 h7 hk7 hx6
      have F7 := F5.keeps hk7
      have N7 := N5.grown hk7
      refine leave_newS B' hx6 F7 (news_sub (news' := []) N7 fun _ h => nomatch h) ?_
      intro h8 R8 _ U8
      exact hE1 (by rw [← hdue]; rfl) e6 g' h8 _ hkeep FG'.1 R8 U8
    | some v =>
      obtain ⟨hvl', hv34⟩ := hvl v rfl
      dsimp only [eltOf] at F3 hkl hk61
      have hvS : (S v).length ≤ 100 := by rw [S_length]; exact hvl'
      have hkS : (S (key ++ 61 :: v)).length ≤ 300 := by rw [S_length]; simp only [List.length_append, List.length_cons]; (first | lia | omega)
      (repeat' ((fail_if_success ((first | (with_reducible show Turn _ _ _ _ _ _ _ _) | (with_reducible show Back _ _ _ _ _ _ _ _ _) | (with_reducible show wpAny _ _ (setItem _ _ _) _ _ _) | (with_reducible show wpAny _ _ (leaving _ _) _ _ _) | (with_reducible show wpAny _ _ (subscriptTail _ _ (Value.str _ _) (Value.int _ _)) _ _ _) | (with_reducible show wpAny _ _ (call (Value.builtin "str.split") _ _) _ _ _) | (with_reducible show wpAny _ _ (exec (Stmt.For _ _ _ _ _) _) _ _ _) | (with_reducible show wpAny _ _ (exec (Stmt.While _ _ _ _) _) _ _ _) | (with_reducible show wpAny _ _ (eval (PySem.Expr.ListComp _ _ _ _) _) _ _ _)))); first | (k_unfold; (try dsimp only)) | walk1 | (dsimp only; walk1)))
      rename Fr _ _ _ _ => F4
      refine splitN2A F4 N2 rfl (by decide) ?_ (by rw [sizeLine_eq]; (first | lia | omega))
      intro l5 h5 tk5 e5 s5 b5 i5 F5 N5
      rw [ofStr_eq, split_eq hk61] at e5
      obtain ⟨⟨x5, t5⟩, ⟨x6, t6⟩, rfl⟩ : ∃ q q', l5 = [q, q'] := by
        cases l5 with
        | nil => cases e5
        | cons q r => cases r with
          | nil => simp at e5
          | cons q' r => cases r with
            | nil => exact ⟨q, q', rfl⟩
            | cons _ _ => simp at e5
      have hx5 : x5 = S key ∧ x6 = S v := by simpa using e5
      obtain ⟨rfl, rfl⟩ := hx5
      clear N2 F4
      have hl5 : h5.IsList _ #[Value.str (S key) t5, Value.str (S v) t6] := i5
      have N6 := news_sub (news' := [(d, od), (I, oI)]) N5 fun p hp => .tail _ hp
      clear N5 i5
      (repeat' ((fail_if_success ((first | (with_reducible show Turn _ _ _ _ _ _ _ _) | (with_reducible show Back _ _ _ _ _ _ _ _ _) | (with_reducible show wpAny _ _ (setItem _ _ _) _ _ _) | (with_reducible show wpAny _ _ (leaving _ _) _ _ _) | (with_reducible show wpAny _ _ (subscriptTail _ _ (Value.str _ _) (Value.int _ _)) _ _ _) | (with_reducible show wpAny _ _ (call (Value.builtin "str.split") _ _) _ _ _) | (with_reducible show wpAny _ _ (exec (Stmt.For _ _ _ _ _) _) _ _ _) | (with_reducible show wpAny _ _ (exec (Stmt.While _ _ _ _) _) _ _ _) | (with_reducible show wpAny _ _ (eval (PySem.Expr.ListComp _ _ _ _) _) _ _ _)))); first | (k_unfold; (try dsimp only)) | walk1 | (dsimp only; walk1)))
      rename Fr _ _ _ _ => F7
      rename News _ _ _ _ => N7
      by_cases hv0 : v = []
      · subst hv0
        refine item_str_none rfl ?_ (by with_unfolding_all rfl) (by intro _; with_unfolding_all rfl)
        intro h8 tk8 e8 hx8
        refine leave_newS B' hx8 F7 (news_sub (news' := []) N7 fun _ h => nomatch h) ?_
        intro h9 R9 _ U9
        exact hE2 (by rw [← hdue]; rfl) e8 g' h9 _ hkeep FG'.1 R9 U9
      have hvpos : 0 < v.length := List.length_pos_iff.mpr hv0
      refine item_str (by decide) (by rw [S_length]; (first | lia | omega)) (by rw [S_length]; (first | lia | omega)) ?_
      intro _
      rw [show (0 : Int) = ((0 : Nat) : Int) from rfl, item_S hvpos]
      have q1 : ∀ c b, (S [c] == PySem.Str.ofString "\"") = b → (decide (c = 34)) = b := fun c b h => by
        rw [← h, ofStr_quote, S_eq_beq, Bool.eq_iff_iff]; simp
      have hone : ∀ c : Nat, (S [c]).length = 1 := fun _ => rfl
      (repeat' ((fail_if_success ((first | (with_reducible show Turn _ _ _ _ _ _ _ _) | (with_reducible show Back _ _ _ _ _ _ _ _ _) | (with_reducible show wpAny _ _ (setItem _ _ _) _ _ _) | (with_reducible show wpAny _ _ (leaving _ _) _ _ _) | (with_reducible show wpAny _ _ (subscriptTail _ _ (Value.str _ _) (Value.int _ _)) _ _ _) | (with_reducible show wpAny _ _ (call (Value.builtin "str.split") _ _) _ _ _) | (with_reducible show wpAny _ _ (exec (Stmt.For _ _ _ _ _) _) _ _ _) | (with_reducible show wpAny _ _ (exec (Stmt.While _ _ _ _) _) _ _ _) | (with_reducible show wpAny _ _ (eval (PySem.Expr.ListComp _ _ _ _) _) _ _ _)))); first | (k_unfold; (try dsimp only)) | walk1 | (dsimp only; walk1)))
      · rename (S [v.getD 0 0] == PySem.Str.ofString "\"") = true => hq1
        have hq1' := q1 _ _ hq1
        refine item_str (by decide) (by rw [S_length]; (first | lia | omega)) (by rw [S_length]; (first | lia | omega)) ?_
        intro _
        rw [item_last hvpos]
        (repeat' ((fail_if_success ((first | (with_reducible show Turn _ _ _ _ _ _ _ _) | (with_reducible show Back _ _ _ _ _ _ _ _ _) | (with_reducible show wpAny _ _ (setItem _ _ _) _ _ _) | (with_reducible show wpAny _ _ (leaving _ _) _ _ _) | (with_reducible show wpAny _ _ (subscriptTail _ _ (Value.str _ _) (Value.int _ _)) _ _ _) | (with_reducible show wpAny _ _ (call (Value.builtin "str.split") _ _) _ _ _) | (with_reducible show wpAny _ _ (exec (Stmt.For _ _ _ _ _) _) _ _ _) | (with_reducible show wpAny _ _ (exec (Stmt.While _ _ _ _) _) _ _ _) | (with_reducible show wpAny _ _ (eval (PySem.Expr.ListComp _ _ _ _) _) _ _ _)))); first | (k_unfold; (try dsimp only)) | walk1 | (dsimp only; walk1)))
        · rename (S [v.getD (v.length - 1) 0] == PySem.Str.ofString "\"") = true => hq2
          have hq2' := q1 _ _ hq2
          have h2l : 2 ≤ v.length := two_at_least hv0 hv34 hq1'
          rename Fr _ _ _ _ => F8
          rename News _ _ _ _ => N8
          rw [slice_mid h2l]
          refine kda_set (knd := PySem.strKind prog w) (k := S key) F8 N8 (.head fun p hp => by rw [List.mem_singleton.mp hp]; exact hdI.symm) hD (strKind_is _ _ _ _) (by have : kvs.length = es.length := hkv.length; rw [sizeLine_eq]; (first | lia | omega)) ?_
          intro h9 od9 F9 N9 hD9
          (repeat' ((fail_if_success ((first | (with_reducible show Turn _ _ _ _ _ _ _ _) | (with_reducible show Back _ _ _ _ _ _ _ _ _) | (with_reducible show wpAny _ _ (setItem _ _ _) _ _ _) | (with_reducible show wpAny _ _ (leaving _ _) _ _ _) | (with_reducible show wpAny _ _ (subscriptTail _ _ (Value.str _ _) (Value.int _ _)) _ _ _) | (with_reducible show wpAny _ _ (call (Value.builtin "str.split") _ _) _ _ _) | (with_reducible show wpAny _ _ (exec (Stmt.For _ _ _ _ _) _) _ _ _) | (with_reducible show wpAny _ _ (exec (Stmt.While _ _ _ _) _) _ _ _) | (with_reducible show wpAny _ _ (eval (PySem.Expr.ListComp _ _ _ _) _) _ _ _)))); first | (k_unfold; (try dsimp only)) | walk1 | (dsimp only; walk1)))
          refine Turn.next (news' := [(d, od9)]) F9 N9 (fun p hp => by rw [List.mem_singleton.mp hp]; exact hdI) ⟨_, _, od9, rfl, hD9, hkv.put key ((v.drop 1).take (v.length - 2)) _, ?_, ?_, rfl⟩
          · rw [← hdue, readF, if_neg hv0, show unq v = _ from if_pos ⟨by simpa using hq1', by simpa using hq2'⟩]
          · have := put_len es key ((v.drop 1).take (v.length - 2)); (first | lia | omega)
        · rename (S [v.getD (v.length - 1) 0] == PySem.Str.ofString "\"") = false => hq2
          have hq2' := q1 _ _ hq2
          rename Fr _ _ _ _ => F8
          rename News _ _ _ _ => N8
          refine kda_set (knd := PySem.strKind prog w) (k := S key) F8 N8 (.head fun p hp => by rw [List.mem_singleton.mp hp]; exact hdI.symm) hD (strKind_is _ _ _ _) (by have : kvs.length = es.length := hkv.length; rw [sizeLine_eq]; (first | lia | omega)) ?_
          intro h9 od9 F9 N9 hD9
          (repeat' ((fail_if_success ((first | (with_reducible show Turn _ _ _ _ _ _ _ _) | (with_reducible show Back _ _ _ _ _ _ _ _ _) | (with_reducible show wpAny _ _ (setItem _ _ _) _ _ _) | (with_reducible show wpAny _ _ (leaving _ _) _ _ _) | (with_reducible show wpAny _ _ (subscriptTail _ _ (Value.str _ _) (Value.int _ _)) _ _ _) | (with_reducible show wpAny _ _ (call (Value.builtin "str.split") _ _) _ _ _) | (with_reducible show wpAny _ _ (exec (Stmt.For _ _ _ _ _) _) _ _ _) | (with_reducible show wpAny _ _ (exec (Stmt.While _ _ _ _) _) _ _ _) | (with_reducible show wpAny _ _ (eval (PySem.Expr.ListComp _ _ _ _) _) _ _ _)))); first | (k_unfold; (try dsimp only)) | walk1 | (dsimp only; walk1)))
          refine Turn.next (news' := [(d, od9)]) F9 N9 (fun p hp => by rw [List.mem_singleton.mp hp]; exact hdI) ⟨_, _, od9, rfl, hD9, hkv.put key (v) _, ?_, ?_, rfl⟩
          · rw [← hdue, readF, if_neg hv0, show unq v = _ from if_neg fun h => of_decide_eq_false hq2' h.2]
          · have := put_len es key (v); (first | lia | omega)
      · rename (S [v.getD 0 0] == PySem.Str.ofString "\"") = false => hq1
        have hq1' := q1 _ _ hq1
        rename Fr _ _ _ _ => F8
        rename News _ _ _ _ => N8
        refine kda_set (knd := PySem.strKind prog w) (k := S key) F8 N8 (.head fun p hp => by rw [List.mem_singleton.mp hp]; exact hdI.symm) hD (strKind_is _ _ _ _) (by have : kvs.length = es.length := hkv.length; rw [sizeLine_eq]; (first | lia | omega)) ?_
        intro h9 od9 F9 N9 hD9
        (repeat' ((fail_if_success ((first | (with_reducible show Turn _ _ _ _ _ _ _ _) | (with_reducible show Back _ _ _ _ _ _ _ _ _) | (with_reducible show wpAny _ _ (setItem _ _ _) _ _ _) | (with_reducible show wpAny _ _ (leaving _ _) _ _ _) | (with_reducible show wpAny _ _ (subscriptTail _ _ (Value.str _ _) (Value.int _ _)) _ _ _) | (with_reducible show wpAny _ _ (call (Value.builtin "str.split") _ _) _ _ _) | (with_reducible show wpAny _ _ (exec (Stmt.For _ _ _ _ _) _) _ _ _) | (with_reducible show wpAny _ _ (exec (Stmt.While _ _ _ _) _) _ _ _) | (with_reducible show wpAny _ _ (eval (PySem.Expr.ListComp _ _ _ _) _) _ _ _)))); first | (k_unfold; (try dsimp only)) | walk1 | (dsimp only; walk1)))
        refine Turn.next (news' := [(d, od9)]) F9 N9 (fun p hp => by rw [List.mem_singleton.mp hp]; exact hdI) ⟨_, _, od9, rfl, hD9, hkv.put key (v) _, ?_, ?_, rfl⟩
        · rw [← hdue, readF, if_neg hv0, show unq v = _ from if_neg fun h => of_decide_eq_false hq1' h.1]
        · have := put_len es key (v); (first | lia | omega)
  case done =>
    rintro m₁ news₁ h tk ⟨es, kvs, od, rfl, hD, hkv, hdue, hesl, mt⟩ F2 N2
    have F3 := fr_see [(PySem.Str.ofString "parsed", .ref d)] F2 (by
      intro p hp
      rw [List.mem_singleton.mp hp]
      exact mt)
    clear F2 mt F1 N1
    replace F3 : Fr g' L' _ _ := F3
    replace N2 : News g' L' _ _ := N2
    have hvl : vs.length = rs.length := by rw [hvs.length, List.length_map, List.length_map]
    rw [hvl, List.drop_length] at hdue
    rw [hvl] at hesl
    dsimp only
    (repeat' ((fail_if_success ((first | (with_reducible show Turn _ _ _ _ _ _ _ _) | (with_reducible show Back _ _ _ _ _ _ _ _ _) | (with_reducible show wpAny _ _ (setItem _ _ _) _ _ _) | (with_reducible show wpAny _ _ (leaving _ _) _ _ _) | (with_reducible show wpAny _ _ (subscriptTail _ _ (Value.str _ _) (Value.int _ _)) _ _ _) | (with_reducible show wpAny _ _ (call (Value.builtin "str.split") _ _) _ _ _) | (with_reducible show wpAny _ _ (exec (Stmt.For _ _ _ _ _) _) _ _ _) | (with_reducible show wpAny _ _ (exec (Stmt.While _ _ _ _) _) _ _ _) | (with_reducible show wpAny _ _ (eval (PySem.Expr.ListComp _ _ _ _) _) _ _ _)))); first | (k_unfold; (try dsimp only)) | walk1 | (dsimp only; walk1)))
    rename Fr _ _ _ _ => F4
    rename News _ _ _ _ => N4
    show Back _ _ _ _ _ _ _ _ _
    exact ⟨_, [(d, od)], F4, N4, fun F5 N5 => hQ es kvs d od _ _ hdue.symm hD hkv (by (first | lia | omega)) hsys F5 N5⟩)
end Mine

end

section
open PySem PySem.W PyProof.Rows PySem.Calls
set_option maxRecDepth 100000
set_option maxHeartbeats 40000000
set_option linter.unusedVariables false
namespace Mine
theorem fillR : Challenge.rw_nb0191_01 = Challenge.rw_nb0191_01 ∧ hd.heap_39 = hd.heap_39 := by k_fill; exact ⟨rfl, rfl⟩

/-- what a def's body hands back where an exception may have been caught -/
noncomputable def BackS (fs : List Addr) (h₀ : Heap) (L : Addr) (m : PySem.Str → Option Value) (g : Heap) (rest : List (Addr × Obj)) (Q : Value → Shared → Prop) (fl : Flow) (s' : Shared) : Prop :=
  ∃ g' L' m' news', KtsTurn fs g g' ∧ Fr g' L' s'.heap m' ∧ News g' L' s'.heap news' ∧ (Fr h₀ L s'.heap m → News h₀ L s'.heap (news' ++ rest) → Q (match fl with | .ret v => v | _ => .none) s')

section
variable {prog : Program} {w : World} {A A₀ : Around} {E : Value → Shared → Prop} {s : Shared} {K : Frag} {C L : Addr} {h₀ base : Heap} {m mg mb : PySem.Str → Option Value} {rest : List (Addr × Obj)} {p : Program} {loose : List PySem.Str} {mean : ExcName → Option Value} {Q : Value → Shared → Prop}
  {env : Env} {name qual : PySem.Str} {params : Arguments} {body : List Stmt} {scope : Scope} {dV kV doc pm cdv ct oc : Value} {an od : Option Addr} {osl : Array (Option Value)} {f : Addr} {pos : List Value} {kw : List (PySem.Str × Value)} {binds : List (PySem.Str × Value)}
theorem call_fzS
    (B : Below A₀ base [] h₀) (F : Fr h₀ L s.heap m) (X₀ : K.In h₀) (N : News h₀ L s.heap rest) (T : Top p loose mean mg mb h₀) (hA : A.frames = some [env]) (hf : env.frame = some L) (hke : env.scope.kind = .function)
    (ho : K.lookup f = some ⟨oc, od, .func (fnOf name qual params body scope dV kV doc pm an cdv ct), osl⟩) (hcd : codeIn K cdv qual = true) (hroom : A.depth < recursionLimit)
    (hbind : BindsTo s (fnOf name qual params body scope dV kV doc pm an cdv ct) ⟨pos, kw⟩ binds) (hloc : ∀ y ∈ binds, scope.names.lookup y.1 = some .local)
    (h : ∀ g L' h₁, (∀ b o, s.heap.get? b = some o → g.get? b = some o) → Fr g L' h₁ (fun y => binds.reverse.lookup y) → News g L' h₁ [] → Below A base [env] g → K.In g → Top p loose mean mg mb g → KtsDicts ([env].filterMap (·.frame)) g →
      wpAny (model prog w) (A.deeper (envOf qual scope L' f cdv)) (execs body (envOf qual scope L' f cdv))
        (BackS ([env].filterMap (·.frame)) h₀ L m g rest Q)
        (fun e s' => wpAny (model prog w) (A.deeper (envOf qual scope L' f cdv)) (leaving (envOf qual scope L' f cdv) e) (fun _ s'' => E e s'') (fun e' s'' => E e' s'') s')
        { s with heap := h₁, toks := s.toks + binds.length })
    (hco : scope.isCoroutine = false) (hgen : scope.isGenerator = false) (hk : scope.kind = .function)
    (hcell : ∀ x ∈ scope.names, x.2 ≠ .cell) : wpAny (model prog w) A (call (.ref f) pos kw) Q E s := by
  refine wpAny_call ?_
  obtain ⟨FG, BG, st, lv⟩ := groundX (R := fun r s' => match r with | .ok (.ret v) => Q v s' | .ok _ => False | .error e => E e s') B F (News.nil (h₀ := h₀) (h := s.heap) (L := L)) hA hf hke
  have hfs : [env].filterMap (·.frame) = [L] := by simp [hf]
  refine codeAny_call_def (fd := fnOf name qual params body scope dV kV doc pm an cdv ct) (body := body) (binds := binds) hroom ((X₀.keeps F.keep) _ _ ho) rfl (T.nolimit.keeps F.keep) (codeRec_of (X₀.keeps F.keep) hcd) rfl hbind hcell hloc (fun h₁ hns hk₁ => ?_) hco hgen hk
  obtain ⟨oL, es, ep, hL, hLd, hLk, hLf⟩ := F.ns
  refine wpAny_mono (h s.heap s.heap.objs.size h₁ (fun _ _ e => e) ⟨hns, hk₁, Nat.le_refl _⟩ News.nil BG (X₀.keeps st) (T.keeps st) (by
    rw [hfs]
    intro b hb
    rw [List.mem_singleton.mp hb]
    exact ⟨oL, es, ep, hL, hLd⟩)) (fun fl s' hl => ?_) fun _ _ y => y
  obtain ⟨g', L', m', news', T', F', N', k⟩ := hl
  rw [hfs] at T'
  have nL₀ : h₀.get? L = none := kts_self F
  obtain ⟨sl, hs⟩ := T'.up hL
  have hL' := F'.keep _ _ hs
  refine k ⟨⟨_, es, ep, hL', hLd, hLk, hLf⟩, fun b o e => F'.keep b o (T'.other b o (F.keep b o e) fun q => ?_), F.above⟩ fun p hp => ?_
  · rw [List.mem_singleton.mp q, nL₀] at e; cases e
  rcases List.mem_append.mp hp with hp | hp
  · have z := N' p hp
    refine ⟨z.1, fun q => ?_, ?_⟩
    · have := z.2.2; rw [q, hs] at this; cases this
    · cases q : h₀.get? p.1 with
      | none => rfl
      | some o =>
        obtain ⟨sl', hs'⟩ := T'.up (F.keep _ _ q)
        have := z.2.2; rw [hs'] at this; cases this
  · have z := N p hp
    exact ⟨F'.keep _ _ (T'.other _ _ z.1 fun q => z.2.1 (List.mem_singleton.mp q)), z.2⟩
end


theorem read_call {prog : Program} {w : World} {h₀ : Heap} {env : Env} {L : Addr} {m : PySem.Str → Option Value} {news : List (Addr × Obj)} {s : Shared} {p : Program} {loose : List PySem.Str} {mean : ExcName → Option Value} {mg mb : PySem.Str → Option Value} {Q : Value → Shared → Prop} {E : Value → Shared → Prop}
  {l : Addr} {nl : Nat} {vs : List Value} {rs : List Par}
  (B : Below callerA h₀ [] h₀) (F : Fr h₀ L s.heap m) (X : (hd.heap_39 w.params).In h₀) (N : News h₀ L s.heap news) (T : Top p loose mean mg mb h₀) (hf : env.frame = some L) (hk : env.scope.kind = .function)
  (hl : s.heap.get? l = some (listOf vs.toArray nl)) (hvs : StrsAre vs ((rs.map eltOf).map S)) (hlen : rs.length ≤ 100) (hpl : ∀ r ∈ rs, 61 ∉ r.1 ∧ r.1.length ≤ 100 ∧ ∀ v, r.2 = some v → v.length ≤ 100 ∧ v ≠ [34])
  (hQ : ∀ v fz h' tk, OutAt fz v (readR rs) → Fr h₀ L h' m → News h₀ L h' (fz ++ news) → Q v { s with heap := h', toks := tk }) :
  wpAny (model prog w) (callerA.deeper env) (call (.ref 118) [.ref l] []) Q E s := by
  w_on
  w_strict (
  (refine' call_fzS (rest := news) ?k1 ?k2 ?k3 ?k4 ?k5 ?kA ?kF ?kK ?k6 ?k7 ?k8 ?k9 ?kB ?_ ?c2 ?c3 ?c4 ?c5; (case kA => exact rfl); (case kF => exact hf); (case kK => exact hk); (case k1 => k_asm); (case k2 => k_asm); (case k3 => k_asm); (case k4 => k_asm); (case k5 => k_asm); (case k6 => k_is); (case k7 => k_is); (case k8 => k_room); (case k9 => first | exact BindsTo.of_eq rfl | exact binds_K (by k_in) rfl (by k_is) rfl rfl rfl | fail "k_enter: no rule for these arguments"); (case c5 => decide); (case kB => exact locs rfl); (case c2 => exact rfl); (case c3 => exact rfl); (case c4 => exact rfl); k_whole; intro g' L' h' hkeep F' N' B' X' T' D'; (try dsimp only); (try k_lift B'); (try k_fold))
  have gl : g'.get? l = some (listOf vs.toArray nl) := hkeep _ _ hl
  clear N F
  (repeat' ((fail_if_success ((first | (with_reducible show Back _ _ _ _ _ _ _ _ _) | (with_reducible show BackS _ _ _ _ _ _ _ _ _) | (with_reducible show wpAny _ _ (call (Value.ref 38) _ _) _ _ _) | (with_reducible show wpAny _ _ (call (Value.builtin "dict.items") _ _) _ _ _) | (with_reducible show wpAny _ _ (call (Value.type "list") _ _) _ _ _)))); first | (k_unfold; (try dsimp only)) | walk1 | (dsimp only; walk1)))
  refine keq_call B' F' X' N' T' rfl rfl (F'.keep _ _ gl) hvs hlen hpl ?ok ?e1 ?e2
  case ok =>
    intro es kvs d od h5 tk5 hR hD hkv hel hsys F5 N5
    clear F' N'
    (repeat' ((fail_if_success ((first | (with_reducible show Back _ _ _ _ _ _ _ _ _) | (with_reducible show BackS _ _ _ _ _ _ _ _ _) | (with_reducible show wpAny _ _ (call (Value.ref 38) _ _) _ _ _) | (with_reducible show wpAny _ _ (call (Value.builtin "dict.items") _ _) _ _ _) | (with_reducible show wpAny _ _ (call (Value.type "list") _ _) _ _ _)))); first | (k_unfold; (try dsimp only)) | walk1 | (dsimp only; walk1)))
    refine kdx_view (knd := PySem.strKind prog w) F5 N5 (.head _) hD hsys ?_
    intro D6 h6 F6 N6 l6
    clear F5 N5
    (repeat' ((fail_if_success ((first | (with_reducible show Back _ _ _ _ _ _ _ _ _) | (with_reducible show BackS _ _ _ _ _ _ _ _ _) | (with_reducible show wpAny _ _ (call (Value.ref 38) _ _) _ _ _) | (with_reducible show wpAny _ _ (call (Value.builtin "dict.items") _ _) _ _ _) | (with_reducible show wpAny _ _ (call (Value.type "list") _ _) _ _ _)))); first | (k_unfold; (try dsimp only)) | walk1 | (dsimp only; walk1)))
    refine list_items rfl F6 N6 (.head _) (.tail _ (.head _)) hD hkv (by (first | lia | omega)) ?_
    intro B7 vs7 tups7 c7 h7 tk7 F7 N7 D7
    clear F6 N6
    (repeat' ((fail_if_success ((first | (with_reducible show Back _ _ _ _ _ _ _ _ _) | (with_reducible show BackS _ _ _ _ _ _ _ _ _) | (with_reducible show wpAny _ _ (call (Value.ref 38) _ _) _ _ _) | (with_reducible show wpAny _ _ (call (Value.builtin "dict.items") _ _) _ _ _) | (with_reducible show wpAny _ _ (call (Value.type "list") _ _) _ _ _)))); first | (k_unfold; (try dsimp only)) | walk1 | (dsimp only; walk1)))
    show BackS _ _ _ _ _ _ _ _ _
    refine ⟨_, _, _, (B7, listOf vs7.toArray c7) :: tups7, KtsTurn.refl, F7, news_sub N7 fun p hp => ?_, fun F8 N8 => hQ _ _ _ _ ?_ F8 N8⟩
    · rcases List.mem_cons.mp hp with rfl | hp
      · exact .head _
      · exact .tail _ (List.mem_append_left _ hp)
    · rw [hR]
      exact ⟨_, _, _, rfl, .head _, D7.mono fun _ h => .tail _ h⟩
  case e1 =>
    intro hR e g5 h5 tk5 hk5 FG5 R5 U5
    clear F' N'
    (repeat' ((fail_if_success ((first | (with_reducible show Back _ _ _ _ _ _ _ _ _) | (with_reducible show BackS _ _ _ _ _ _ _ _ _) | (with_reducible show wpAny _ _ (call (Value.ref 38) _ _) _ _ _) | (with_reducible show wpAny _ _ (call (Value.builtin "dict.items") _ _) _ _ _) | (with_reducible show wpAny _ _ (call (Value.type "list") _ _) _ _ _)))); first | (k_unfold; (try dsimp only)) | walk1 | (dsimp only; walk1)))
    rename KtsTurn _ _ _ => T8
    rename News _ _ _ _ => N8
    clear FG5
    rename Fr _ _ _ _ => F8
    show BackS _ _ _ _ _ _ _ _ _
    refine ⟨_, _, _, [], T8, F8, N8, fun F9 N9 => hQ _ [] _ _ ?_ F9 N9⟩
    rw [hR]
    exact ⟨_, rfl⟩
  case e2 =>
    intro hR e g5 h5 tk5 hk5 FG5 R5 U5
    clear F' N'
    (repeat' ((fail_if_success ((first | (with_reducible show Back _ _ _ _ _ _ _ _ _) | (with_reducible show BackS _ _ _ _ _ _ _ _ _) | (with_reducible show wpAny _ _ (call (Value.ref 38) _ _) _ _ _) | (with_reducible show wpAny _ _ (call (Value.builtin "dict.items") _ _) _ _ _) | (with_reducible show wpAny _ _ (call (Value.type "list") _ _) _ _ _)))); first | (k_unfold; (try dsimp only)) | walk1 | (dsimp only; walk1)))
    rename KtsTurn _ _ _ => T8
    rename News _ _ _ _ => N8
    clear FG5
    rename Fr _ _ _ _ => F8
    show BackS _ _ _ _ _ _ _ _ _
    refine ⟨_, _, _, [], T8, F8, N8, fun F9 N9 => hQ _ [] _ _ ?_ F9 N9⟩
    rw [hR]
    exact ⟨_, rfl⟩)
end Mine

end

section
open PySem PySem.W PyProof.Rows PySem.Calls
set_option maxRecDepth 100000
set_option maxHeartbeats 4000000
set_option linter.unusedVariables false
namespace Mine
section
variable {prog : Program} {w : World} {A : Around} {E : Value → Shared → Prop} {s : Shared} {env : Env} {h₀ : Heap} {x : PySem.Str} {body : List Stmt} {Q : Flow → Shared → Prop}
/-- a loop over range(n) -/
theorem iter_range {r : Addr} {b : Int} {n : Nat} {t u v : Tok} {m₀ : PySem.Str → Option Value} {news : List (Addr × Obj)} (J : Nat → (PySem.Str → Option Value) → List (Addr × Obj) → Prop)
    (hh : A.handled = none) (hr : IsRange s.heap r 0 b 1 t u v) (hb : b = (n : Int)) (hn : n ≤ 1000) (F : Fr h₀ env.locals s.heap m₀) (N : News h₀ env.locals s.heap news) (hj : J 0 m₀ news)
    (turn : ∀ i t m₁ news₁ I oI h tk, i < n → J i m₁ news₁ → (∀ p ∈ news₁, p.1 ≠ I) → Fr h₀ env.locals h (fun y => if y = x then some (.int (i : Int) t) else m₁ y) → News h₀ env.locals h (news₁ ++ [(I, oI)]) →
      wpAny (model prog w) A (execs body env) (Turn h₀ env.locals (I, oI) (J (i + 1)) s Q) E { s with heap := h, toks := tk })
    (done : ∀ m₁ news₁ h tk, J n m₁ news₁ → Fr h₀ env.locals h m₁ → News h₀ env.locals h news₁ → Q .next { s with heap := h, toks := tk }) :
    wpAny (model prog w) A (pyIter (.ref r)) (fun it s₂ => LoopAtV prog w A h₀ env x body Q E it s₂) E s := by
  subst hb
  have hnL : env.locals ∉ [s.heap.objs.size] := fun hm => absurd F.ns.lt ((List.mem_singleton.mp hm) ▸ Nat.lt_irrefl _)
  have hne : ∀ p ∈ news, p.1 ≠ s.heap.objs.size := fun p hp => Nat.ne_of_lt (Heap.lt_size (N p hp).1)
  have hz : Builtin.Range.rangeSize 0 (n : Int) 1 = (n : Int) := by
    unfold Builtin.Range.rangeSize
    simp
    (first | lia | omega)
  have hsm : Builtin.Range.small 0 (n : Int) 1 = true := by
    unfold Builtin.Range.small
    rw [hz]
    unfold Builtin.Range.rangeFitsLong
    simp
    (first | lia | omega)
  refine wpAny_pyIter_range hr hsm ?_
  rw [hz]
  refine loopJ (src := []) J (Walks.range hh _ 0 1 n) (fun i h st => ⟨_, st⟩) (fun b hb => .inl (List.mem_singleton.mp hb)) (.head _) hnL (next_is_new F) (fun _ _ _ _ _ hp => nomatch hp) hne ?_ (F.push _) (fun p hp => ⟨Heap.get?_push_of_some _ (N p hp).1, (N p hp).2⟩) hj ?_ ?_
  · have := Heap.get?_push_size s.heap (o := { cls := .type "range_iterator", data := .fields #[rawInt 0, rawInt n, rawInt 1] }) rfl
    simpa using this
  · rintro i v m₁ news₁ oI h tk hi ⟨t, rfl⟩ hJ hoff F₁ N₁
    have e : (0 : Int) + (i : Int) * 1 = (i : Int) := by (first | lia | omega)
    rw [e] at F₁
    exact turn i t m₁ news₁ _ oI h tk hi hJ hoff F₁ N₁
  · exact done
end

noncomputable def keyT : List (List Nat) := [[114, 101, 97, 108, 109], [110], [97, 92], [42]]
noncomputable def gapT : List (List Nat) := [[44, 32], [44], [32, 44, 9], [44, 44], [44, 32, 44, 32], [9, 44], [44, 32, 32], [32, 44, 32]]
noncomputable def tailT : List (List Nat) := [[], [44, 32], [44], [9]]
noncomputable def bareL : List Nat := [97, 61, 55, 233, 92, 126, 47, 39]
noncomputable def strkA : List Nat := [34, 92]
noncomputable def strkB : List Nat := [34, 92, 44, 97, 59, 61, 32, 9, 233, 55, 126, 47, 39]
noncomputable def clnL : List Nat := [97, 55, 126, 39]
/-- one step of the law's first loop -/
structure It where
  gap : List Nat
  key : List Nat
  val : Option (List Nat)
  part : List Nat
  word : List Nat
noncomputable def escS (st v : List Nat) : List Nat := v.flatMap fun c => if c ∈ st then [92, c] else [c]
noncomputable def itOf (i n : Nat) : It :=
  if n / 4 % 12 = 10 then ⟨gapT.getD (n / 48 % 8) [], keyT.getD (n % 4) [], none, keyT.getD (n % 4) [], keyT.getD (n % 4) []⟩
  else if n / 4 % 12 = 11 then ⟨gapT.getD (n / 48 % 8) [], keyT.getD (n % 4) [], some [], keyT.getD (n % 4) [] ++ [61], keyT.getD (n % 4) [] ++ [61]⟩
  else if 6 < n / 4 % 12 ∧ onlyB (signsOf (n / 384 + 37 * i + 3)) bareL = true then
    ⟨gapT.getD (n / 48 % 8) [], keyT.getD (n % 4) [], some (signsOf (n / 384 + 37 * i + 3)), keyT.getD (n % 4) [] ++ 61 :: signsOf (n / 384 + 37 * i + 3), keyT.getD (n % 4) [] ++ 61 :: signsOf (n / 384 + 37 * i + 3)⟩
  else ⟨gapT.getD (n / 48 % 8) [], keyT.getD (n % 4) [], some (signsOf (n / 384 + 37 * i + 3)), keyT.getD (n % 4) [] ++ 61 :: 34 :: (signsOf (n / 384 + 37 * i + 3) ++ [34]),
    keyT.getD (n % 4) [] ++ 61 :: 34 :: (escS (if n / 4 % 12 < 4 ∨ 6 < n / 4 % 12 then strkA else strkB) (signsOf (n / 384 + 37 * i + 3)) ++ [34])⟩
noncomputable def numOf (a : Int) : Nat := (a.fmod 1000000007).toNat
noncomputable def itsF : Nat → List Int → List It
  | _, [] => []
  | i, a :: r => itOf i (numOf a) :: itsF (i + 1) r
noncomputable def its (ns : List Int) : List It := itsF 0 ns
theorem itsF_get : ∀ (ns : List Int) (k i : Nat) (a : Int), ns[i]? = some a → (itsF k ns)[i]? = some (itOf (k + i) (numOf a))
  | [], _, _, _, h => by simp at h
  | b :: ns, k, 0, a, h => by simp at h; subst h; rfl
  | b :: ns, k, i + 1, a, h => by
    have := itsF_get ns (k + 1) i a (by simpa using h)
    rw [itsF, List.getElem?_cons_succ, this]
    congr 2
    (first | lia | omega)
theorem its_get {ns : List Int} {i : Nat} {a : Int} (h : ns[i]? = some a) : (its ns)[i]? = some (itOf i (numOf a)) := by
  have := itsF_get ns 0 i a h
  rwa [Nat.zero_add] at this
theorem itsF_len : ∀ (ns : List Int) (k : Nat), (itsF k ns).length = ns.length
  | [], _ => rfl
  | _ :: ns, k => by rw [itsF, List.length_cons, itsF_len ns, List.length_cons]
theorem its_len (ns : List Int) : (its ns).length = ns.length := itsF_len ns 0
noncomputable def textOf (l : List It) : List Nat := l.flatMap fun t => t.gap ++ t.word
noncomputable def pairsOf (l : List It) : List Par := l.map fun t => (t.key, t.val)
noncomputable def rowS (row : List (List Nat)) (t : It) : List (List Nat) := (row ++ List.replicate (t.gap.count 44) []).dropLast ++ [t.part]
noncomputable def rowOf (l : List It) : List (List Nat) := l.foldl rowS [[]]
end Mine

end

section
open PySem PySem.W PyProof.Rows PySem.Calls
set_option maxRecDepth 100000
set_option maxHeartbeats 40000000
set_option linter.unusedVariables false
namespace Mine
theorem fillL : Challenge.rw_nb0191_01 = Challenge.rw_nb0191_01 ∧ hd.heap_39 = hd.heap_39 := by k_fill; exact ⟨rfl, rfl⟩
noncomputable def lastBody : List Stmt → List Stmt
  | [] => []
  | [.FunctionDef _ _ b _ _ _ _ _ _ _] => b
  | _ :: r => lastBody r
noncomputable def lastScope : List Stmt → Scope
  | [] => { kind := .function, names := [], isGenerator := false, isCoroutine := false, more := [] }
  | [.FunctionDef _ _ _ _ _ _ sc _ _ _] => sc
  | _ :: r => lastScope r
noncomputable def forBody : List Stmt → List Stmt
  | [] => []
  | .For _ _ b _ _ :: _ => b
  | _ :: r => forBody r
noncomputable def forRest : List Stmt → List Stmt
  | [] => []
  | .For _ _ _ _ _ :: r => r
  | _ :: r => forRest r
noncomputable def lawB : List Stmt := lastBody Challenge.pw_nb0191_01.main.body
noncomputable def lawSc : Scope := lastScope Challenge.pw_nb0191_01.main.body
noncomputable def turn1 : List Stmt := forBody lawB
noncomputable def rest1 : List Stmt := forRest lawB
noncomputable def turn2 : List Stmt := forBody rest1
noncomputable def rest2 : List Stmt := forRest rest1
noncomputable abbrev lawE (L fa : Addr) (cd : Value) : Env := envOfC (PySem.Str.ofString "law") lawSc L fa cd

structure LawI (nsl : List Int) (ws : List Value) (Lr Lp L D l0 : Addr) (i : Nat) (m : PySem.Str → Option Value) (news : List (Addr × Obj)) (rv pv : List Value) (nr np : Nat) (oc : Obj) (vo : Option Value) (fz : List (Addr × Obj)) (tt : Tok) : Prop where
  h_news : news = (Lr, listOf rv.toArray nr) :: (Lp, listOf pv.toArray np) :: (L + 1, oc) :: (94, tabObj #[]) :: (77, tabObj #[]) :: (D, listOf ws.toArray 0) :: fz
  h_cell : oc.data = .cell vo
  h_row : StrsAre rv ((rowOf ((its nsl).take i)).map S)
  h_prs : All2 (TupOf fz) pv (pairsOf ((its nsl).take i))
  fzr : ∀ p ∈ fz, p.1 ≠ Lr
  fzp : ∀ p ∈ fz, p.1 ≠ Lp
  fzc : ∀ p ∈ fz, p.1 ≠ L + 1
  fz9 : ∀ p ∈ fz, p.1 ≠ 94
  fz7 : ∀ p ∈ fz, p.1 ≠ 77
  fzd : ∀ p ∈ fz, p.1 ≠ D
  ord : @LT.lt Nat _ 94 L ∧ @LT.lt Nat _ (L + 1) Lp ∧ @LT.lt Nat _ Lp Lr ∧ @LT.lt Nat _ Lr D
  mt : m (PySem.Str.ofString "text") = some (.str (S (textOf ((its nsl).take i))) tt)
  mr : m (PySem.Str.ofString "row") = some (.ref Lr)
  mp : m (PySem.Str.ofString "pairs") = some (.ref Lp)
  mn : m (PySem.Str.ofString "numbers") = some (.ref D)
  ms : m (PySem.Str.ofString "script") = some (.ref l0)
noncomputable def LawJ (nsl : List Int) (ws : List Value) (Lr Lp L D l0 : Addr) (i : Nat) (m : PySem.Str → Option Value) (news : List (Addr × Obj)) : Prop :=
  ∃ rv pv nr np oc vo fz tt, LawI nsl ws Lr Lp L D l0 i m news rv pv nr np oc vo fz tt

local macro_rules | `(tactic| k_all) => `(tactic| assumption)

theorem keyT_S : keyT.map S = [PySem.Str.ofString "realm", PySem.Str.ofString "n", PySem.Str.ofString "a\\", PySem.Str.ofString "*"] := by decide +kernel
theorem gapT_S : gapT.map S = [PySem.Str.ofString ", ", PySem.Str.ofString ",", PySem.Str.ofString " ,\t", PySem.Str.ofString ",,", PySem.Str.ofString ", , ", PySem.Str.ofString "\t,", PySem.Str.ofString ",  ", PySem.Str.ofString " , "] := by decide +kernel
theorem tailT_S : tailT.map S = [PySem.Str.ofString "", PySem.Str.ofString ", ", PySem.Str.ofString ",", PySem.Str.ofString "\t"] := by decide +kernel
section
variable {prog : Program} {w : World} {A : Around} {E : Value → Shared → Prop} {s : Shared}
theorem item_at {value slice : PySem.Expr} {l : Addr} {vs : List Value} {k : Nat} {u : Tok} {v : Value} {Q : Value → Shared → Prop}
    (hl : s.heap.IsList l vs.toArray) (hk : k ≤ 1000) (hx : vs[k]? = some v) (h : Q v s)
    (hs : subscripted slice false (.ref l) (.int (k : Int) u) = operate [.ref l, .int (k : Int) u] (getItem (.ref l) (.int (k : Int) u))) :
    wpAny (model prog w) A (subscriptTail value slice (.ref l) (.int (k : Int) u)) Q E s :=
  tail_any hl.typeIs slot_list_getitem.lookup (wpAny_getItem_list hl (by (first | lia | omega)) (by (first | lia | omega)) (by simpa using hx) h) hs
theorem item_tab {value slice : PySem.Expr} {l : Addr} {vs : List Value} {tab : List (List Nat)} {k : Nat} {u : Tok} {Q : Value → Shared → Prop}
    (hl : s.heap.IsList l vs.toArray) (hw : StrsAre vs (tab.map S)) (hk : k < tab.length) (ht : tab.length ≤ 1000) (h : ∀ t', Q (.str (S (tab.getD k [])) t') s)
    (hs : subscripted slice false (.ref l) (.int (k : Int) u) = operate [.ref l, .int (k : Int) u] (getItem (.ref l) (.int (k : Int) u))) :
    wpAny (model prog w) A (subscriptTail value slice (.ref l) (.int (k : Int) u)) Q E s := by
  obtain ⟨t', e⟩ := hw.get k (S (tab.getD k [])) (by rw [List.getElem?_map, List.getD_eq_getElem?_getD, List.getElem?_eq_getElem hk]; rfl)
  exact item_at hl (by (first | lia | omega)) e (h t') hs
end
theorem ints_get : ∀ {vs : List Value} {ns : List Int}, IntsAre vs ns → ∀ {i : Nat} {a : Int}, ns[i]? = some a → ∃ t, vs[i]? = some (.int a t) := by
  intro vs ns h i a ha
  have hl : vs.length = ns.length := h.length
  have hi : i < ns.length := (List.getElem?_eq_some_iff.mp ha).1
  obtain ⟨n, t, e, hn⟩ := h.at i vs[i] (List.getElem?_eq_getElem (by (first | lia | omega)))
  rw [ha] at hn
  cases hn
  exact ⟨t, by rw [List.getElem?_eq_getElem (by (first | lia | omega)), e]⟩
theorem num_eq (a : Int) : a.fmod 1000000007 = ((numOf a : Nat) : Int) := by
  unfold numOf
  rw [Int.toNat_of_nonneg (Int.fmod_nonneg_of_pos a (by decide))]
theorem num_lt (a : Int) : numOf a < 1000000007 := by
  have h1 := Int.fmod_lt_of_pos a (show (0 : Int) < 1000000007 by decide)
  rw [num_eq] at h1
  (first | lia | omega)
theorem fmod_nat (n : Nat) (k : Nat) : ((n : Int).fmod (k : Int)) = ((n % k : Nat) : Int) := by
  rw [Int.fmod_eq_emod_of_nonneg _ (by (first | lia | omega))]; rfl
theorem fdiv_nat (n : Nat) (k : Nat) : ((n : Int).fdiv (k : Int)) = ((n / k : Nat) : Int) := by
  rw [Int.fdiv_eq_ediv_of_nonneg _ (by (first | lia | omega))]; rfl

section
variable {prog : Program} {w : World} {A : Around} {E : Value → Shared → Prop} {s : Shared} {h₀ : Heap} {L : Addr} {m : PySem.Str → Option Value} {news : List (Addr × Obj)}
theorem mul_one {l : Addr} {v : Value} {k c : Nat} {u : Tok} {Q : Value → Shared → Prop} (F : Fr h₀ L s.heap m) (N : News h₀ L s.heap news) (hl : s.heap.get? l = some (listOf (List.toArray [v]) k)) (hc : c ≤ 1000)
    (h : ∀ h', Fr h₀ L h' m → News h₀ L h' ((s.heap.objs.size, listOf (List.replicate c v).toArray 0) :: news) → (∀ p ∈ news, @Ne Nat s.heap.objs.size p.1) → Q (.ref s.heap.objs.size) { s with heap := h' }) :
    wpAny (model prog w) A (binaryOp .Mult (.ref l) (.int (c : Int) u)) Q E s := by
  refine mul_list F N hl (by (first | lia | omega)) (by (first | lia | omega)) (by simp; (first | lia | omega)) fun h' F' N' => h h' F' ?_ fun p hp => Nat.ne_of_gt (Heap.lt_size (N p hp).1)
  rw [listMul_foldl] at N'
  have e : (#[].toList ++ (List.replicate (if (List.toArray [v]).isEmpty = true then 0 else (c : Int).toNat) (List.toArray [v]).toList).flatten).toArray = (List.replicate c v).toArray := by
    simp [lm_rep_flat_one]
  rw [e] at N'
  exact N'
theorem extend_list {D b : Addr} {rv xs : List Value} {n n2 : Nat} {news' : Nat → List (Addr × Obj)} {Q : Value → Shared → Prop} (F : Fr h₀ L s.heap m) (N : News h₀ L s.heap news) (hb : (b, listOf xs.toArray n2) ∈ news)
    (U : ∀ n', Upd D (listOf rv.toArray n) (listOf (rv ++ xs).toArray n') news (news' n')) (h1 : rv.length ≤ 10000) (h2 : xs.length ≤ 10000)
    (h : ∀ h' n', Fr h₀ L h' m → News h₀ L h' (news' n') → Q .none { s with heap := h' }) : wpAny (model prog w) A (call (.builtin "list.extend") [.ref D, .ref b]) Q E s := by
  have hd : ¬(!rv.toArray.isEmpty && Builtin.List.listTooLong (rv.toArray.size + xs.toArray.size)) = true := by
    have : Builtin.List.listTooLong (rv.toArray.size + xs.toArray.size) = false := by
      unfold Builtin.List.listTooLong
      simp only [List.size_toArray]
      exact decide_eq_false (by rw [sizeLine_eq]; (first | lia | omega))
    rw [this]; simp
  have hz : rv.toArray.toList.length ≤ sizeLine := by show rv.length ≤ _; rw [sizeLine_eq]; (first | lia | omega)
  have hz2 : rv.toArray.size + xs.toArray.size ≤ sizeLine + 1 := by simp only [List.size_toArray]; rw [sizeLine_eq]; (first | lia | omega)
  by_cases hx : xs = []
  · subst hx
    have U' := U n
    rw [List.append_nil] at U'
    exact kxn_extend F N hb rfl U' hd hz hz2 fun h' F' N' => h h' n F' N'
  · exact kl_extend F N hb rfl (by simpa using hx) (U (n + 1)) hd hz hz2 fun h' F' N' => h h' (n + 1) F' N'
end
theorem strs_append {a b : List Value} {x y : List PySem.Str} (h : StrsAre a x) (h' : StrsAre b y) : StrsAre (a ++ b) (x ++ y) := by
  induction h with
  | nil => exact h'
  | cons y t r ih => exact .cons y t ih
theorem strs_dropLast {a : List Value} {x : List PySem.Str} (h : StrsAre a x) : StrsAre a.dropLast x.dropLast := by
  induction h with
  | nil => exact .nil
  | cons y t r ih =>
    cases r with
    | nil => exact .nil
    | cons y' t' r => exact .cons y t ih
theorem strs_rep (t : Tok) : ∀ c : Nat, StrsAre (List.replicate c (Value.str (PySem.Str.ofString "") t)) ((List.replicate c []).map S)
  | 0 => .nil
  | c + 1 => .cons _ _ (strs_rep t c)
theorem row_snoc (l : List It) (t : It) : rowOf (l ++ [t]) = (rowOf l ++ List.replicate (t.gap.count 44) []).dropLast ++ [t.part] := by
  unfold rowOf
  rw [List.foldl_append]; rfl
theorem pairs_snoc (l : List It) (t : It) : pairsOf (l ++ [t]) = pairsOf l ++ [(t.key, t.val)] := by
  unfold pairsOf; rw [List.map_append]; rfl
theorem text_snoc (l : List It) (t : It) : textOf (l ++ [t]) = textOf l ++ (t.gap ++ t.word) := by
  unfold textOf; rw [List.flatMap_append]; simp
theorem map_dropLast (l : List (List Nat)) : l.dropLast.map S = (l.map S).dropLast := (List.map_dropLast (f := S) (l := l))
noncomputable def turnT : List Stmt := turn1.drop 6
theorem setL_last : ∀ (init : List Value) (x v : Value), ki_setL (init ++ [x]) init.length v = some (init ++ [v])
  | [], _, _ => rfl
  | a :: init, x, v => by
    show ki_setL (a :: (init ++ [x])) (init.length + 1) v = _
    unfold ki_setL
    rw [setL_last init x v]
    rfl
theorem gap_len : ∀ k, k < 8 → (gapT.getD k []).length ≤ 4 ∧ 1 ≤ (gapT.getD k []).count 44 ∧ (gapT.getD k []).count 44 ≤ 2 := by decide

local macro_rules | `(tactic| walk_at "call builtin:list.append") => `(tactic| walk_at "mine append")

theorem law_tail {prog : Program} {w : World} {g : Heap} {L fa : Addr} {cd : Value} {p : Program} {loose : List PySem.Str} {mean : ExcName → Option Value} {mg mb : PySem.Str → Option Value} {Q : Flow → Shared → Prop} {E : Value → Shared → Prop} {s : Shared}
    {nsl : List Int} {ws : List Value} {Lr Lp D l0 I : Addr} {oI : Obj} {i n tk : Nat} {m₁ : PySem.Str → Option Value} {h : Heap} {rv pv : List Value} {nr np : Nat} {oc : Obj} {vo : Option Value} {fz : List (Addr × Obj)} {tt t1 t2 t3 t4 t5 : Tok} {it : It}
    (B : Below callerA g [] g) (X : (hd.heap_39 w.params).In g) (T : Top p loose mean mg mb g) (hi9 : i < 9) (hnl : nsl.length ≤ 9)
    (hit : itOf i n = it) (htk : (its nsl).take (i + 1) = (its nsl).take i ++ [itOf i n]) (htl : (textOf ((its nsl).take i)).length ≤ 1000) (hrl : rv.length ≤ 1000) (hpl : pv.length ≤ 1000)
    (hkl : it.key.length ≤ 100) (hgl : it.gap.length ≤ 100) (hwl : it.word.length ≤ 100) (hpal : it.part.length ≤ 100) (hvl : ∀ v, it.val = some v → v.length ≤ 100) (hgc : 1 ≤ it.gap.count 44 ∧ it.gap.count 44 ≤ 2) (hcnt : (Txt.count (S it.gap) (PySem.Str.ofString ",") : Int) = ((it.gap.count 44 : Nat) : Int))
    (F : Fr g L h m₁)
    (N : News g L h ((Lr, listOf rv.toArray nr) :: (Lp, listOf pv.toArray np) :: (L + 1, oc) :: (94, tabObj #[]) :: (77, tabObj #[]) :: (D, listOf ws.toArray 0) :: (I, oI) :: fz))
    (hcell : oc.data = .cell vo) (hrow : StrsAre rv ((rowOf ((its nsl).take i)).map S)) (hprs : All2 (TupOf fz) pv (pairsOf ((its nsl).take i)))
    (fzr : ∀ p ∈ fz, p.1 ≠ Lr) (fzp : ∀ p ∈ fz, p.1 ≠ Lp) (fzc : ∀ p ∈ fz, p.1 ≠ L + 1) (fz9 : ∀ p ∈ fz, p.1 ≠ 94) (fz7 : ∀ p ∈ fz, p.1 ≠ 77) (fzd : ∀ p ∈ fz, p.1 ≠ D) (fzi : ∀ p ∈ fz, p.1 ≠ I)
    (ord : @LT.lt Nat _ 94 L ∧ @LT.lt Nat _ (L + 1) Lp ∧ @LT.lt Nat _ Lp Lr ∧ @LT.lt Nat _ Lr D)
    (i1 : @Ne Nat Lr I) (i2 : @Ne Nat Lp I) (i3 : @Ne Nat (L + 1) I) (i4 : @Ne Nat 94 I) (i5 : @Ne Nat 77 I) (i6 : @Ne Nat D I)
    (mt : m₁ (PySem.Str.ofString "text") = some (.str (S (textOf ((its nsl).take i))) tt)) (mr : m₁ (PySem.Str.ofString "row") = some (.ref Lr)) (mp : m₁ (PySem.Str.ofString "pairs") = some (.ref Lp)) (mn : m₁ (PySem.Str.ofString "numbers") = some (.ref D)) (ms : m₁ (PySem.Str.ofString "script") = some (.ref l0))
    (mk : m₁ (PySem.Str.ofString "key") = some (.str (S it.key) t1)) (mg' : m₁ (PySem.Str.ofString "gap") = some (.str (S it.gap) t2)) (mpa : m₁ (PySem.Str.ofString "part") = some (.str (S it.part) t3)) (mw : m₁ (PySem.Str.ofString "word") = some (.str (S it.word) t4)) (mv : m₁ (PySem.Str.ofString "value") = some (valOf it.val t5)) :
    wpAny (model prog w) (callerA.deeper (lawE L fa cd)) (execs turnT (lawE L fa cd)) (Turn g L (I, oI) (LawJ nsl ws Lr Lp L D l0 (i + 1)) s Q) E { s with heap := h, toks := tk } := by
  w_on
  w_strict (
  unfold turnT turn1 lawB Challenge.pw_nb0191_01
  dsimp only [lastBody, forBody, List.drop]
  unfold lawE lawSc Challenge.pw_nb0191_01
  dsimp only [lastScope]
  obtain ⟨o1, o2, o3, o4⟩ := ord
  obtain ⟨gap, key, val, part, word⟩ := it
  dsimp only at hkl hgl hwl hpal hvl hgc hcnt mk mg' mpa mw mv
  have F1 := fr_see [(PySem.Str.ofString "text", .str (S (textOf ((its nsl).take i))) tt), (PySem.Str.ofString "row", .ref Lr), (PySem.Str.ofString "pairs", .ref Lp), (PySem.Str.ofString "numbers", .ref D), (PySem.Str.ofString "script", .ref l0), (PySem.Str.ofString "key", .str (S key) t1), (PySem.Str.ofString "gap", .str (S gap) t2), (PySem.Str.ofString "part", .str (S part) t3), (PySem.Str.ofString "word", .str (S word) t4), (PySem.Str.ofString "value", valOf val t5)] F (by
    intro p hp
    simp only [List.mem_cons, List.not_mem_nil, or_false] at hp
    rcases hp with rfl | rfl | rfl | rfl | rfl | rfl | rfl | rfl | rfl | rfl <;> assumption)
  clear F mt mr mp mn ms mk mg' mpa mw mv
  have htl' : (S (textOf ((its nsl).take i))).length ≤ 1000 := by rw [S_length]; exact htl
  have hkl' : (S key).length ≤ 100 := by rw [S_length]; exact hkl
  have hgl' : (S gap).length ≤ 100 := by rw [S_length]; exact hgl
  have hwl' : (S word).length ≤ 100 := by rw [S_length]; exact hwl
  have hpal' : (S part).length ≤ 100 := by rw [S_length]; exact hpal
  (repeat' ((fail_if_success ((first | (with_reducible show Turn _ _ _ _ _ _ _ _) | (with_reducible show wpAny _ _ (subscriptTail _ _ (Value.ref _) (Value.int _ _)) _ _ _) | (with_reducible show wpAny _ _ (call (Value.ref _) _ _) _ _ _) | (with_reducible show wpAny _ _ (call (Value.builtin "str.join") _ _) _ _ _) | (with_reducible show wpAny _ _ (call (Value.builtin "str.count") _ _) _ _ _) | (with_reducible show wpAny _ _ (call (Value.builtin "list.extend") _ _) _ _ _) | (with_reducible show wpAny _ _ (setItem _ _ _) _ _ _) | (with_reducible show wpAny _ _ (binaryOp Operator.Mult _ _) _ _ _) | (with_reducible show wpAny _ _ (exec (Stmt.For _ _ _ _ _) _) _ _ _) | (with_reducible show wpAny _ _ (exec (Stmt.While _ _ _ _) _) _ _ _) | (with_reducible show wpAny _ _ (eval (PySem.Expr.ListComp _ _ _ _) _) _ _ _)))); first | (k_unfold; (try dsimp only)) | walk1 | (dsimp only; walk1)))
  rename Fr _ _ _ _ => F2
  rename News _ _ _ _ => N2
  rename_i _ Dt _ hDt _ lt1 _ hlt1
  refine SC.count ?_
  rw [hcnt]
  obtain ⟨hgc1, hgc2⟩ := hgc
  refine mul_one F2 N2 (N2 _ (.head _)).1 (by (first | lia | omega)) ?_
  intro h3 F3 N3 l3
  (repeat' ((fail_if_success ((first | (with_reducible show Turn _ _ _ _ _ _ _ _) | (with_reducible show wpAny _ _ (subscriptTail _ _ (Value.ref _) (Value.int _ _)) _ _ _) | (with_reducible show wpAny _ _ (call (Value.ref _) _ _) _ _ _) | (with_reducible show wpAny _ _ (call (Value.builtin "str.join") _ _) _ _ _) | (with_reducible show wpAny _ _ (call (Value.builtin "str.count") _ _) _ _ _) | (with_reducible show wpAny _ _ (call (Value.builtin "list.extend") _ _) _ _ _) | (with_reducible show wpAny _ _ (setItem _ _ _) _ _ _) | (with_reducible show wpAny _ _ (binaryOp Operator.Mult _ _) _ _ _) | (with_reducible show wpAny _ _ (exec (Stmt.For _ _ _ _ _) _) _ _ _) | (with_reducible show wpAny _ _ (exec (Stmt.While _ _ _ _) _) _ _ _) | (with_reducible show wpAny _ _ (eval (PySem.Expr.ListComp _ _ _ _) _) _ _ _)))); first | (k_unfold; (try dsimp only)) | walk1 | (dsimp only; walk1)))
  have hLr3 := l3 _ (.tail _ (.tail _ (.head _)))
  have hall : ∀ p ∈ (Lp, listOf (pv ++ [Value.ref Dt]).toArray (np + 1)) :: (L + 1, oc) :: (94, tabObj #[]) :: (77, tabObj #[]) :: (D, listOf ws.toArray 0) :: (I, oI) :: fz, p.1 ≠ Lr := by
    refine List.forall_mem_cons.mpr ⟨?_, List.forall_mem_cons.mpr ⟨?_, List.forall_mem_cons.mpr ⟨?_, List.forall_mem_cons.mpr ⟨?_, List.forall_mem_cons.mpr ⟨?_, List.forall_mem_cons.mpr ⟨?_, fzr⟩⟩⟩⟩⟩⟩ <;> (refine neN ?_; (try dsimp only); (first | lia | omega))
  refine extend_list F3 N3 (.head _) (fun n' => .tail (neN hLr3) (.tail (neN (by dsimp only; (first | lia | omega))) (.tail (neN (by dsimp only; (first | lia | omega))) (.head hall)))) (by (first | lia | omega)) (by simp; (first | lia | omega)) ?_
  intro h4 n4 F4 N4
  have N5 := news_sub N4 fun p hp => .tail _ (.tail _ hp)
  clear N4 N3 N2 F3 F2
  (repeat' ((fail_if_success ((first | (with_reducible show Turn _ _ _ _ _ _ _ _) | (with_reducible show wpAny _ _ (subscriptTail _ _ (Value.ref _) (Value.int _ _)) _ _ _) | (with_reducible show wpAny _ _ (call (Value.ref _) _ _) _ _ _) | (with_reducible show wpAny _ _ (call (Value.builtin "str.join") _ _) _ _ _) | (with_reducible show wpAny _ _ (call (Value.builtin "str.count") _ _) _ _ _) | (with_reducible show wpAny _ _ (call (Value.builtin "list.extend") _ _) _ _ _) | (with_reducible show wpAny _ _ (setItem _ _ _) _ _ _) | (with_reducible show wpAny _ _ (binaryOp Operator.Mult _ _) _ _ _) | (with_reducible show wpAny _ _ (exec (Stmt.For _ _ _ _ _) _) _ _ _) | (with_reducible show wpAny _ _ (exec (Stmt.While _ _ _ _) _) _ _ _) | (with_reducible show wpAny _ _ (eval (PySem.Expr.ListComp _ _ _ _) _) _ _ _)))); first | (k_unfold; (try dsimp only)) | walk1 | (dsimp only; walk1)))
  rename Fr _ _ _ _ => F6
  rename News _ _ _ _ => N6
  have hx0 : rv ++ List.replicate (gap.count 44) (Value.str (PySem.Str.ofString "") tk) ≠ [] := by
    have : 0 < (List.replicate (gap.count 44) (Value.str (PySem.Str.ofString "") tk)).length := by rw [List.length_replicate]; (first | lia | omega)
    intro e
    rw [(List.append_eq_nil_iff.mp e).2] at this
    exact absurd this (Nat.lt_irrefl _)
  rw [← List.dropLast_concat_getLast hx0] at N6
  refine ki_setNeg (j := (rv ++ List.replicate (gap.count 44) (Value.str (PySem.Str.ofString "") tk)).dropLast.length) F6 N6 (by decide) (by decide) ?_ (setL_last _ _ _) (.tail (neN (by dsimp only; (first | lia | omega))) (.head hall)) ?_
  · rw [PySem.seqIndex_neg (by decide) (by simp; (first | lia | omega))]
    simp
    (first | lia | omega)
  intro h7 F7 N7
  (repeat' ((fail_if_success ((first | (with_reducible show Turn _ _ _ _ _ _ _ _) | (with_reducible show wpAny _ _ (subscriptTail _ _ (Value.ref _) (Value.int _ _)) _ _ _) | (with_reducible show wpAny _ _ (call (Value.ref _) _ _) _ _ _) | (with_reducible show wpAny _ _ (call (Value.builtin "str.join") _ _) _ _ _) | (with_reducible show wpAny _ _ (call (Value.builtin "str.count") _ _) _ _ _) | (with_reducible show wpAny _ _ (call (Value.builtin "list.extend") _ _) _ _ _) | (with_reducible show wpAny _ _ (setItem _ _ _) _ _ _) | (with_reducible show wpAny _ _ (binaryOp Operator.Mult _ _) _ _ _) | (with_reducible show wpAny _ _ (exec (Stmt.For _ _ _ _ _) _) _ _ _) | (with_reducible show wpAny _ _ (exec (Stmt.While _ _ _ _) _) _ _ _) | (with_reducible show wpAny _ _ (eval (PySem.Expr.ListComp _ _ _ _) _) _ _ _)))); first | (k_unfold; (try dsimp only)) | walk1 | (dsimp only; walk1)))
  have hL1 : ∀ d : Addr, @LT.lt Nat _ d Dt → ∀ q : Addr × Obj, q.1 = Dt → q.1 ≠ d := fun d hd q hq e => by
    rw [hq] at e
    exact absurd e (Nat.ne_of_gt hd)
  refine Turn.next F7 (news' := (Lr, listOf ((rv ++ List.replicate (gap.count 44) (Value.str (PySem.Str.ofString "") tk)).dropLast ++ [Value.str (S part) t3]).toArray n4) :: (Lp, listOf (pv ++ [Value.ref Dt]).toArray (np + 1)) :: (L + 1, oc) :: (94, tabObj #[]) :: (77, tabObj #[]) :: (D, listOf ws.toArray 0) :: (Dt, tup2 (.str (S key) t1) (valOf val t5)) :: fz) (news_sub N7 ?_) ?_
    ⟨_, _, _, _, oc, vo, _, _, rfl, hcell, ?_, ?_, List.forall_mem_cons.mpr ⟨neN (by dsimp only; (first | lia | omega)), fzr⟩, List.forall_mem_cons.mpr ⟨neN (by dsimp only; (first | lia | omega)), fzp⟩, List.forall_mem_cons.mpr ⟨neN (by dsimp only; (first | lia | omega)), fzc⟩, List.forall_mem_cons.mpr ⟨neN (by dsimp only; (first | lia | omega)), fz9⟩, List.forall_mem_cons.mpr ⟨neN (by dsimp only; (first | lia | omega)), fz7⟩, List.forall_mem_cons.mpr ⟨neN (by dsimp only; (first | lia | omega)), fzd⟩, ⟨o1, o2, o3, o4⟩, congrArg (fun y => some (Value.str y _)) ?_, rfl, rfl, rfl, rfl⟩
  · intro p hp
    simp only [List.cons_append, List.mem_append, List.mem_cons, List.not_mem_nil, or_false] at hp ⊢
    rcases hp with rfl | rfl | rfl | rfl | rfl | rfl | rfl | hp | rfl <;> simp [*]
  · refine List.forall_mem_cons.mpr ⟨i1, List.forall_mem_cons.mpr ⟨i2, List.forall_mem_cons.mpr ⟨i3, List.forall_mem_cons.mpr ⟨i4, List.forall_mem_cons.mpr ⟨i5, List.forall_mem_cons.mpr ⟨i6, List.forall_mem_cons.mpr ⟨neN (by dsimp only; (first | lia | omega)), fzi⟩⟩⟩⟩⟩⟩⟩
  · rw [htk, hit, row_snoc, List.map_append]
    refine strs_append ?_ (.cons _ _ .nil)
    rw [map_dropLast, List.map_append]
    exact strs_dropLast (strs_append hrow (strs_rep _ _))
  · rw [htk, hit, pairs_snoc]
    exact (hprs.mono fun _ _ x => x.more fun _ h => .tail _ h).snoc ⟨Dt, t1, t5, rfl, .head _⟩
  · rw [htk, hit, text_snoc]
    simp only [S_append, List.append_assoc])
end Mine

end

section
open PySem PySem.W PyProof.Rows PySem.Calls
set_option maxRecDepth 100000
set_option maxHeartbeats 40000000
set_option linter.unusedVariables false
namespace Mine
theorem fillM : Challenge.rw_nb0191_01 = Challenge.rw_nb0191_01 ∧ hd.heap_39 = hd.heap_39 := by k_fill; exact ⟨rfl, rfl⟩
local macro_rules | `(tactic| k_all) => `(tactic| assumption)

noncomputable def orElse : List Stmt → List Stmt
  | [] => []
  | .If _ _ o _ :: _ => o
  | _ :: r => orElse r
noncomputable def grab : List Stmt → PySem.Expr
  | [_, _, .Assign _ (.BinOp (.BinOp _ _ (.Call _ [c] _ _) _) _ _ _) _] => c
  | _ => .Constant .none 0 ⟨0, 0, 0, 0⟩
noncomputable def compE : PySem.Expr := grab (orElse (orElse (orElse turn1)))
noncomputable def escW (st v : List Nat) : List (List Nat) := v.map fun c => if c ∈ st then [92, c] else [c]
theorem escW_flat (st v : List Nat) : joinL [] (escW st v) = escS st v := by
  have k : ∀ l : List (List Nat), joinL [] l = l.flatten := by
    intro l
    induction l with
    | nil => rfl
    | cons x r ih =>
      cases r with
      | nil => simp [joinL]
      | cons y r =>
        show x ++ ([] ++ joinL [] (y :: r)) = _
        rw [ih]; simp
  rw [k]; unfold escW escS; rw [List.flatMap_def]


theorem esc_comp {prog : Program} {w : World} {g : Heap} {L fa : Addr} {cd : Value} {p : Program} {loose : List PySem.Str} {mean : ExcName → Option Value} {mg mb : PySem.Str → Option Value} {Q : Value → Shared → Prop} {E : Value → Shared → Prop} {s : Shared}
    {m : PySem.Str → Option Value} {a1 a2 : Addr} {o1 o2 : Obj} {rest : List (Addr × Obj)} {oc : Obj} {v st : List Nat} {tv ts : Tok}
    (X : (hd.heap_39 w.params).In g) (T : Top p loose mean mg mb g) (F : Fr g L s.heap m) (N : News g L s.heap ((a1, o1) :: (a2, o2) :: (L + 1, oc) :: rest)) (hoc : oc.data = .cell (some (.str (S st) ts))) (mv : m (PySem.Str.ofString "value") = some (.str (S v) tv)) (hvl : v.length ≤ 100)
    (hQ : ∀ D ys h' tk, StrsAre ys ((escW st v).map S) → Fr g L h' m → News g L h' ((D, LCg.lst ys) :: (a1, o1) :: (a2, o2) :: (L + 1, oc) :: rest) → Q (.ref D) { s with heap := h', toks := tk }) :
    wpAny (model prog w) (callerA.deeper (lawE L fa cd)) (eval compE (lawE L fa cd)) Q E s := by
  w_on
  w_strict (
  unfold compE turn1 lawB Challenge.pw_nb0191_01
  dsimp only [lastBody, forBody, orElse, grab]
  unfold lawE lawSc Challenge.pw_nb0191_01
  dsimp only [lastScope]
  refine ListComp_SU (hs := by intro _; rfl) (F₀ := F) (by with_unfolding_all rfl) (by decide) (by rfl) (by decide) (by rfl) ?_
  have F1 := fr_see [(PySem.Str.ofString "value", .str (S v) tv)] F (by
    intro p hp
    rw [List.mem_singleton.mp hp]
    exact mv)
  clear F
  walk1
  have F : Fr g L s.heap m := by
    have e : kstB m [(PySem.Str.ofString "value", .str (S v) tv)] = m := by
      funext z
      exact kstB_eq (fun p hp => by rw [List.mem_singleton.mp hp]; exact mv) fun _ => rfl
    rw [e] at F1; exact F1
  refine ⟨_, _, _, rfl, rfl, F, N, by rw [S_length, sizeLine_eq]; (first | lia | omega), ?_⟩
  rintro s₂ ⟨h₂, rfl⟩
  refine compRest_of (fun i ys nw => nw = (a1, o1) :: (a2, o2) :: (L + 1, oc) :: rest ∧ StrsAre ys ((escW st (v.take i)).map S)) ?_ ?_ _ 0 _ _ (Nat.zero_add _) ⟨rfl, .nil⟩
  · rintro i ys _ x I oI C oC D m₂ h tk E' hi ⟨rfl, hys⟩ ⟨c, u, hc, rfl⟩ hC hm2 F5 N5 off ne
    clear F1 F N
    have hcv : v[i]? = some c := by simpa [S] using hc
    have htk : v.take (i + 1) = v.take i ++ [c] := by rw [List.take_add_one, hcv]; rfl
    (repeat' ((fail_if_success ((first | (with_reducible show LCg.CompEnd _ _ _ _ _ _ _ _ _ _ _ _ _ _) | (first | (with_reducible show Turn _ _ _ _ _ _ _ _) | (with_reducible show wpAny _ _ (execs [_, _, _, _] _) _ _ _) | (with_reducible show wpAny _ _ (subscriptTail _ _ (Value.ref _) (Value.int _ _)) _ _ _) | (with_reducible show wpAny _ _ (call (Value.ref _) _ _) _ _ _) | (with_reducible show wpAny _ _ (call (Value.builtin "str.join") _ _) _ _ _) | (with_reducible show wpAny _ _ (call (Value.builtin "str.count") _ _) _ _ _) | (with_reducible show wpAny _ _ (call (Value.builtin "list.extend") _ _) _ _ _) | (with_reducible show wpAny _ _ (setItem _ _ _) _ _ _) | (with_reducible show wpAny _ _ (exec (Stmt.For _ _ _ _ _) _) _ _ _) | (with_reducible show wpAny _ _ (exec (Stmt.While _ _ _ _) _) _ _ _) | (with_reducible show wpAny _ _ (eval (PySem.Expr.ListComp _ _ _ _) _) _ _ _))))); first | (k_unfold; (try dsimp only)) | walk1 | (dsimp only; walk1)))
    · rename (Builtin.Str.occurrences _ _ _ _ _).isEmpty = _ => he
      rw [empty_one, S_list] at he
      have he' : c ∉ st := by simpa using he
      refine LCg.CompEnd.intro F5 N5 _ (fun _ hp => hp) off trivial ⟨rfl, ?_⟩
      rw [htk, escW, List.map_append, List.map_append, List.map_cons, List.map_nil, if_neg he']
      exact KStt.strs_snoc hys
    · rename (Builtin.Str.occurrences _ _ _ _ _).isEmpty = _ => he
      rw [empty_one, S_list] at he
      have he' : c ∈ st := by simpa using he
      refine LCg.CompEnd.intro F5 N5 _ (fun _ hp => hp) off trivial ⟨rfl, ?_⟩
      rw [htk, escW, List.map_append, List.map_append, List.map_cons, List.map_nil, if_pos he', show PySem.Str.ofString "\\" ++ (⟨#[c]⟩ : PySem.Str) = S [92, c] by rw [ofStr_slash]; exact S_append [92] [c]]
      exact KStt.strs_snoc hys
  · rintro ys _ ⟨rfl, hys⟩ D h tk F6 N6 off
    rw [S_length, List.take_length] at hys
    exact hQ D ys h tk hys F6 N6)

end Mine

end

section
open PySem PySem.W PyProof.Rows PySem.Calls
set_option maxRecDepth 100000
set_option maxHeartbeats 40000000
set_option linter.unusedVariables false
namespace Mine
theorem fillQ : Challenge.rw_nb0191_01 = Challenge.rw_nb0191_01 ∧ hd.heap_39 = hd.heap_39 := by k_fill; exact ⟨rfl, rfl⟩

local macro_rules | `(tactic| k_all) => `(tactic| assumption)
local macro_rules | `(tactic| walk_at "call builtin:list.append") => `(tactic| walk_at "mine append")

noncomputable def row2 (l : List It) (tl : List Nat) : List (List Nat) := if tl = [44] then (rowOf l ++ List.replicate (tl.count 44) []).dropLast else rowOf l ++ List.replicate (tl.count 44) []
noncomputable def restA : List Stmt := rest1.drop 4
noncomputable def okC (l : List Nat) : Prop := ∀ c ∈ l, c < 1114112
noncomputable def valD : Option (List Nat) → Dat
  | none => .none
  | some v => .str (S v)
noncomputable def parD (p : Par) : Dat := .tuple [.str (S p.1), valD p.2]
theorem valD_in {news : List (Addr × Obj)} (v : Option (List Nat)) (t : Tok) : DatIn news (valOf v t) (valD v) := by
  cases v with
  | none => exact .none
  | some v => exact .str _ _
theorem tup_in {fz : List (Addr × Obj)} {v : Value} {p : Par} (h : TupOf fz v p) : DatIn fz v (parD p) := by
  obtain ⟨a, t1, t2, rfl, m⟩ := h
  exact .tuple (vs := [.str (S p.1) t1, valOf p.2 t2]) (n := 0) m (.cons (.str _ _) (.cons (valD_in _ _) .nil))
theorem tups_in {fz : List (Addr × Obj)} {vs : List Value} {ps : List Par} (h : All2 (TupOf fz) vs ps) : DatAll fz vs (ps.map parD) := by
  induction h with
  | nil => exact .nil
  | cons x _ ih => exact .cons (tup_in x) ih
theorem listsP_in {fz : List (Addr × Obj)} {vs : List Value} {pss : List (List Par)} (h : All2 (ListOfP fz) vs pss) : DatAll fz vs (pss.map fun ps => .list (ps.map parD)) := by
  induction h with
  | nil => exact .nil
  | cons x _ ih =>
    obtain ⟨a, ws, n, rfl, m, r⟩ := x
    exact .cons (.list m (tups_in r)) ih
noncomputable def ParOk (p : Par) : Prop := okC p.1 ∧ ∀ v, p.2 = some v → okC v
theorem parD_ok {p : Par} (h : ParOk p) (n : Nat) : kqdOk (n + 1) (parD p) = true := by
  show ([Dat.str (S p.1), valD p.2].all (kqdOk n)) = true
  have h1 : kqdOk n (.str (S p.1)) = true := by cases n <;> exact strOk_S h.1
  have h2 : kqdOk n (valD p.2) = true := by
    cases hv : p.2 with
    | none => cases n <;> rfl
    | some v => cases n <;> exact strOk_S (h.2 v hv)
  simp [h1, h2]
theorem strs_ok {l : List (List Nat)} (h : ∀ r ∈ l, okC r) : ∀ d ∈ (l.map S).map Dat.str, kqdOk 8 d = true := by
  intro d hd
  obtain ⟨x, hx, rfl⟩ := List.mem_map.mp hd
  obtain ⟨r, hr, rfl⟩ := List.mem_map.mp hx
  exact strOk_S (h r hr)
section
variable {prog : Program} {w : World} {A : Around} {E : Value → Shared → Prop} {s : Shared} {h₀ : Heap} {L a b : Addr} {news : List (Addr × Obj)} {Q : Value → Shared → Prop}
/-- two rows of the same texts -/
theorem rows_ne {va vb : List Value} {na nb : Nat} {row : List (List Nat)} (N : News h₀ L s.heap news) (ma : (a, listOf va.toArray na) ∈ news) (mb : (b, listOf vb.toArray nb) ∈ news) (ha : StrsAre va (row.map S)) (hb : StrsAre vb (row.map S)) (hok : ∀ r ∈ row, okC r) (hu : A.units + 64 < cLine)
    (h : Q (.bool false) s) : wpAny (model prog w) A (compareOp .NotEq (.ref a) (.ref b)) Q E s :=
  kqd_ne (n₁ := []) (n₂ := []) N ma rfl rfl (datAll_strs ha) (fun _ h => nomatch h) mb rfl rfl (datAll_strs hb) (fun _ h => nomatch h) (strs_ok hok) (strs_ok hok) hu (by simpa using h)
end

theorem tups_at {h₀ h : Heap} {L : Addr} {news fz : List (Addr × Obj)} {vs : List Value} {ps : List Par} (N : News h₀ L h news) (sub : ∀ p ∈ fz, p ∈ news) (H : All2 (TupOf fz) vs ps) : All2 (TupAt h) vs ps :=
  H.mono fun v p x => by
    obtain ⟨a, t1, t2, e, m⟩ := x
    exact ⟨a, t1, t2, e, (N _ (sub _ m)).1⟩

noncomputable def restB : List Stmt := rest1.drop 9
noncomputable def cleanP (p : Par) : List Nat := match p.2 with
  | none => p.1
  | some v => if v ≠ [] ∧ onlyB v clnL = true then p.1 ++ 61 :: v else p.1 ++ 61 :: 34 :: (v ++ [34])
noncomputable def ClnJ (prs : List Par) (Lc Lp r6 : Addr) (nb : List (Addr × Obj)) (i : Nat) (m : PySem.Str → Option Value) (news : List (Addr × Obj)) : Prop :=
  ∃ cv n, news = (Lc, listOf (List.toArray cv) n) :: nb ∧ StrsAre cv (((prs.take i).map cleanP).map S) ∧ m (PySem.Str.ofString "clean") = some (.ref Lc) ∧ m (PySem.Str.ofString "pairs") = some (.ref Lp) ∧ m (PySem.Str.ofString "lists") = some (.ref r6)

theorem s_eq (k : List Nat) : S k ++ PySem.Str.ofString "=" = S (k ++ [61]) := by rw [ofStr_eq, S_append]
theorem s_bare (k v : List Nat) : S k ++ PySem.Str.ofString "=" ++ S v = S (k ++ 61 :: v) := by rw [ofStr_eq, S_append, S_append]; simp
theorem ofStr_eqq : PySem.Str.ofString "=\"" = S [61, 34] := by decide +kernel
theorem s_quo (k v : List Nat) : S k ++ PySem.Str.ofString "=\"" ++ S v ++ PySem.Str.ofString "\"" = S (k ++ 61 :: 34 :: (v ++ [34])) := by rw [ofStr_eqq, ofStr_quote, S_append, S_append, S_append]; simp
theorem ofStr_cln : PySem.Str.ofString "a7~'" = S clnL := by decide +kernel
theorem cln_next {g h' : Heap} {L : Addr} {m' : PySem.Str → Option Value} {prs : List Par} {pr : Par} {Lc Lp r6 I : Addr} {oI : Obj} {cv : List Value} {i n tk : Nat} {nb : List (Addr × Obj)} {y : PySem.Str} {t : Tok} {s : Shared} {Q : Flow → Shared → Prop}
    (F : Fr g L h' m') (N : News g L h' ((Lc, listOf (cv ++ [Value.str y t]).toArray (n + 1)) :: (I, oI) :: nb)) (hcv : StrsAre cv (((prs.take i).map cleanP).map S)) (htk : prs.take (i + 1) = prs.take i ++ [pr]) (hy : y = S (cleanP pr)) (hcI : @Ne Nat Lc I) (hnb : ∀ p ∈ nb, p.1 ≠ I)
    (mc : m' (PySem.Str.ofString "clean") = some (.ref Lc)) (mp : m' (PySem.Str.ofString "pairs") = some (.ref Lp)) (ml : m' (PySem.Str.ofString "lists") = some (.ref r6)) :
    Turn g L (I, oI) (ClnJ prs Lc Lp r6 nb (i + 1)) s Q .next { s with heap := h', toks := tk } := by
  subst hy
  refine Turn.next F (news' := (Lc, listOf (cv ++ [Value.str (S (cleanP pr)) t]).toArray (n + 1)) :: nb) (news_sub N ?_) (List.forall_mem_cons.mpr ⟨hcI, hnb⟩) ⟨_, _, rfl, ?_, mc, mp, ml⟩
  · intro p hp
    simp only [List.cons_append, List.mem_cons, List.mem_append, List.not_mem_nil, or_false] at hp ⊢
    rcases hp with rfl | hp | rfl <;> simp [*]
  · rw [htk, List.map_append, List.map_append]
    exact KStt.strs_snoc hcv
theorem ones_at {fz : List (Addr × Obj)} {g : Heap} : ∀ {vs : List Value} {ps : List Par}, All2 (ListOfP fz) vs (ps.map fun p => [p]) → (∀ p ∈ fz, g.get? p.1 = some p.2) → All2 (OneAt g) vs ps
  | _, [], .nil, _ => .nil
  | _, p :: ps, .cons x r, k => by
    refine .cons ?_ (ones_at r k)
    obtain ⟨a, ws, n, rfl, m, t⟩ := x
    cases t with
    | cons y r' =>
      cases r'
      obtain ⟨b, t1, t2, rfl, mb⟩ := y
      exact ⟨a, n, _, rfl, k _ m, b, t1, t2, rfl, k _ mb⟩
theorem ok_append {a b : List Nat} (ha : okC a) (hb : okC b) : okC (a ++ b) := fun c hc => (List.mem_append.mp hc).elim (ha c) (hb c)
theorem ok_cons {c : Nat} {b : List Nat} (ha : c < 1114112) (hb : okC b) : okC (c :: b) := fun d hd => by
  rcases List.mem_cons.mp hd with rfl | hd
  · exact ha
  · exact hb d hd
theorem clean_ok {prs : List Par} (h : ∀ p ∈ prs, ParOk p) : ∀ r ∈ prs.map cleanP, okC r := by
  intro r hr
  obtain ⟨⟨k, v⟩, hp, rfl⟩ := List.mem_map.mp hr
  have hk := h _ hp
  unfold cleanP
  cases v with
  | none => exact hk.1
  | some v =>
    have hv := hk.2 v rfl
    dsimp only
    split
    · exact ok_append hk.1 (ok_cons (by decide) hv)
    · exact ok_append hk.1 (ok_cons (by decide) (ok_cons (by decide) (ok_append hv (ok_cons (by decide) fun _ h => nomatch h))))
theorem law_end {prog : Program} {w : World} {g : Heap} {L fa : Addr} {cd : Value} {p : Program} {loose : List PySem.Str} {mean : ExcName → Option Value} {mg mb : PySem.Str → Option Value} {Q : Flow → Shared → Prop} {s : Shared}
    {pv rv6 : List Value} {np n6 : Nat} {Lc Lp r6 : Addr} {tk : Nat} {m₁ : PySem.Str → Option Value} {h : Heap} {fz6 fz : List (Addr × Obj)} {tab6 : Array Value} {prs raws2 raws3 : List Par}
    (B : Below callerA g [] g) (X : (hd.heap_39 w.params).In g) (T : Top p loose mean mg mb g)
    (F : Fr g L h m₁) (N : News g L h ((Lc, listOf (List.toArray []) 0) :: (r6, listOf rv6.toArray n6) :: (Lp, listOf pv.toArray np) :: (94, tabObj #[]) :: (77, tabObj tab6) :: (fz6 ++ fz)))
    (hprs : All2 (TupOf fz) pv prs) (s6 : All2 (ListOfP fz6) rv6 (prs.map fun p => [p]))
    (hc6 : @LT.lt Nat _ r6 Lc) (hcp : @LT.lt Nat _ Lp Lc) (hc9 : @LT.lt Nat _ 94 Lc) (hcf : ∀ p ∈ fz6 ++ fz, p.1 ≠ Lc) (h69 : @Ne Nat r6 94) (hp9 : @Ne Nat Lp 94) (hf9 : ∀ p ∈ fz6 ++ fz, p.1 ≠ 94)
    (mc : m₁ (PySem.Str.ofString "clean") = some (.ref Lc)) (mp : m₁ (PySem.Str.ofString "pairs") = some (.ref Lp)) (ml : m₁ (PySem.Str.ofString "lists") = some (.ref r6))
    (hpl : prs.length ≤ 100) (hpp : ∀ p ∈ prs, p.1.length ≤ 100 ∧ ∀ v, p.2 = some v → v.length ≤ 100) (hpo : ∀ p ∈ prs, ParOk p)
    (hjl : (joinL [44, 32] (prs.map wordJ)).length ≤ 90000) (hP4 : phlR (S (joinL [44, 32] (prs.map wordJ))) = (prs.map cleanP).map S)
    (h2 : prs.map cleanP = raws2.map eltOf) (h2p : ∀ r ∈ raws2, 61 ∉ r.1 ∧ r.1.length ≤ 100 ∧ ∀ v, r.2 = some v → v.length ≤ 100 ∧ v ≠ [34]) (h2r : readR raws2 = dueR false prs) (h2o : OutOk (readR raws2))
    (h3 : (prs.map cleanP).filter (fun r => decide (61 ∈ r)) = raws3.map eltOf) (h3p : ∀ r ∈ raws3, 61 ∉ r.1 ∧ r.1.length ≤ 100 ∧ ∀ v, r.2 = some v → v.length ≤ 100 ∧ v ≠ [34]) (h3r : readR raws3 = dueR false (prs.filter fun p => p.2.isSome)) (h3o : OutOk (readR raws3))
    (hQ : ∀ m' nw tabA tabB h' tk', Fr g L h' m' → News g L h' nw → (94, tabObj tabA) ∈ nw → (77, tabObj tabB) ∈ nw → Q (.ret (.bool true)) { s with heap := h', toks := tk' }) :
    wpAny (model prog w) (callerA.deeper (lawE L fa cd)) (execs restB (lawE L fa cd)) Q (fun _ _ => False) { s with heap := h, toks := tk } := by
  w_on
  w_strict (
  unfold restB rest1 lawB Challenge.pw_nb0191_01
  dsimp only [lastBody, forRest, List.drop]
  unfold lawE lawSc Challenge.pw_nb0191_01
  dsimp only [lastScope]
  have F1 := fr_see [(PySem.Str.ofString "clean", .ref Lc), (PySem.Str.ofString "pairs", .ref Lp), (PySem.Str.ofString "lists", .ref r6)] F (by
    intro p hp
    simp only [List.mem_cons, List.not_mem_nil, or_false] at hp
    rcases hp with rfl | rfl | rfl
    · exact mc
    · exact mp
    · exact ml)
  clear F mc mp ml
  (repeat' ((fail_if_success ((first | (with_reducible show Turn _ _ _ _ _ _ _ _) | (with_reducible show LCg.CompEnd _ _ _ _ _ _ _ _ _ _ _ _ _ _) | (with_reducible show wpAny _ _ (subscriptTail _ _ (Value.ref _) (Value.int _ _)) _ _ _) | (with_reducible show wpAny _ _ (call (Value.ref _) _ _) _ _ _) | (with_reducible show wpAny _ _ (call (Value.builtin "str.join") _ _) _ _ _) | (with_reducible show wpAny _ _ (call (Value.builtin "str.count") _ _) _ _ _) | (with_reducible show wpAny _ _ (call (Value.builtin "list.extend") _ _) _ _ _) | (with_reducible show wpAny _ _ (call (Value.builtin "list.pop") _ _) _ _ _) | (with_reducible show wpAny _ _ (compareOp _ (Value.ref _) (Value.ref _)) _ _ _) | (with_reducible show wpAny _ _ (compareOp CmpOp.NotEq _ _) _ _ _) | (with_reducible show wpAny _ _ (compareOp CmpOp.Eq _ _) _ _ _) | (with_reducible show wpAny _ _ (binaryOp Operator.Mult _ _) _ _ _) | (with_reducible show wpAny _ _ (exec (Stmt.Assign _ (PySem.Expr.ListComp _ _ _ _) _) _) _ _ _) | (with_reducible show wpAny _ _ (exec (Stmt.For _ _ _ _ _) _) _ _ _) | (with_reducible show wpAny _ _ (exec (Stmt.While _ _ _ _) _) _ _ _) | (with_reducible show wpAny _ _ (eval (PySem.Expr.ListComp _ _ _ _) _) _ _ _)))); first | (k_unfold; (try dsimp only)) | walk1 | (dsimp only; walk1)))
  refine For_T ?_ (by intro _; rfl)
  walk1
  refine iter_listT (src := [(Lp, listOf pv.toArray np)]) (vs := pv) (k := np) (ClnJ prs Lc Lp r6 ((r6, listOf rv6.toArray n6) :: (Lp, listOf pv.toArray np) :: (94, tabObj #[]) :: (77, tabObj tab6) :: (fz6 ++ fz))) rfl (.inr (.head _)) ?_ F1 N ⟨[], 0, rfl, .nil, rfl, rfl, rfl⟩ ?turn ?done (fun _ _ h => h.elim)
  · rintro i m news ⟨cv, n, rfl, _⟩ p hp
    rw [List.mem_singleton.mp hp]
    exact .tail _ (.tail _ (.head _))
  case turn =>
    rintro i v m₂ news₂ I oI h2' tk2 hi ⟨cv, n, rfl, hcv, mc, mp, ml⟩ hoff F2 N2
    obtain ⟨pr, hpr, a, t1, t2, rfl, ma⟩ := hprs.get hi
    have F3 := fr_see [(PySem.Str.ofString "clean", .ref Lc), (PySem.Str.ofString "pairs", .ref Lp), (PySem.Str.ofString "lists", .ref r6)] F2 (by
      intro p hp
      simp only [List.mem_cons, List.not_mem_nil, or_false] at hp
      rcases hp with rfl | rfl | rfl
      · exact mc
      · exact mp
      · exact ml)
    clear F2 mc mp ml F1 N
    have hT : IsTup h2' a #[.str (S pr.1) t1, valOf pr.2 t2] := ⟨_, (N2 _ (List.mem_append_left _ (.tail _ (.tail _ (.tail _ (.tail _ (.tail _ (List.mem_append_right _ ma)))))))).1, rfl, _, rfl⟩
    have hcI : @Ne Nat Lc I := hoff _ (.head _)
    have hnb : ∀ p ∈ (r6, listOf rv6.toArray n6) :: (Lp, listOf pv.toArray np) :: (94, tabObj #[]) :: (77, tabObj tab6) :: (fz6 ++ fz), p.1 ≠ I := fun p hp => hoff p (.tail _ hp)
    have hpr2 := hpp _ (List.mem_of_getElem? hpr)
    have hpo2 := hpo _ (List.mem_of_getElem? hpr)
    have htk : prs.take (i + 1) = prs.take i ++ [pr] := by rw [List.take_add_one, hpr]; rfl
    have hcl : cv.length ≤ 100 := by rw [hcv.length, List.length_map, List.length_map, List.length_take]; (first | lia | omega)
    have N3 := news_sub (news' := (Lc, listOf cv.toArray n) :: (I, oI) :: (r6, listOf rv6.toArray n6) :: (Lp, listOf pv.toArray np) :: (94, tabObj #[]) :: (77, tabObj tab6) :: (fz6 ++ fz)) N2 (by
      intro p hp
      simp only [List.cons_append, List.mem_cons, List.mem_append, List.not_mem_nil, or_false] at hp ⊢
      rcases hp with rfl | rfl | rfl | rfl | rfl | rfl | hp | hp <;> simp [*])
    replace N3 : News g L _ _ := N3
    replace F3 : Fr g L _ _ := F3
    clear N2
    obtain ⟨key, val⟩ := pr
    cases val with
    | none =>
      dsimp only [valOf] at hT
      (repeat' ((fail_if_success ((first | (with_reducible show Turn _ _ _ _ _ _ _ _) | (with_reducible show LCg.CompEnd _ _ _ _ _ _ _ _ _ _ _ _ _ _) | (with_reducible show wpAny _ _ (subscriptTail _ _ (Value.ref _) (Value.int _ _)) _ _ _) | (with_reducible show wpAny _ _ (call (Value.ref _) _ _) _ _ _) | (with_reducible show wpAny _ _ (call (Value.builtin "str.join") _ _) _ _ _) | (with_reducible show wpAny _ _ (call (Value.builtin "str.count") _ _) _ _ _) | (with_reducible show wpAny _ _ (call (Value.builtin "list.extend") _ _) _ _ _) | (with_reducible show wpAny _ _ (call (Value.builtin "list.pop") _ _) _ _ _) | (with_reducible show wpAny _ _ (compareOp _ (Value.ref _) (Value.ref _)) _ _ _) | (with_reducible show wpAny _ _ (compareOp CmpOp.NotEq _ _) _ _ _) | (with_reducible show wpAny _ _ (compareOp CmpOp.Eq _ _) _ _ _) | (with_reducible show wpAny _ _ (binaryOp Operator.Mult _ _) _ _ _) | (with_reducible show wpAny _ _ (exec (Stmt.Assign _ (PySem.Expr.ListComp _ _ _ _) _) _) _ _ _) | (with_reducible show wpAny _ _ (exec (Stmt.For _ _ _ _ _) _) _ _ _) | (with_reducible show wpAny _ _ (exec (Stmt.While _ _ _ _) _) _ _ _) | (with_reducible show wpAny _ _ (eval (PySem.Expr.ListComp _ _ _ _) _) _ _ _)))); first | (k_unfold; (try dsimp only)) | walk1 | (dsimp only; walk1)))
      rename Fr _ _ _ _ => F9
      rename News _ _ _ _ => N9
      exact cln_next F9 N9 hcv htk rfl hcI hnb rfl rfl rfl
    | some v =>
      dsimp only [valOf] at hT
      have hvl : v.length ≤ 100 := hpr2.2 v rfl
      have hkl : key.length ≤ 100 := hpr2.1
      have hvS : (S v).length ≤ 100 := by rw [S_length]; exact hvl
      have hkS : (S key).length ≤ 100 := by rw [S_length]; exact hkl
      (repeat' ((fail_if_success ((first | (with_reducible show Turn _ _ _ _ _ _ _ _) | (with_reducible show LCg.CompEnd _ _ _ _ _ _ _ _ _ _ _ _ _ _) | (with_reducible show wpAny _ _ (subscriptTail _ _ (Value.ref _) (Value.int _ _)) _ _ _) | (with_reducible show wpAny _ _ (call (Value.ref _) _ _) _ _ _) | (with_reducible show wpAny _ _ (call (Value.builtin "str.join") _ _) _ _ _) | (with_reducible show wpAny _ _ (call (Value.builtin "str.count") _ _) _ _ _) | (with_reducible show wpAny _ _ (call (Value.builtin "list.extend") _ _) _ _ _) | (with_reducible show wpAny _ _ (call (Value.builtin "list.pop") _ _) _ _ _) | (with_reducible show wpAny _ _ (compareOp _ (Value.ref _) (Value.ref _)) _ _ _) | (with_reducible show wpAny _ _ (compareOp CmpOp.NotEq _ _) _ _ _) | (with_reducible show wpAny _ _ (compareOp CmpOp.Eq _ _) _ _ _) | (with_reducible show wpAny _ _ (binaryOp Operator.Mult _ _) _ _ _) | (with_reducible show wpAny _ _ (exec (Stmt.Assign _ (PySem.Expr.ListComp _ _ _ _) _) _) _ _ _) | (with_reducible show wpAny _ _ (exec (Stmt.For _ _ _ _ _) _) _ _ _) | (with_reducible show wpAny _ _ (exec (Stmt.While _ _ _ _) _) _ _ _) | (with_reducible show wpAny _ _ (eval (PySem.Expr.ListComp _ _ _ _) _) _ _ _)))); first | (k_unfold; (try dsimp only)) | walk1 | (dsimp only; walk1)))
      refine ne_str ?_
      rw [ofStr_nil, bne, S_eq_beq]
      by_cases hv0 : v = []
      · subst hv0
        simp only [beq_self_eq_true, Bool.not_true]
        (repeat' ((fail_if_success ((first | (with_reducible show Turn _ _ _ _ _ _ _ _) | (with_reducible show LCg.CompEnd _ _ _ _ _ _ _ _ _ _ _ _ _ _) | (with_reducible show wpAny _ _ (subscriptTail _ _ (Value.ref _) (Value.int _ _)) _ _ _) | (with_reducible show wpAny _ _ (call (Value.ref _) _ _) _ _ _) | (with_reducible show wpAny _ _ (call (Value.builtin "str.join") _ _) _ _ _) | (with_reducible show wpAny _ _ (call (Value.builtin "str.count") _ _) _ _ _) | (with_reducible show wpAny _ _ (call (Value.builtin "list.extend") _ _) _ _ _) | (with_reducible show wpAny _ _ (call (Value.builtin "list.pop") _ _) _ _ _) | (with_reducible show wpAny _ _ (compareOp _ (Value.ref _) (Value.ref _)) _ _ _) | (with_reducible show wpAny _ _ (compareOp CmpOp.NotEq _ _) _ _ _) | (with_reducible show wpAny _ _ (compareOp CmpOp.Eq _ _) _ _ _) | (with_reducible show wpAny _ _ (binaryOp Operator.Mult _ _) _ _ _) | (with_reducible show wpAny _ _ (exec (Stmt.Assign _ (PySem.Expr.ListComp _ _ _ _) _) _) _ _ _) | (with_reducible show wpAny _ _ (exec (Stmt.For _ _ _ _ _) _) _ _ _) | (with_reducible show wpAny _ _ (exec (Stmt.While _ _ _ _) _) _ _ _) | (with_reducible show wpAny _ _ (eval (PySem.Expr.ListComp _ _ _ _) _) _ _ _)))); first | (k_unfold; (try dsimp only)) | walk1 | (dsimp only; walk1)))
        rename Fr _ _ _ _ => F9
        rename News _ _ _ _ => N9
        exact cln_next F9 N9 hcv htk ((s_quo _ _).trans (by unfold cleanP; simp)) hcI hnb rfl rfl rfl
      · have hb : (v == []) = false := by simpa using hv0
        rw [hb]
        simp only [Bool.not_false]
        (repeat' ((fail_if_success ((first | (with_reducible show Turn _ _ _ _ _ _ _ _) | (with_reducible show LCg.CompEnd _ _ _ _ _ _ _ _ _ _ _ _ _ _) | (with_reducible show wpAny _ _ (subscriptTail _ _ (Value.ref _) (Value.int _ _)) _ _ _) | (with_reducible show wpAny _ _ (call (Value.ref _) _ _) _ _ _) | (with_reducible show wpAny _ _ (call (Value.builtin "str.join") _ _) _ _ _) | (with_reducible show wpAny _ _ (call (Value.builtin "str.count") _ _) _ _ _) | (with_reducible show wpAny _ _ (call (Value.builtin "list.extend") _ _) _ _ _) | (with_reducible show wpAny _ _ (call (Value.builtin "list.pop") _ _) _ _ _) | (with_reducible show wpAny _ _ (compareOp _ (Value.ref _) (Value.ref _)) _ _ _) | (with_reducible show wpAny _ _ (compareOp CmpOp.NotEq _ _) _ _ _) | (with_reducible show wpAny _ _ (compareOp CmpOp.Eq _ _) _ _ _) | (with_reducible show wpAny _ _ (binaryOp Operator.Mult _ _) _ _ _) | (with_reducible show wpAny _ _ (exec (Stmt.Assign _ (PySem.Expr.ListComp _ _ _ _) _) _) _ _ _) | (with_reducible show wpAny _ _ (exec (Stmt.For _ _ _ _ _) _) _ _ _) | (with_reducible show wpAny _ _ (exec (Stmt.While _ _ _ _) _) _ _ _) | (with_reducible show wpAny _ _ (eval (PySem.Expr.ListComp _ _ _ _) _) _ _ _)))); first | (k_unfold; (try dsimp only)) | walk1 | (dsimp only; walk1)))
        rename Fr _ _ _ _ => F6
        rename News _ _ _ _ => N6
        rw [ofStr_cln]
        refine only_call B F6 X N6 T rfl rfl hvl (by decide) (hpo2.2 v rfl) ?_
        intro h7 tk7 F7 N7
        clear F6 N6
        cases hon : onlyB v clnL
        · (repeat' ((fail_if_success ((first | (with_reducible show Turn _ _ _ _ _ _ _ _) | (with_reducible show LCg.CompEnd _ _ _ _ _ _ _ _ _ _ _ _ _ _) | (with_reducible show wpAny _ _ (subscriptTail _ _ (Value.ref _) (Value.int _ _)) _ _ _) | (with_reducible show wpAny _ _ (call (Value.ref _) _ _) _ _ _) | (with_reducible show wpAny _ _ (call (Value.builtin "str.join") _ _) _ _ _) | (with_reducible show wpAny _ _ (call (Value.builtin "str.count") _ _) _ _ _) | (with_reducible show wpAny _ _ (call (Value.builtin "list.extend") _ _) _ _ _) | (with_reducible show wpAny _ _ (call (Value.builtin "list.pop") _ _) _ _ _) | (with_reducible show wpAny _ _ (compareOp _ (Value.ref _) (Value.ref _)) _ _ _) | (with_reducible show wpAny _ _ (compareOp CmpOp.NotEq _ _) _ _ _) | (with_reducible show wpAny _ _ (compareOp CmpOp.Eq _ _) _ _ _) | (with_reducible show wpAny _ _ (binaryOp Operator.Mult _ _) _ _ _) | (with_reducible show wpAny _ _ (exec (Stmt.Assign _ (PySem.Expr.ListComp _ _ _ _) _) _) _ _ _) | (with_reducible show wpAny _ _ (exec (Stmt.For _ _ _ _ _) _) _ _ _) | (with_reducible show wpAny _ _ (exec (Stmt.While _ _ _ _) _) _ _ _) | (with_reducible show wpAny _ _ (eval (PySem.Expr.ListComp _ _ _ _) _) _ _ _)))); first | (k_unfold; (try dsimp only)) | walk1 | (dsimp only; walk1)))
          rename Fr _ _ _ _ => F9
          rename News _ _ _ _ => N9
          exact cln_next F9 N9 hcv htk ((s_quo _ _).trans (by unfold cleanP; simp [hon])) hcI hnb rfl rfl rfl
        · (repeat' ((fail_if_success ((first | (with_reducible show Turn _ _ _ _ _ _ _ _) | (with_reducible show LCg.CompEnd _ _ _ _ _ _ _ _ _ _ _ _ _ _) | (with_reducible show wpAny _ _ (subscriptTail _ _ (Value.ref _) (Value.int _ _)) _ _ _) | (with_reducible show wpAny _ _ (call (Value.ref _) _ _) _ _ _) | (with_reducible show wpAny _ _ (call (Value.builtin "str.join") _ _) _ _ _) | (with_reducible show wpAny _ _ (call (Value.builtin "str.count") _ _) _ _ _) | (with_reducible show wpAny _ _ (call (Value.builtin "list.extend") _ _) _ _ _) | (with_reducible show wpAny _ _ (call (Value.builtin "list.pop") _ _) _ _ _) | (with_reducible show wpAny _ _ (compareOp _ (Value.ref _) (Value.ref _)) _ _ _) | (with_reducible show wpAny _ _ (compareOp CmpOp.NotEq _ _) _ _ _) | (with_reducible show wpAny _ _ (compareOp CmpOp.Eq _ _) _ _ _) | (with_reducible show wpAny _ _ (binaryOp Operator.Mult _ _) _ _ _) | (with_reducible show wpAny _ _ (exec (Stmt.Assign _ (PySem.Expr.ListComp _ _ _ _) _) _) _ _ _) | (with_reducible show wpAny _ _ (exec (Stmt.For _ _ _ _ _) _) _ _ _) | (with_reducible show wpAny _ _ (exec (Stmt.While _ _ _ _) _) _ _ _) | (with_reducible show wpAny _ _ (eval (PySem.Expr.ListComp _ _ _ _) _) _ _ _)))); first | (k_unfold; (try dsimp only)) | walk1 | (dsimp only; walk1)))
          rename Fr _ _ _ _ => F9
          rename News _ _ _ _ => N9
          exact cln_next F9 N9 hcv htk ((s_bare _ _).trans (by unfold cleanP; simp [hon, hv0])) hcI hnb rfl rfl rfl
  case done =>
    rintro m₃ news₃ h3' tk3 ⟨cv, n, rfl, hcv, mc, mp, ml⟩ F2 N2
    have F3 := fr_see [(PySem.Str.ofString "clean", .ref Lc), (PySem.Str.ofString "pairs", .ref Lp), (PySem.Str.ofString "lists", .ref r6)] F2 (by
      intro p hp
      simp only [List.mem_cons, List.not_mem_nil, or_false] at hp
      rcases hp with rfl | rfl | rfl
      · exact mc
      · exact mp
      · exact ml)
    clear F2 mc mp ml F1 N
    replace N2 : News g L _ _ := N2
    replace F3 : Fr g L _ _ := F3
    rw [hprs.length, List.take_length] at hcv
    dsimp only
    (repeat' ((fail_if_success ((first | (with_reducible show Turn _ _ _ _ _ _ _ _) | (with_reducible show LCg.CompEnd _ _ _ _ _ _ _ _ _ _ _ _ _ _) | (with_reducible show wpAny _ _ (subscriptTail _ _ (Value.ref _) (Value.int _ _)) _ _ _) | (with_reducible show wpAny _ _ (call (Value.ref _) _ _) _ _ _) | (with_reducible show wpAny _ _ (call (Value.builtin "str.join") _ _) _ _ _) | (with_reducible show wpAny _ _ (call (Value.builtin "str.count") _ _) _ _ _) | (with_reducible show wpAny _ _ (call (Value.builtin "list.extend") _ _) _ _ _) | (with_reducible show wpAny _ _ (call (Value.builtin "list.pop") _ _) _ _ _) | (with_reducible show wpAny _ _ (compareOp _ (Value.ref _) (Value.ref _)) _ _ _) | (with_reducible show wpAny _ _ (compareOp CmpOp.NotEq _ _) _ _ _) | (with_reducible show wpAny _ _ (compareOp CmpOp.Eq _ _) _ _ _) | (with_reducible show wpAny _ _ (binaryOp Operator.Mult _ _) _ _ _) | (with_reducible show wpAny _ _ (exec (Stmt.Assign _ (PySem.Expr.ListComp _ _ _ _) _) _) _ _ _) | (with_reducible show wpAny _ _ (exec (Stmt.For _ _ _ _ _) _) _ _ _) | (with_reducible show wpAny _ _ (exec (Stmt.While _ _ _ _) _) _ _ _) | (with_reducible show wpAny _ _ (eval (PySem.Expr.ListComp _ _ _ _) _) _ _ _)))); first | (k_unfold; (try dsimp only)) | walk1 | (dsimp only; walk1)))
    have N4 := news_sub (news' := (94, tabObj #[]) :: (Lc, listOf cv.toArray n) :: (r6, listOf rv6.toArray n6) :: (Lp, listOf pv.toArray np) :: (77, tabObj tab6) :: (fz6 ++ fz)) N2 (by
      intro p hp
      simp only [List.mem_cons] at hp ⊢
      rcases hp with rfl | rfl | rfl | rfl | rfl | hp <;> simp [*])
    refine jhw_call (l := r6) (nl := n6) (rv := rv6) (ps := prs) B F3 X N4 T rfl rfl ?_ (N2 _ (.tail _ (.head _))).1 h69 (fun g' hg => ones_at s6 fun p hp => hg p (.tail _ (.tail _ (.tail _ (.tail _ (List.mem_append_left _ hp)))))) hpl hpp ?_
    · exact List.forall_mem_cons.mpr ⟨neN (by dsimp only; (first | lia | omega)), List.forall_mem_cons.mpr ⟨h69, List.forall_mem_cons.mpr ⟨hp9, List.forall_mem_cons.mpr ⟨neN (by dsimp only; (first | lia | omega)), hf9⟩⟩⟩⟩
    intro tab5 fz5 h5 tk5 t5 F5 N5
    have N6 := news_sub (news' := (Lc, listOf cv.toArray n) :: (r6, listOf rv6.toArray n6) :: (Lp, listOf pv.toArray np) :: (94, tabObj tab5) :: (77, tabObj tab6) :: (fz6 ++ fz)) N5 (by
      intro p hp
      simp only [List.cons_append, List.mem_cons, List.mem_append] at hp ⊢
      rcases hp with rfl | rfl | rfl | rfl | rfl | hp | hp <;> simp [*])
    clear N5 N4 N2 F3
    (repeat' ((fail_if_success ((first | (with_reducible show Turn _ _ _ _ _ _ _ _) | (with_reducible show LCg.CompEnd _ _ _ _ _ _ _ _ _ _ _ _ _ _) | (with_reducible show wpAny _ _ (subscriptTail _ _ (Value.ref _) (Value.int _ _)) _ _ _) | (with_reducible show wpAny _ _ (call (Value.ref _) _ _) _ _ _) | (with_reducible show wpAny _ _ (call (Value.builtin "str.join") _ _) _ _ _) | (with_reducible show wpAny _ _ (call (Value.builtin "str.count") _ _) _ _ _) | (with_reducible show wpAny _ _ (call (Value.builtin "list.extend") _ _) _ _ _) | (with_reducible show wpAny _ _ (call (Value.builtin "list.pop") _ _) _ _ _) | (with_reducible show wpAny _ _ (compareOp _ (Value.ref _) (Value.ref _)) _ _ _) | (with_reducible show wpAny _ _ (compareOp CmpOp.NotEq _ _) _ _ _) | (with_reducible show wpAny _ _ (compareOp CmpOp.Eq _ _) _ _ _) | (with_reducible show wpAny _ _ (binaryOp Operator.Mult _ _) _ _ _) | (with_reducible show wpAny _ _ (exec (Stmt.Assign _ (PySem.Expr.ListComp _ _ _ _) _) _) _ _ _) | (with_reducible show wpAny _ _ (exec (Stmt.For _ _ _ _ _) _) _ _ _) | (with_reducible show wpAny _ _ (exec (Stmt.While _ _ _ _) _) _ _ _) | (with_reducible show wpAny _ _ (eval (PySem.Expr.ListComp _ _ _ _) _) _ _ _)))); first | (k_unfold; (try dsimp only)) | walk1 | (dsimp only; walk1)))
    refine phl_call B F5 X N6 T rfl rfl (by rw [S_length]; (first | lia | omega)) ?_
    intro l7 vs7 n7 h7 tk7 s7 F7 N7 d7
    rw [hP4] at s7
    clear F5 N6
    (repeat' ((fail_if_success ((first | (with_reducible show Turn _ _ _ _ _ _ _ _) | (with_reducible show LCg.CompEnd _ _ _ _ _ _ _ _ _ _ _ _ _ _) | (with_reducible show wpAny _ _ (subscriptTail _ _ (Value.ref _) (Value.int _ _)) _ _ _) | (with_reducible show wpAny _ _ (call (Value.ref _) _ _) _ _ _) | (with_reducible show wpAny _ _ (call (Value.builtin "str.join") _ _) _ _ _) | (with_reducible show wpAny _ _ (call (Value.builtin "str.count") _ _) _ _ _) | (with_reducible show wpAny _ _ (call (Value.builtin "list.extend") _ _) _ _ _) | (with_reducible show wpAny _ _ (call (Value.builtin "list.pop") _ _) _ _ _) | (with_reducible show wpAny _ _ (compareOp _ (Value.ref _) (Value.ref _)) _ _ _) | (with_reducible show wpAny _ _ (compareOp CmpOp.NotEq _ _) _ _ _) | (with_reducible show wpAny _ _ (compareOp CmpOp.Eq _ _) _ _ _) | (with_reducible show wpAny _ _ (binaryOp Operator.Mult _ _) _ _ _) | (with_reducible show wpAny _ _ (exec (Stmt.Assign _ (PySem.Expr.ListComp _ _ _ _) _) _) _ _ _) | (with_reducible show wpAny _ _ (exec (Stmt.For _ _ _ _ _) _) _ _ _) | (with_reducible show wpAny _ _ (exec (Stmt.While _ _ _ _) _) _ _ _) | (with_reducible show wpAny _ _ (eval (PySem.Expr.ListComp _ _ _ _) _) _ _ _)))); first | (k_unfold; (try dsimp only)) | walk1 | (dsimp only; walk1)))
    rename Fr _ _ _ _ => F8
    rename News _ _ _ _ => N8
    have hck : ∀ r ∈ prs.map cleanP, okC r := clean_ok hpo
    refine rows_ne N8 (.head _) (.tail _ (.head _)) s7 hcv hck (by ke_room) ?_
    (repeat' ((fail_if_success ((first | (with_reducible show Turn _ _ _ _ _ _ _ _) | (with_reducible show LCg.CompEnd _ _ _ _ _ _ _ _ _ _ _ _ _ _) | (with_reducible show wpAny _ _ (subscriptTail _ _ (Value.ref _) (Value.int _ _)) _ _ _) | (with_reducible show wpAny _ _ (call (Value.ref _) _ _) _ _ _) | (with_reducible show wpAny _ _ (call (Value.builtin "str.join") _ _) _ _ _) | (with_reducible show wpAny _ _ (call (Value.builtin "str.count") _ _) _ _ _) | (with_reducible show wpAny _ _ (call (Value.builtin "list.extend") _ _) _ _ _) | (with_reducible show wpAny _ _ (call (Value.builtin "list.pop") _ _) _ _ _) | (with_reducible show wpAny _ _ (compareOp _ (Value.ref _) (Value.ref _)) _ _ _) | (with_reducible show wpAny _ _ (compareOp CmpOp.NotEq _ _) _ _ _) | (with_reducible show wpAny _ _ (compareOp CmpOp.Eq _ _) _ _ _) | (with_reducible show wpAny _ _ (binaryOp Operator.Mult _ _) _ _ _) | (with_reducible show wpAny _ _ (exec (Stmt.Assign _ (PySem.Expr.ListComp _ _ _ _) _) _) _ _ _) | (with_reducible show wpAny _ _ (exec (Stmt.For _ _ _ _ _) _) _ _ _) | (with_reducible show wpAny _ _ (exec (Stmt.While _ _ _ _) _) _ _ _) | (with_reducible show wpAny _ _ (eval (PySem.Expr.ListComp _ _ _ _) _) _ _ _)))); first | (k_unfold; (try dsimp only)) | walk1 | (dsimp only; walk1)))
    have hr2l : raws2.length ≤ 100 := by
      have : raws2.length = prs.length := by rw [← List.length_map (f := eltOf), ← h2, List.length_map]
      (first | lia | omega)
    refine read_call (nl := n7) (vs := vs7) B F8 X N8 T rfl rfl (N8 _ (.head _)).1 (by rw [← h2]; exact s7) hr2l h2p ?_
    intro v9 fz9 h9 tk9 out9 F9 N9
    clear N8 F8
    (repeat' ((fail_if_success ((first | (with_reducible show Turn _ _ _ _ _ _ _ _) | (with_reducible show LCg.CompEnd _ _ _ _ _ _ _ _ _ _ _ _ _ _) | (with_reducible show wpAny _ _ (subscriptTail _ _ (Value.ref _) (Value.int _ _)) _ _ _) | (with_reducible show wpAny _ _ (call (Value.ref _) _ _) _ _ _) | (with_reducible show wpAny _ _ (call (Value.builtin "str.join") _ _) _ _ _) | (with_reducible show wpAny _ _ (call (Value.builtin "str.count") _ _) _ _ _) | (with_reducible show wpAny _ _ (call (Value.builtin "list.extend") _ _) _ _ _) | (with_reducible show wpAny _ _ (call (Value.builtin "list.pop") _ _) _ _ _) | (with_reducible show wpAny _ _ (compareOp _ (Value.ref _) (Value.ref _)) _ _ _) | (with_reducible show wpAny _ _ (compareOp CmpOp.NotEq _ _) _ _ _) | (with_reducible show wpAny _ _ (compareOp CmpOp.Eq _ _) _ _ _) | (with_reducible show wpAny _ _ (binaryOp Operator.Mult _ _) _ _ _) | (with_reducible show wpAny _ _ (exec (Stmt.Assign _ (PySem.Expr.ListComp _ _ _ _) _) _) _ _ _) | (with_reducible show wpAny _ _ (exec (Stmt.For _ _ _ _ _) _) _ _ _) | (with_reducible show wpAny _ _ (exec (Stmt.While _ _ _ _) _) _ _ _) | (with_reducible show wpAny _ _ (eval (PySem.Expr.ListComp _ _ _ _) _) _ _ _)))); first | (k_unfold; (try dsimp only)) | walk1 | (dsimp only; walk1)))
    have mem9 : ∀ p ∈ (l7, listOf vs7.toArray n7) :: (Lc, listOf cv.toArray n) :: (r6, listOf rv6.toArray n6) :: (Lp, listOf pv.toArray np) :: (94, tabObj tab5) :: (77, tabObj tab6) :: (fz6 ++ fz), p ∈ fz9 ++ (l7, listOf vs7.toArray n7) :: (Lc, listOf cv.toArray n) :: (r6, listOf rv6.toArray n6) :: (Lp, listOf pv.toArray np) :: (94, tabObj tab5) :: (77, tabObj tab6) :: (fz6 ++ fz) := fun p hp => List.mem_append_right _ hp
    refine due_call (nl := np) (rv := pv) (ps := prs) (strict := false) B F9 X N9 T rfl rfl (N9 _ (mem9 _ (.tail _ (.tail _ (.tail _ (.head _)))))).1 (tups_at N9 (fun p hp => mem9 _ (.tail _ (.tail _ (.tail _ (.tail _ (.tail _ (.tail _ (List.mem_append_right _ hp)))))))) hprs) hpl hpp ?_
    intro v10 fz10 h10 tk10 out10 F10 N10
    rw [← h2r] at out10
    refine out_ne N10 out9 (fun q hq => List.mem_append_right _ (List.mem_append_left _ hq)) out10 (fun q hq => List.mem_append_left _ hq) h2o (by ke_room) ?_
    have N11 := news_sub N10 fun p hp => List.mem_append_right _ (mem9 p hp)
    clear N10 N9 F9
    (repeat' ((fail_if_success ((first | (with_reducible show Turn _ _ _ _ _ _ _ _) | (with_reducible show LCg.CompEnd _ _ _ _ _ _ _ _ _ _ _ _ _ _) | (with_reducible show wpAny _ _ (subscriptTail _ _ (Value.ref _) (Value.int _ _)) _ _ _) | (with_reducible show wpAny _ _ (call (Value.ref _) _ _) _ _ _) | (with_reducible show wpAny _ _ (call (Value.builtin "str.join") _ _) _ _ _) | (with_reducible show wpAny _ _ (call (Value.builtin "str.count") _ _) _ _ _) | (with_reducible show wpAny _ _ (call (Value.builtin "list.extend") _ _) _ _ _) | (with_reducible show wpAny _ _ (call (Value.builtin "list.pop") _ _) _ _ _) | (with_reducible show wpAny _ _ (compareOp _ (Value.ref _) (Value.ref _)) _ _ _) | (with_reducible show wpAny _ _ (compareOp CmpOp.NotEq _ _) _ _ _) | (with_reducible show wpAny _ _ (compareOp CmpOp.Eq _ _) _ _ _) | (with_reducible show wpAny _ _ (binaryOp Operator.Mult _ _) _ _ _) | (with_reducible show wpAny _ _ (exec (Stmt.Assign _ (PySem.Expr.ListComp _ _ _ _) _) _) _ _ _) | (with_reducible show wpAny _ _ (exec (Stmt.For _ _ _ _ _) _) _ _ _) | (with_reducible show wpAny _ _ (exec (Stmt.While _ _ _ _) _) _ _ _) | (with_reducible show wpAny _ _ (eval (PySem.Expr.ListComp _ _ _ _) _) _ _ _)))); first | (k_unfold; (try dsimp only)) | walk1 | (dsimp only; walk1)))
    refine LCt.Assign_ListComp_T (F₀ := F10) rfl (by with_unfolding_all rfl) (by with_unfolding_all rfl) (by decide) (by rfl) (by decide) (by rfl) (by rfl) (by rfl) ?_
    walk1
    have hpvl : pv.length = prs.length := hprs.length
    refine LCt.CompSrcT.ledger (by rfl) F10 N11 (.tail _ (.tail _ (.tail _ (.head _)))) (by rw [List.size_toArray, sizeLine_eq]; (first | lia | omega)) fun g12 => ?_
    refine compRestT_of (fun i ys nw => nw = (l7, listOf vs7.toArray n7) :: (Lc, listOf cv.toArray n) :: (r6, listOf rv6.toArray n6) :: (Lp, listOf pv.toArray np) :: (94, tabObj tab5) :: (77, tabObj tab6) :: (fz6 ++ fz) ∧ All2 (TupOf fz) ys ((prs.take i).filter fun p => p.2.isSome)) ?_ ?_ _ 0 _ _ (Nat.zero_add _) ⟨rfl, .nil⟩
    · rintro i ys _ v I oI C oC D m₂ h tk E' hi ⟨rfl, hys⟩ hv hC hm F13 N13 off ne
      clear N11 F10
      obtain ⟨pr, hpr, hat⟩ := hprs.get (i := i) (a := v) (by simpa using hv)
      have htk : prs.take (i + 1) = prs.take i ++ [pr] := by rw [List.take_add_one, hpr]; rfl
      have hat2 := hat
      obtain ⟨a, t1, t2, rfl, ma⟩ := hat
      have hT : IsTup h a #[.str (S pr.1) t1, valOf pr.2 t2] := ⟨_, (N13 _ (.tail _ (.tail _ (.tail _ (.tail _ (.tail _ (.tail _ (.tail _ (.tail _ (.tail _ (List.mem_append_right _ ma))))))))))).1, rfl, _, rfl⟩
      obtain ⟨key, val⟩ := pr
      cases val with
      | none =>
        dsimp only [valOf] at hT
        (repeat' ((fail_if_success ((first | (with_reducible show Turn _ _ _ _ _ _ _ _) | (with_reducible show LCg.CompEnd _ _ _ _ _ _ _ _ _ _ _ _ _ _) | (with_reducible show wpAny _ _ (subscriptTail _ _ (Value.ref _) (Value.int _ _)) _ _ _) | (with_reducible show wpAny _ _ (call (Value.ref _) _ _) _ _ _) | (with_reducible show wpAny _ _ (call (Value.builtin "str.join") _ _) _ _ _) | (with_reducible show wpAny _ _ (call (Value.builtin "str.count") _ _) _ _ _) | (with_reducible show wpAny _ _ (call (Value.builtin "list.extend") _ _) _ _ _) | (with_reducible show wpAny _ _ (call (Value.builtin "list.pop") _ _) _ _ _) | (with_reducible show wpAny _ _ (compareOp _ (Value.ref _) (Value.ref _)) _ _ _) | (with_reducible show wpAny _ _ (compareOp CmpOp.NotEq _ _) _ _ _) | (with_reducible show wpAny _ _ (compareOp CmpOp.Eq _ _) _ _ _) | (with_reducible show wpAny _ _ (binaryOp Operator.Mult _ _) _ _ _) | (with_reducible show wpAny _ _ (exec (Stmt.Assign _ (PySem.Expr.ListComp _ _ _ _) _) _) _ _ _) | (with_reducible show wpAny _ _ (exec (Stmt.For _ _ _ _ _) _) _ _ _) | (with_reducible show wpAny _ _ (exec (Stmt.While _ _ _ _) _) _ _ _) | (with_reducible show wpAny _ _ (eval (PySem.Expr.ListComp _ _ _ _) _) _ _ _)))); first | (k_unfold; (try dsimp only)) | walk1 | (dsimp only; walk1)))
        walk1
        (repeat' ((fail_if_success ((first | (with_reducible show Turn _ _ _ _ _ _ _ _) | (with_reducible show LCg.CompEnd _ _ _ _ _ _ _ _ _ _ _ _ _ _) | (with_reducible show wpAny _ _ (subscriptTail _ _ (Value.ref _) (Value.int _ _)) _ _ _) | (with_reducible show wpAny _ _ (call (Value.ref _) _ _) _ _ _) | (with_reducible show wpAny _ _ (call (Value.builtin "str.join") _ _) _ _ _) | (with_reducible show wpAny _ _ (call (Value.builtin "str.count") _ _) _ _ _) | (with_reducible show wpAny _ _ (call (Value.builtin "list.extend") _ _) _ _ _) | (with_reducible show wpAny _ _ (call (Value.builtin "list.pop") _ _) _ _ _) | (with_reducible show wpAny _ _ (compareOp _ (Value.ref _) (Value.ref _)) _ _ _) | (with_reducible show wpAny _ _ (compareOp CmpOp.NotEq _ _) _ _ _) | (with_reducible show wpAny _ _ (compareOp CmpOp.Eq _ _) _ _ _) | (with_reducible show wpAny _ _ (binaryOp Operator.Mult _ _) _ _ _) | (with_reducible show wpAny _ _ (exec (Stmt.Assign _ (PySem.Expr.ListComp _ _ _ _) _) _) _ _ _) | (with_reducible show wpAny _ _ (exec (Stmt.For _ _ _ _ _) _) _ _ _) | (with_reducible show wpAny _ _ (exec (Stmt.While _ _ _ _) _) _ _ _) | (with_reducible show wpAny _ _ (eval (PySem.Expr.ListComp _ _ _ _) _) _ _ _)))); first | (k_unfold; (try dsimp only)) | walk1 | (dsimp only; walk1)))
        refine LCg.CompEnd.intro F13 N13 _ (fun _ hp => hp) off (.inr ⟨_, .tail _ (.tail _ (.tail _ (.head _))), rfl, _, rfl⟩) ⟨rfl, ?_⟩
        rw [htk, List.filter_append, show ([((key, none) : Par)].filter fun p => p.2.isSome) = [] from rfl, List.append_nil]
        exact hys
      | some v =>
        dsimp only [valOf] at hT
        (repeat' ((fail_if_success ((first | (with_reducible show Turn _ _ _ _ _ _ _ _) | (with_reducible show LCg.CompEnd _ _ _ _ _ _ _ _ _ _ _ _ _ _) | (with_reducible show wpAny _ _ (subscriptTail _ _ (Value.ref _) (Value.int _ _)) _ _ _) | (with_reducible show wpAny _ _ (call (Value.ref _) _ _) _ _ _) | (with_reducible show wpAny _ _ (call (Value.builtin "str.join") _ _) _ _ _) | (with_reducible show wpAny _ _ (call (Value.builtin "str.count") _ _) _ _ _) | (with_reducible show wpAny _ _ (call (Value.builtin "list.extend") _ _) _ _ _) | (with_reducible show wpAny _ _ (call (Value.builtin "list.pop") _ _) _ _ _) | (with_reducible show wpAny _ _ (compareOp _ (Value.ref _) (Value.ref _)) _ _ _) | (with_reducible show wpAny _ _ (compareOp CmpOp.NotEq _ _) _ _ _) | (with_reducible show wpAny _ _ (compareOp CmpOp.Eq _ _) _ _ _) | (with_reducible show wpAny _ _ (binaryOp Operator.Mult _ _) _ _ _) | (with_reducible show wpAny _ _ (exec (Stmt.Assign _ (PySem.Expr.ListComp _ _ _ _) _) _) _ _ _) | (with_reducible show wpAny _ _ (exec (Stmt.For _ _ _ _ _) _) _ _ _) | (with_reducible show wpAny _ _ (exec (Stmt.While _ _ _ _) _) _ _ _) | (with_reducible show wpAny _ _ (eval (PySem.Expr.ListComp _ _ _ _) _) _ _ _)))); first | (k_unfold; (try dsimp only)) | walk1 | (dsimp only; walk1)))
        walk1
        (repeat' ((fail_if_success ((first | (with_reducible show Turn _ _ _ _ _ _ _ _) | (with_reducible show LCg.CompEnd _ _ _ _ _ _ _ _ _ _ _ _ _ _) | (with_reducible show wpAny _ _ (subscriptTail _ _ (Value.ref _) (Value.int _ _)) _ _ _) | (with_reducible show wpAny _ _ (call (Value.ref _) _ _) _ _ _) | (with_reducible show wpAny _ _ (call (Value.builtin "str.join") _ _) _ _ _) | (with_reducible show wpAny _ _ (call (Value.builtin "str.count") _ _) _ _ _) | (with_reducible show wpAny _ _ (call (Value.builtin "list.extend") _ _) _ _ _) | (with_reducible show wpAny _ _ (call (Value.builtin "list.pop") _ _) _ _ _) | (with_reducible show wpAny _ _ (compareOp _ (Value.ref _) (Value.ref _)) _ _ _) | (with_reducible show wpAny _ _ (compareOp CmpOp.NotEq _ _) _ _ _) | (with_reducible show wpAny _ _ (compareOp CmpOp.Eq _ _) _ _ _) | (with_reducible show wpAny _ _ (binaryOp Operator.Mult _ _) _ _ _) | (with_reducible show wpAny _ _ (exec (Stmt.Assign _ (PySem.Expr.ListComp _ _ _ _) _) _) _ _ _) | (with_reducible show wpAny _ _ (exec (Stmt.For _ _ _ _ _) _) _ _ _) | (with_reducible show wpAny _ _ (exec (Stmt.While _ _ _ _) _) _ _ _) | (with_reducible show wpAny _ _ (eval (PySem.Expr.ListComp _ _ _ _) _) _ _ _)))); first | (k_unfold; (try dsimp only)) | walk1 | (dsimp only; walk1)))
        refine LCg.CompEnd.intro F13 N13 _ (fun _ hp => hp) off (.inr ⟨_, .tail _ (.tail _ (.tail _ (.head _))), rfl, _, rfl⟩) ⟨rfl, ?_⟩
        rw [htk, List.filter_append, show ([((key, some v) : Par)].filter fun p => p.2.isSome) = [(key, some v)] from rfl]
        exact hys.snoc hat2
    · rintro ys14 _ ⟨rfl, hys14⟩ D14 h14 tk14 F14 N14 off14
      clear N11 F10
      rw [List.size_toArray, hpvl, List.take_length] at hys14
      dsimp only
      (repeat' ((fail_if_success ((first | (with_reducible show Turn _ _ _ _ _ _ _ _) | (with_reducible show LCg.CompEnd _ _ _ _ _ _ _ _ _ _ _ _ _ _) | (with_reducible show wpAny _ _ (subscriptTail _ _ (Value.ref _) (Value.int _ _)) _ _ _) | (with_reducible show wpAny _ _ (call (Value.ref _) _ _) _ _ _) | (with_reducible show wpAny _ _ (call (Value.builtin "str.join") _ _) _ _ _) | (with_reducible show wpAny _ _ (call (Value.builtin "str.count") _ _) _ _ _) | (with_reducible show wpAny _ _ (call (Value.builtin "list.extend") _ _) _ _ _) | (with_reducible show wpAny _ _ (call (Value.builtin "list.pop") _ _) _ _ _) | (with_reducible show wpAny _ _ (compareOp _ (Value.ref _) (Value.ref _)) _ _ _) | (with_reducible show wpAny _ _ (compareOp CmpOp.NotEq _ _) _ _ _) | (with_reducible show wpAny _ _ (compareOp CmpOp.Eq _ _) _ _ _) | (with_reducible show wpAny _ _ (binaryOp Operator.Mult _ _) _ _ _) | (with_reducible show wpAny _ _ (exec (Stmt.Assign _ (PySem.Expr.ListComp _ _ _ _) _) _) _ _ _) | (with_reducible show wpAny _ _ (exec (Stmt.For _ _ _ _ _) _) _ _ _) | (with_reducible show wpAny _ _ (exec (Stmt.While _ _ _ _) _) _ _ _) | (with_reducible show wpAny _ _ (eval (PySem.Expr.ListComp _ _ _ _) _) _ _ _)))); first | (k_unfold; (try dsimp only)) | walk1 | (dsimp only; walk1)))
      refine LCt.ListComp_T (F₀ := F14) (by with_unfolding_all rfl) (by decide) (by rfl) (by decide) (by rfl) ?_
      walk1
      have hvl7 : vs7.length = (prs.map cleanP).length := by rw [s7.length, List.length_map]
      refine LCt.CompSrcT.ledger (by rfl) F14 N14 (.tail _ (.head _)) (by rw [List.size_toArray, hvl7, List.length_map, sizeLine_eq]; (first | lia | omega)) fun g15 => ?_
      refine compRestT_of (fun i ys nw => nw = (D14, LCg.lst ys14) :: (l7, listOf vs7.toArray n7) :: (Lc, listOf cv.toArray n) :: (r6, listOf rv6.toArray n6) :: (Lp, listOf pv.toArray np) :: (94, tabObj tab5) :: (77, tabObj tab6) :: (fz6 ++ fz) ∧ StrsAre ys ((((prs.map cleanP).take i).filter fun r => decide (61 ∈ r)).map S)) ?_ ?_ _ 0 _ _ (Nat.zero_add _) ⟨rfl, .nil⟩
      · rintro i ys _ v I oI C oC D m₂ h tk E' hi ⟨rfl, hys⟩ hv hC hm F16 N16 off ne
        clear N14 F14
        obtain ⟨y, t, rfl, hy⟩ := s7.item i v (by simpa using hv)
        obtain ⟨r, hr, rfl⟩ : ∃ r, (prs.map cleanP)[i]? = some r ∧ y = S r := by
          rw [List.getElem?_map] at hy
          cases hq : (prs.map cleanP)[i]? with
          | none => rw [hq] at hy; cases hy
          | some r => rw [hq] at hy; exact ⟨r, rfl, (Option.some.inj hy).symm⟩
        have htk : (prs.map cleanP).take (i + 1) = (prs.map cleanP).take i ++ [r] := by rw [List.take_add_one, hr]; rfl
        (repeat' ((fail_if_success ((first | (with_reducible show Turn _ _ _ _ _ _ _ _) | (with_reducible show LCg.CompEnd _ _ _ _ _ _ _ _ _ _ _ _ _ _) | (with_reducible show wpAny _ _ (subscriptTail _ _ (Value.ref _) (Value.int _ _)) _ _ _) | (with_reducible show wpAny _ _ (call (Value.ref _) _ _) _ _ _) | (with_reducible show wpAny _ _ (call (Value.builtin "str.join") _ _) _ _ _) | (with_reducible show wpAny _ _ (call (Value.builtin "str.count") _ _) _ _ _) | (with_reducible show wpAny _ _ (call (Value.builtin "list.extend") _ _) _ _ _) | (with_reducible show wpAny _ _ (call (Value.builtin "list.pop") _ _) _ _ _) | (with_reducible show wpAny _ _ (compareOp _ (Value.ref _) (Value.ref _)) _ _ _) | (with_reducible show wpAny _ _ (compareOp CmpOp.NotEq _ _) _ _ _) | (with_reducible show wpAny _ _ (compareOp CmpOp.Eq _ _) _ _ _) | (with_reducible show wpAny _ _ (binaryOp Operator.Mult _ _) _ _ _) | (with_reducible show wpAny _ _ (exec (Stmt.Assign _ (PySem.Expr.ListComp _ _ _ _) _) _) _ _ _) | (with_reducible show wpAny _ _ (exec (Stmt.For _ _ _ _ _) _) _ _ _) | (with_reducible show wpAny _ _ (exec (Stmt.While _ _ _ _) _) _ _ _) | (with_reducible show wpAny _ _ (eval (PySem.Expr.ListComp _ _ _ _) _) _ _ _)))); first | (k_unfold; (try dsimp only)) | walk1 | (dsimp only; walk1)))
        · rename (Builtin.Str.occurrences _ _ _ _ _).isEmpty = _ => he
          rw [ofStr_eq, show S [61] = ⟨#[61]⟩ from rfl, empty_one, S_list] at he
          have he' : 61 ∉ r := by simpa using he
          refine LCg.CompEnd.intro F16 N16 _ (fun _ hp => hp) off (.inr ⟨_, .tail _ (.head _), rfl, _, rfl⟩) ⟨rfl, ?_⟩
          rw [htk, List.filter_append, show ([r].filter fun r => decide (61 ∈ r)) = [] by simp [he'], List.append_nil]
          exact hys
        · rename (Builtin.Str.occurrences _ _ _ _ _).isEmpty = _ => he
          rw [ofStr_eq, show S [61] = ⟨#[61]⟩ from rfl, empty_one, S_list] at he
          have he' : 61 ∈ r := by simpa using he
          refine LCg.CompEnd.intro F16 N16 _ (fun _ hp => hp) off (.inr ⟨_, .tail _ (.head _), rfl, _, rfl⟩) ⟨rfl, ?_⟩
          rw [htk, List.filter_append, show ([r].filter fun r => decide (61 ∈ r)) = [r] by simp [he'], List.map_append]
          exact KStt.strs_snoc hys
      · rintro ys17 _ ⟨rfl, hys17⟩ D17 h17 tk17 F17 N17 off17
        clear N14 F14
        rw [List.size_toArray, hvl7, List.take_length, h3] at hys17
        dsimp only
        have hr3l : raws3.length ≤ 100 := by
          have h1 : raws3.length ≤ (prs.map cleanP).length := by rw [← List.length_map (f := eltOf), ← h3]; exact List.length_filter_le _ _
          rw [List.length_map] at h1
          (first | lia | omega)
        (repeat' ((fail_if_success ((first | (with_reducible show Turn _ _ _ _ _ _ _ _) | (with_reducible show LCg.CompEnd _ _ _ _ _ _ _ _ _ _ _ _ _ _) | (with_reducible show wpAny _ _ (subscriptTail _ _ (Value.ref _) (Value.int _ _)) _ _ _) | (with_reducible show wpAny _ _ (call (Value.ref _) _ _) _ _ _) | (with_reducible show wpAny _ _ (call (Value.builtin "str.join") _ _) _ _ _) | (with_reducible show wpAny _ _ (call (Value.builtin "str.count") _ _) _ _ _) | (with_reducible show wpAny _ _ (call (Value.builtin "list.extend") _ _) _ _ _) | (with_reducible show wpAny _ _ (call (Value.builtin "list.pop") _ _) _ _ _) | (with_reducible show wpAny _ _ (compareOp _ (Value.ref _) (Value.ref _)) _ _ _) | (with_reducible show wpAny _ _ (compareOp CmpOp.NotEq _ _) _ _ _) | (with_reducible show wpAny _ _ (compareOp CmpOp.Eq _ _) _ _ _) | (with_reducible show wpAny _ _ (binaryOp Operator.Mult _ _) _ _ _) | (with_reducible show wpAny _ _ (exec (Stmt.Assign _ (PySem.Expr.ListComp _ _ _ _) _) _) _ _ _) | (with_reducible show wpAny _ _ (exec (Stmt.For _ _ _ _ _) _) _ _ _) | (with_reducible show wpAny _ _ (exec (Stmt.While _ _ _ _) _) _ _ _) | (with_reducible show wpAny _ _ (eval (PySem.Expr.ListComp _ _ _ _) _) _ _ _)))); first | (k_unfold; (try dsimp only)) | walk1 | (dsimp only; walk1)))
        refine read_call (nl := _) (vs := ys17) B F17 X N17 T rfl rfl (N17 _ (.head _)).1 hys17 hr3l h3p ?_
        intro v18 fz18 h18 tk18 out18 F18 N18
        clear N17 F17
        (repeat' ((fail_if_success ((first | (with_reducible show Turn _ _ _ _ _ _ _ _) | (with_reducible show LCg.CompEnd _ _ _ _ _ _ _ _ _ _ _ _ _ _) | (with_reducible show wpAny _ _ (subscriptTail _ _ (Value.ref _) (Value.int _ _)) _ _ _) | (with_reducible show wpAny _ _ (call (Value.ref _) _ _) _ _ _) | (with_reducible show wpAny _ _ (call (Value.builtin "str.join") _ _) _ _ _) | (with_reducible show wpAny _ _ (call (Value.builtin "str.count") _ _) _ _ _) | (with_reducible show wpAny _ _ (call (Value.builtin "list.extend") _ _) _ _ _) | (with_reducible show wpAny _ _ (call (Value.builtin "list.pop") _ _) _ _ _) | (with_reducible show wpAny _ _ (compareOp _ (Value.ref _) (Value.ref _)) _ _ _) | (with_reducible show wpAny _ _ (compareOp CmpOp.NotEq _ _) _ _ _) | (with_reducible show wpAny _ _ (compareOp CmpOp.Eq _ _) _ _ _) | (with_reducible show wpAny _ _ (binaryOp Operator.Mult _ _) _ _ _) | (with_reducible show wpAny _ _ (exec (Stmt.Assign _ (PySem.Expr.ListComp _ _ _ _) _) _) _ _ _) | (with_reducible show wpAny _ _ (exec (Stmt.For _ _ _ _ _) _) _ _ _) | (with_reducible show wpAny _ _ (exec (Stmt.While _ _ _ _) _) _ _ _) | (with_reducible show wpAny _ _ (eval (PySem.Expr.ListComp _ _ _ _) _) _ _ _)))); first | (k_unfold; (try dsimp only)) | walk1 | (dsimp only; walk1)))
        have mem18 : ∀ p ∈ (D14, LCg.lst ys14) :: (l7, listOf vs7.toArray n7) :: (Lc, listOf cv.toArray n) :: (r6, listOf rv6.toArray n6) :: (Lp, listOf pv.toArray np) :: (94, tabObj tab5) :: (77, tabObj tab6) :: (fz6 ++ fz), p ∈ fz18 ++ (D17, LCg.lst ys17) :: (D14, LCg.lst ys14) :: (l7, listOf vs7.toArray n7) :: (Lc, listOf cv.toArray n) :: (r6, listOf rv6.toArray n6) :: (Lp, listOf pv.toArray np) :: (94, tabObj tab5) :: (77, tabObj tab6) :: (fz6 ++ fz) := fun p hp => List.mem_append_right _ (.tail _ hp)
        refine due_call (nl := _) (rv := ys14) (ps := prs.filter fun p => p.2.isSome) (strict := false) B F18 X N18 T rfl rfl (N18 _ (mem18 _ (.head _))).1 (tups_at N18 (fun p hp => mem18 _ (.tail _ (.tail _ (.tail _ (.tail _ (.tail _ (.tail _ (.tail _ (List.mem_append_right _ hp))))))))) hys14) (Nat.le_trans (List.length_filter_le _ _) hpl) (fun p hp => hpp p (List.mem_filter.mp hp).1) ?_
        intro v19 fz19 h19 tk19 out19 F19 N19
        rw [← h3r] at out19
        refine out_eq N19 out18 (fun q hq => List.mem_append_right _ (List.mem_append_left _ hq)) out19 (fun q hq => List.mem_append_left _ hq) h3o (by ke_room) ?_
        exact hQ _ _ tab5 tab6 _ _ F19 N19 (List.mem_append_right _ (mem18 _ (.tail _ (.tail _ (.tail _ (.tail _ (.tail _ (.head _)))))))) (List.mem_append_right _ (mem18 _ (.tail _ (.tail _ (.tail _ (.tail _ (.tail _ (.tail _ (.head _)))))))))
    )
end Mine

end

section
open PySem PySem.W PyProof.Rows PySem.Calls
set_option maxRecDepth 100000
set_option maxHeartbeats 40000000
set_option linter.unusedVariables false
namespace Mine
theorem fillN : Challenge.rw_nb0191_01 = Challenge.rw_nb0191_01 ∧ hd.heap_39 = hd.heap_39 := by k_fill; exact ⟨rfl, rfl⟩
local macro_rules | `(tactic| k_all) => `(tactic| assumption)

theorem key_len : ∀ k, k < 4 → (keyT.getD k []).length ≤ 5 := by decide
theorem gap_cnt : ∀ k, k < 8 → (Txt.count (S (gapT.getD k [])) (PySem.Str.ofString ",") : Int) = (((gapT.getD k []).count 44 : Nat) : Int) := by
  rw [ofStr_comma]
  decide +kernel
theorem signsF_len : ∀ f n, (signsF f n).length ≤ f
  | 0, _ => Nat.le_refl _
  | f + 1, n => by
    unfold signsF
    split
    · simp
    · have := signsF_len f (n / 16)
      simp only [List.length_cons]; (first | lia | omega)
theorem signs_len (n : Nat) : (signsOf n).length ≤ 5 := signsF_len 5 n
theorem signsF_mem : ∀ f n, ∀ c ∈ signsF f n, c ∈ sgnL
  | 0, _ => fun _ h => nomatch h
  | f + 1, n => by
    intro c hc
    unfold signsF at hc
    split at hc
    · nomatch hc
    · rcases List.mem_cons.mp hc with rfl | hc
      · exact gd_mem (show n % 16 < sgnL.length from Nat.mod_lt _ (by decide))
      · exact signsF_mem f (n / 16) c hc
theorem sgn_code : ∀ c ∈ sgnL, c < 1114112 := by decide
theorem signs_code (n : Nat) : ∀ c ∈ signsOf n, c < 1114112 := fun c hc => sgn_code c (signsF_mem 5 n c hc)
theorem escS_len (st : List Nat) : ∀ v : List Nat, (escS st v).length ≤ 2 * v.length
  | [] => Nat.le_refl _
  | c :: v => by
    have := escS_len st v
    unfold escS at this ⊢
    rw [List.flatMap_cons, List.length_append, List.length_cons]
    split <;> simp only [List.length_cons, List.length_nil] <;> (first | lia | omega)
theorem it_bounds (i n : Nat) : (itOf i n).gap.length ≤ 4 ∧ (itOf i n).gap.count 44 ≤ 2 ∧ (itOf i n).key.length ≤ 5 ∧ (itOf i n).word.length ≤ 20 ∧ (itOf i n).part.length ≤ 20 ∧ ∀ v, (itOf i n).val = some v → v.length ≤ 5 := by
  have h1 := gap_len (n / 48 % 8) (Nat.mod_lt _ (by decide))
  have h2 := key_len (n % 4) (Nat.mod_lt _ (by decide))
  have h3 := signs_len (n / 384 + 37 * i + 3)
  have h4 := escS_len (if n / 4 % 12 < 4 ∨ 6 < n / 4 % 12 then strkA else strkB) (signsOf (n / 384 + 37 * i + 3))
  unfold itOf
  split
  · exact ⟨h1.1, h1.2.2, h2, by dsimp only; (first | lia | omega), by dsimp only; (first | lia | omega), fun v e => nomatch e⟩
  split
  · refine ⟨h1.1, h1.2.2, h2, ?_, ?_, fun v e => ?_⟩
    · simp only [List.length_append, List.length_cons, List.length_nil]; (first | lia | omega)
    · simp only [List.length_append, List.length_cons, List.length_nil]; (first | lia | omega)
    · cases e; simp
  split
  · refine ⟨h1.1, h1.2.2, h2, ?_, ?_, fun v e => ?_⟩
    · simp only [List.length_append, List.length_cons, List.length_nil]; (first | lia | omega)
    · simp only [List.length_append, List.length_cons, List.length_nil]; (first | lia | omega)
    · cases e; exact h3
  · refine ⟨h1.1, h1.2.2, h2, ?_, ?_, fun v e => ?_⟩
    · simp only [List.length_append, List.length_cons, List.length_nil]; (first | lia | omega)
    · simp only [List.length_append, List.length_cons, List.length_nil]; (first | lia | omega)
    · cases e; exact h3
theorem itsF_mem : ∀ (ns : List Int) (k : Nat), ∀ t ∈ itsF k ns, ∃ i n, t = itOf i n
  | [], _, _, h => nomatch h
  | a :: ns, k, t, h => by
    rcases List.mem_cons.mp h with rfl | h
    · exact ⟨_, _, rfl⟩
    · exact itsF_mem ns (k + 1) t h
theorem text_len : ∀ (l : List It), (∀ t ∈ l, ∃ i n, t = itOf i n) → (textOf l).length ≤ 24 * l.length
  | [], _ => Nat.le_refl _
  | t :: l, h => by
    have ih := text_len l fun t ht => h t (.tail _ ht)
    obtain ⟨i, n, rfl⟩ := h t (.head _)
    have b := it_bounds i n
    unfold textOf at ih ⊢
    rw [List.flatMap_cons, List.length_append, List.length_append, List.length_cons]
    (first | lia | omega)
theorem row_len : ∀ (l : List It) (r : List (List Nat)), (∀ t ∈ l, ∃ i n, t = itOf i n) → (l.foldl rowS r).length ≤ r.length + 3 * l.length
  | [], _, _ => Nat.le_add_right _ _
  | t :: l, r, h => by
    have ih := row_len l (rowS r t) fun t ht => h t (.tail _ ht)
    obtain ⟨i, n, rfl⟩ := h t (.head _)
    have b := it_bounds i n
    have e : (rowS r (itOf i n)).length ≤ r.length + 3 := by
      unfold rowS
      simp only [List.length_append, List.length_dropLast, List.length_replicate, List.length_cons, List.length_nil]
      (first | lia | omega)
    rw [List.foldl_cons, List.length_cons]
    (first | lia | omega)
theorem ofStr_bare : PySem.Str.ofString "a=7é\\~/'" = S bareL := by decide +kernel
theorem ofStr_strkA : PySem.Str.ofString "\"\\" = S strkA := by decide +kernel
theorem ofStr_strkB : PySem.Str.ofString "\"\\,a;= \té7~/'" = S strkB := by decide +kernel
theorem escW_weight (st : List Nat) {v : List Nat} (h : v.length ≤ 5) : (((escW st v).map S).map (·.length)).sum + ((escW st v).map S).length ≤ 1048576 := by
  have k : ∀ v : List Nat, (((escW st v).map S).map (·.length)).sum ≤ 2 * v.length := by
    intro v
    induction v with
    | nil => exact Nat.le_refl _
    | cons c v ih =>
      unfold escW at ih ⊢
      simp only [List.map_cons, List.sum_cons, List.length_cons, S_length] at ih ⊢
      split <;> simp only [List.length_cons, List.length_nil] <;> (first | lia | omega)
  have := k v
  simp only [List.length_map, escW] at *
  (first | lia | omega)
noncomputable def grabP : List Stmt → PySem.Expr
  | [_, _, .Assign _ e _] => e
  | _ => .Constant .none 0 ⟨0, 0, 0, 0⟩
noncomputable def partE : PySem.Expr := grabP (orElse (orElse (orElse turn1)))
theorem esc_part {prog : Program} {w : World} {g : Heap} {L fa : Addr} {cd : Value} {p : Program} {loose : List PySem.Str} {mean : ExcName → Option Value} {mg mb : PySem.Str → Option Value} {Q : Value → Shared → Prop} {E : Value → Shared → Prop} {s : Shared}
    {m : PySem.Str → Option Value} {a1 a2 : Addr} {o1 o2 : Obj} {rest : List (Addr × Obj)} {oc : Obj} {key v st : List Nat} {tk tv ts : Tok}
    (X : (hd.heap_39 w.params).In g) (T : Top p loose mean mg mb g) (F : Fr g L s.heap m) (N : News g L s.heap ((a1, o1) :: (a2, o2) :: (L + 1, oc) :: rest)) (hoc : oc.data = .cell (some (.str (S st) ts)))
    (mk : m (PySem.Str.ofString "key") = some (.str (S key) tk)) (mv : m (PySem.Str.ofString "value") = some (.str (S v) tv)) (hkl' : (S key).length ≤ 5) (hvl : v.length ≤ 5)
    (hQ : ∀ t h' tk, Fr g L h' m → News g L h' ((a1, o1) :: (a2, o2) :: (L + 1, oc) :: rest) → Q (.str (S (key ++ 61 :: 34 :: (escS st v ++ [34]))) t) { s with heap := h', toks := tk }) :
    wpAny (model prog w) (callerA.deeper (lawE L fa cd)) (eval partE (lawE L fa cd)) Q E s := by
  w_on
  w_strict (
  unfold partE turn1 lawB Challenge.pw_nb0191_01
  dsimp only [lastBody, forBody, orElse, grabP]
  unfold lawE lawSc Challenge.pw_nb0191_01
  dsimp only [lastScope]
  have hmm : ∀ p ∈ [(PySem.Str.ofString "key", Value.str (S key) tk), (PySem.Str.ofString "value", Value.str (S v) tv)], m p.1 = some p.2 := by
    intro p hp
    simp only [List.mem_cons, List.not_mem_nil, or_false] at hp
    rcases hp with rfl | rfl
    · exact mk
    · exact mv
  have F1 := fr_see [(PySem.Str.ofString "key", .str (S key) tk), (PySem.Str.ofString "value", .str (S v) tv)] F hmm
  have em : kstB m [(PySem.Str.ofString "key", .str (S key) tk), (PySem.Str.ofString "value", .str (S v) tv)] = m := by
    funext z
    exact kstB_eq hmm fun _ => rfl
  clear F mk mv
  (repeat' ((fail_if_success ((first | (with_reducible show Turn _ _ _ _ _ _ _ _) | (with_reducible show wpAny _ _ (execs [_, _, _, _] _) _ _ _) | (with_reducible show wpAny _ _ (subscriptTail _ _ (Value.ref _) (Value.int _ _)) _ _ _) | (with_reducible show wpAny _ _ (call (Value.ref _) _ _) _ _ _) | (with_reducible show wpAny _ _ (call (Value.builtin "str.join") _ _) _ _ _) | (with_reducible show wpAny _ _ (call (Value.builtin "str.count") _ _) _ _ _) | (with_reducible show wpAny _ _ (call (Value.builtin "list.extend") _ _) _ _ _) | (with_reducible show wpAny _ _ (setItem _ _ _) _ _ _) | (with_reducible show wpAny _ _ (exec (Stmt.For _ _ _ _ _) _) _ _ _) | (with_reducible show wpAny _ _ (exec (Stmt.While _ _ _ _) _) _ _ _) | (with_reducible show wpAny _ _ (eval (PySem.Expr.ListComp _ _ _ _) _) _ _ _)))); first | (k_unfold; (try dsimp only)) | walk1 | (dsimp only; walk1)))
  rename Fr _ _ _ _ => F9
  rename News _ _ _ _ => N9
  refine esc_comp X T F9 N9 hoc rfl (by (first | lia | omega)) ?_
  intro D10 ys10 h10 tk10 s10 F10 N10
  clear F9 N9
  (repeat' ((fail_if_success ((first | (with_reducible show Turn _ _ _ _ _ _ _ _) | (with_reducible show wpAny _ _ (execs [_, _, _, _] _) _ _ _) | (with_reducible show wpAny _ _ (subscriptTail _ _ (Value.ref _) (Value.int _ _)) _ _ _) | (with_reducible show wpAny _ _ (call (Value.ref _) _ _) _ _ _) | (with_reducible show wpAny _ _ (call (Value.builtin "str.join") _ _) _ _ _) | (with_reducible show wpAny _ _ (call (Value.builtin "str.count") _ _) _ _ _) | (with_reducible show wpAny _ _ (call (Value.builtin "list.extend") _ _) _ _ _) | (with_reducible show wpAny _ _ (setItem _ _ _) _ _ _) | (with_reducible show wpAny _ _ (exec (Stmt.For _ _ _ _ _) _) _ _ _) | (with_reducible show wpAny _ _ (exec (Stmt.While _ _ _ _) _) _ _ _) | (with_reducible show wpAny _ _ (eval (PySem.Expr.ListComp _ _ _ _) _) _ _ _)))); first | (k_unfold; (try dsimp only)) | walk1 | (dsimp only; walk1)))
  rename Fr _ _ _ _ => F11
  rename News _ _ _ _ => N11
  refine join_listW ⟨_, (N11 _ (.head _)).1, rfl, _, rfl⟩ (by simpa using s10) (by decide +kernel) (escW_weight _ hvl) ?_
  intro t12 k12
  have N12 := news_sub N11 fun p hp => .tail _ hp
  clear N11 s10
  rw [ofStr_nil, join_S, escW_flat]
  have hel' : (S (escS st v)).length ≤ 10 := by rw [S_length]; have := escS_len st v; (first | lia | omega)
  (repeat' ((fail_if_success ((first | (with_reducible show Turn _ _ _ _ _ _ _ _) | (with_reducible show wpAny _ _ (execs [_, _, _, _] _) _ _ _) | (with_reducible show wpAny _ _ (subscriptTail _ _ (Value.ref _) (Value.int _ _)) _ _ _) | (with_reducible show wpAny _ _ (call (Value.ref _) _ _) _ _ _) | (with_reducible show wpAny _ _ (call (Value.builtin "str.join") _ _) _ _ _) | (with_reducible show wpAny _ _ (call (Value.builtin "str.count") _ _) _ _ _) | (with_reducible show wpAny _ _ (call (Value.builtin "list.extend") _ _) _ _ _) | (with_reducible show wpAny _ _ (setItem _ _ _) _ _ _) | (with_reducible show wpAny _ _ (exec (Stmt.For _ _ _ _ _) _) _ _ _) | (with_reducible show wpAny _ _ (exec (Stmt.While _ _ _ _) _) _ _ _) | (with_reducible show wpAny _ _ (eval (PySem.Expr.ListComp _ _ _ _) _) _ _ _)))); first | (k_unfold; (try dsimp only)) | walk1 | (dsimp only; walk1)))
  rename Fr _ _ _ _ => F13
  rename News _ _ _ _ => N13
  rw [em] at F13
  rw [s_quo]
  exact hQ _ _ _ F13 N13)
theorem law_turn {prog : Program} {w : World} {g : Heap} {L fa : Addr} {cd : Value} {p : Program} {loose : List PySem.Str} {mean : ExcName → Option Value} {mg mb : PySem.Str → Option Value} {Q : Flow → Shared → Prop} {E : Value → Shared → Prop} {s : Shared}
    {nsl : List Int} {ws : List Value} {Lr Lp D l0 I : Addr} {oI : Obj} {i tk : Nat} {t : Tok} {m₁ : PySem.Str → Option Value} {news₁ : List (Addr × Obj)} {h : Heap}
    (B : Below callerA g [] g) (X : (hd.heap_39 w.params).In g) (T : Top p loose mean mg mb g) (hI : IntsAre ws nsl) (hnl : nsl.length ≤ 9) (hi : i < nsl.length)
    (hJ : LawJ nsl ws Lr Lp L D l0 i m₁ news₁) (hoff : ∀ p ∈ news₁, p.1 ≠ I) (F : Fr g L h (fun y => if y = PySem.Str.ofString "step" then some (.int (i : Int) t) else m₁ y)) (N : News g L h (news₁ ++ [(I, oI)])) :
    wpAny (model prog w) (callerA.deeper (lawE L fa cd)) (execs turn1 (lawE L fa cd)) (Turn g L (I, oI) (LawJ nsl ws Lr Lp L D l0 (i + 1)) s Q) E { s with heap := h, toks := tk } := by
  w_on
  w_strict (
  obtain ⟨rv, pv, nr, np, oc, vo, fz, tt, J⟩ := hJ
  obtain ⟨rfl, hcell, hrow, hprs, fzr, fzp, fzc, fz9, fz7, fzd, ⟨o1, o2, o3, o4⟩, mt, mr, mp, mn, ms⟩ := J
  unfold turn1 lawB Challenge.pw_nb0191_01
  dsimp only [lastBody, forBody]
  unfold lawE lawSc Challenge.pw_nb0191_01
  dsimp only [lastScope]
  have F1 := fr_see [(PySem.Str.ofString "step", .int (i : Int) t), (PySem.Str.ofString "text", .str (S (textOf ((its nsl).take i))) tt), (PySem.Str.ofString "row", .ref Lr), (PySem.Str.ofString "pairs", .ref Lp), (PySem.Str.ofString "numbers", .ref D), (PySem.Str.ofString "script", .ref l0)] F (by
    intro p hp
    simp only [List.mem_cons, List.not_mem_nil, or_false] at hp
    rcases hp with rfl | rfl | rfl | rfl | rfl | rfl
    · rfl
    · exact mt
    · exact mr
    · exact mp
    · exact mn
    · exact ms)
  clear F mt mr mp mn ms
  have i1 : @Ne Nat Lr I := hoff _ (.head _)
  have i2 : @Ne Nat Lp I := hoff _ (.tail _ (.head _))
  have i3 : @Ne Nat (L + 1) I := hoff _ (.tail _ (.tail _ (.head _)))
  have i4 : @Ne Nat 94 I := hoff _ (.tail _ (.tail _ (.tail _ (.head _))))
  have i5 : @Ne Nat 77 I := hoff _ (.tail _ (.tail _ (.tail _ (.tail _ (.head _)))))
  have i6 : @Ne Nat D I := hoff _ (.tail _ (.tail _ (.tail _ (.tail _ (.tail _ (.head _))))))
  have fzi : ∀ p ∈ fz, p.1 ≠ I := fun p hp => hoff p (.tail _ (.tail _ (.tail _ (.tail _ (.tail _ (.tail _ hp))))))
  have N1 := news_sub (news' := (Lr, listOf rv.toArray nr) :: (Lp, listOf pv.toArray np) :: (L + 1, oc) :: (94, tabObj #[]) :: (77, tabObj #[]) :: (D, listOf ws.toArray 0) :: (I, oI) :: fz) N (by
    intro p hp
    simp only [List.cons_append, List.mem_append, List.mem_cons, List.not_mem_nil, or_false] at hp ⊢
    rcases hp with rfl | rfl | rfl | rfl | rfl | rfl | rfl | hp <;> simp [*])
  clear N hoff
  obtain ⟨a, ha⟩ : ∃ a, nsl[i]? = some a := ⟨_, List.getElem?_eq_getElem hi⟩
  obtain ⟨ta, hwa⟩ := ints_get hI ha
  have hnum := num_eq a
  have hlt := num_lt a
  have hit := its_get ha
  have htk : (its nsl).take (i + 1) = (its nsl).take i ++ [itOf i (numOf a)] := by rw [List.take_add_one, hit]; rfl
  clear hit
  generalize numOf a = n at *
  (repeat' ((fail_if_success ((first | (with_reducible show wpAny _ _ (eval (PySem.Expr.BinOp (PySem.Expr.BinOp _ _ (PySem.Expr.Call _ _ _ _) _) _ _ _) _) _ _ _) | (first | (with_reducible show Turn _ _ _ _ _ _ _ _) | (with_reducible show wpAny _ _ (execs [_, _, _, _] _) _ _ _) | (with_reducible show wpAny _ _ (subscriptTail _ _ (Value.ref _) (Value.int _ _)) _ _ _) | (with_reducible show wpAny _ _ (call (Value.ref _) _ _) _ _ _) | (with_reducible show wpAny _ _ (call (Value.builtin "str.join") _ _) _ _ _) | (with_reducible show wpAny _ _ (call (Value.builtin "str.count") _ _) _ _ _) | (with_reducible show wpAny _ _ (call (Value.builtin "list.extend") _ _) _ _ _) | (with_reducible show wpAny _ _ (setItem _ _ _) _ _ _) | (with_reducible show wpAny _ _ (exec (Stmt.For _ _ _ _ _) _) _ _ _) | (with_reducible show wpAny _ _ (exec (Stmt.While _ _ _ _) _) _ _ _) | (with_reducible show wpAny _ _ (eval (PySem.Expr.ListComp _ _ _ _) _) _ _ _))))); first | (k_unfold; (try dsimp only)) | walk1 | (dsimp only; walk1)))
  refine item_at (vs := ws) ⟨_, (N1 _ (.tail _ (.tail _ (.tail _ (.tail _ (.tail _ (.head _))))))).1, rfl, _, rfl⟩ (by (first | lia | omega)) hwa ?_ (by with_unfolding_all rfl)
  (repeat' ((fail_if_success ((first | (with_reducible show wpAny _ _ (eval (PySem.Expr.BinOp (PySem.Expr.BinOp _ _ (PySem.Expr.Call _ _ _ _) _) _ _ _) _) _ _ _) | (first | (with_reducible show Turn _ _ _ _ _ _ _ _) | (with_reducible show wpAny _ _ (execs [_, _, _, _] _) _ _ _) | (with_reducible show wpAny _ _ (subscriptTail _ _ (Value.ref _) (Value.int _ _)) _ _ _) | (with_reducible show wpAny _ _ (call (Value.ref _) _ _) _ _ _) | (with_reducible show wpAny _ _ (call (Value.builtin "str.join") _ _) _ _ _) | (with_reducible show wpAny _ _ (call (Value.builtin "str.count") _ _) _ _ _) | (with_reducible show wpAny _ _ (call (Value.builtin "list.extend") _ _) _ _ _) | (with_reducible show wpAny _ _ (setItem _ _ _) _ _ _) | (with_reducible show wpAny _ _ (exec (Stmt.For _ _ _ _ _) _) _ _ _) | (with_reducible show wpAny _ _ (exec (Stmt.While _ _ _ _) _) _ _ _) | (with_reducible show wpAny _ _ (eval (PySem.Expr.ListComp _ _ _ _) _) _ _ _))))); first | (k_unfold; (try dsimp only)) | walk1 | (dsimp only; walk1)))
  rename Fr _ _ _ _ => F2
  rename News _ _ _ _ => N2
  simp only [hnum] at F2 ⊢
  have e4 : ((n : Int).fmod 4) = ((n % 4 : Nat) : Int) := fmod_nat n 4
  simp only [e4]
  refine item_tab (tab := keyT) ⟨_, (N2 _ (.head _)).1, rfl, _, rfl⟩ (by rw [keyT_S]; repeat constructor) (show n % 4 < 4 from Nat.mod_lt _ (by decide)) (by decide) ?_ (by with_unfolding_all rfl)
  intro tk1
  have N3 := news_sub N2 fun p hp => .tail _ hp
  clear N2
  have hkl : (keyT.getD (n % 4) []).length ≤ 5 := key_len _ (Nat.mod_lt _ (by decide))
  have hkl' : (S (keyT.getD (n % 4) [])).length ≤ 5 := by rw [S_length]; exact hkl
  generalize hkey : keyT.getD (n % 4) [] = key at *
  (repeat' ((fail_if_success ((first | (with_reducible show wpAny _ _ (eval (PySem.Expr.BinOp (PySem.Expr.BinOp _ _ (PySem.Expr.Call _ _ _ _) _) _ _ _) _) _ _ _) | (first | (with_reducible show Turn _ _ _ _ _ _ _ _) | (with_reducible show wpAny _ _ (execs [_, _, _, _] _) _ _ _) | (with_reducible show wpAny _ _ (subscriptTail _ _ (Value.ref _) (Value.int _ _)) _ _ _) | (with_reducible show wpAny _ _ (call (Value.ref _) _ _) _ _ _) | (with_reducible show wpAny _ _ (call (Value.builtin "str.join") _ _) _ _ _) | (with_reducible show wpAny _ _ (call (Value.builtin "str.count") _ _) _ _ _) | (with_reducible show wpAny _ _ (call (Value.builtin "list.extend") _ _) _ _ _) | (with_reducible show wpAny _ _ (setItem _ _ _) _ _ _) | (with_reducible show wpAny _ _ (exec (Stmt.For _ _ _ _ _) _) _ _ _) | (with_reducible show wpAny _ _ (exec (Stmt.While _ _ _ _) _) _ _ _) | (with_reducible show wpAny _ _ (eval (PySem.Expr.ListComp _ _ _ _) _) _ _ _))))); first | (k_unfold; (try dsimp only)) | walk1 | (dsimp only; walk1)))
  rename Fr _ _ _ _ => F4
  rename News _ _ _ _ => N4
  have edr : (((n : Int).fdiv 4).fmod 12) = ((n / 4 % 12 : Nat) : Int) := by
    rw [show ((n : Int).fdiv 4) = ((n / 4 : Nat) : Int) from fdiv_nat n 4]; exact fmod_nat _ 12
  have ega : (((n : Int).fdiv 48).fmod 8) = ((n / 48 % 8 : Nat) : Int) := by
    rw [show ((n : Int).fdiv 48) = ((n / 48 : Nat) : Int) from fdiv_nat n 48]; exact fmod_nat _ 8
  simp only [edr] at F4
  simp only [ega]
  refine item_tab (tab := gapT) ⟨_, (N4 _ (.head _)).1, rfl, _, rfl⟩ (by rw [gapT_S]; repeat constructor) (show n / 48 % 8 < 8 from Nat.mod_lt _ (by decide)) (by decide) ?_ (by with_unfolding_all rfl)
  intro tk2
  have N5 := news_sub N4 fun p hp => .tail _ hp
  clear N4
  have hg := gap_len (n / 48 % 8) (Nat.mod_lt _ (by decide))
  have hgcnt := gap_cnt (n / 48 % 8) (Nat.mod_lt _ (by decide))
  have hgl' : (S (gapT.getD (n / 48 % 8) [])).length ≤ 4 := by rw [S_length]; exact hg.1
  generalize hgap : gapT.getD (n / 48 % 8) [] = gap at *
  (repeat' ((fail_if_success ((first | (with_reducible show wpAny _ _ (eval (PySem.Expr.BinOp (PySem.Expr.BinOp _ _ (PySem.Expr.Call _ _ _ _) _) _ _ _) _) _ _ _) | (first | (with_reducible show Turn _ _ _ _ _ _ _ _) | (with_reducible show wpAny _ _ (execs [_, _, _, _] _) _ _ _) | (with_reducible show wpAny _ _ (subscriptTail _ _ (Value.ref _) (Value.int _ _)) _ _ _) | (with_reducible show wpAny _ _ (call (Value.ref _) _ _) _ _ _) | (with_reducible show wpAny _ _ (call (Value.builtin "str.join") _ _) _ _ _) | (with_reducible show wpAny _ _ (call (Value.builtin "str.count") _ _) _ _ _) | (with_reducible show wpAny _ _ (call (Value.builtin "list.extend") _ _) _ _ _) | (with_reducible show wpAny _ _ (setItem _ _ _) _ _ _) | (with_reducible show wpAny _ _ (exec (Stmt.For _ _ _ _ _) _) _ _ _) | (with_reducible show wpAny _ _ (exec (Stmt.While _ _ _ _) _) _ _ _) | (with_reducible show wpAny _ _ (eval (PySem.Expr.ListComp _ _ _ _) _) _ _ _))))); first | (k_unfold; (try dsimp only)) | walk1 | (dsimp only; walk1)))
  rename Fr _ _ _ _ => F6
  rename News _ _ _ _ => N6
  have e384 : ((n : Int).fdiv 384) = ((n / 384 : Nat) : Int) := fdiv_nat n 384
  refine sig_call (n₀ := n / 384 + 37 * i + 3) B F6 X N6 T rfl rfl (by rw [e384]; push_cast; (first | lia | omega)) (by (first | lia | omega)) ?_
  intro tv h7 tk7 F7 N7
  have hvl : (signsOf (n / 384 + 37 * i + 3)).length ≤ 5 := signs_len _
  have hvc : ∀ c ∈ signsOf (n / 384 + 37 * i + 3), c < 1114112 := signs_code _
  have hvl' : (S (signsOf (n / 384 + 37 * i + 3))).length ≤ 5 := by rw [S_length]; exact hvl
  have hitd : itOf i n = itOf i n := rfl
  conv at hitd => rhs; unfold itOf; rw [hkey, hgap]
  generalize signsOf (n / 384 + 37 * i + 3) = v at *
  have hdr : n / 4 % 12 < 12 := Nat.mod_lt _ (by decide)
  generalize n / 4 % 12 = dr at *
  clear N6 F6 e384
  have hmem : ∀ t ∈ (its nsl).take i, ∃ i n, t = itOf i n := fun t ht => itsF_mem nsl 0 t (List.mem_of_mem_take ht)
  have hti : ((its nsl).take i).length ≤ 9 := by rw [List.length_take]; (first | lia | omega)
  have htl : (textOf ((its nsl).take i)).length ≤ 1000 := by have := text_len _ hmem; (first | lia | omega)
  have hrl : rv.length ≤ 1000 := by
    have := row_len _ [[]] hmem
    have h2 := hrow.length
    rw [List.length_map] at h2
    unfold rowOf at h2
    simp only [List.length_cons, List.length_nil] at this
    (first | lia | omega)
  have hpl : pv.length ≤ 1000 := by
    have := hprs.length
    unfold pairsOf at this
    rw [List.length_map] at this
    (first | lia | omega)
  (repeat' ((fail_if_success ((first | (with_reducible show wpAny _ _ (eval (PySem.Expr.BinOp (PySem.Expr.BinOp _ _ (PySem.Expr.Call _ _ _ _) _) _ _ _) _) _ _ _) | (first | (with_reducible show Turn _ _ _ _ _ _ _ _) | (with_reducible show wpAny _ _ (execs [_, _, _, _] _) _ _ _) | (with_reducible show wpAny _ _ (subscriptTail _ _ (Value.ref _) (Value.int _ _)) _ _ _) | (with_reducible show wpAny _ _ (call (Value.ref _) _ _) _ _ _) | (with_reducible show wpAny _ _ (call (Value.builtin "str.join") _ _) _ _ _) | (with_reducible show wpAny _ _ (call (Value.builtin "str.count") _ _) _ _ _) | (with_reducible show wpAny _ _ (call (Value.builtin "list.extend") _ _) _ _ _) | (with_reducible show wpAny _ _ (setItem _ _ _) _ _ _) | (with_reducible show wpAny _ _ (exec (Stmt.For _ _ _ _ _) _) _ _ _) | (with_reducible show wpAny _ _ (exec (Stmt.While _ _ _ _) _) _ _ _) | (with_reducible show wpAny _ _ (eval (PySem.Expr.ListComp _ _ _ _) _) _ _ _))))); first | (k_unfold; (try dsimp only)) | walk1 | (dsimp only; walk1)))
  · rename (dr : Int) = 10 => hd10
    rename Fr _ _ _ _ => F9
    rename News _ _ _ _ => N9
    exact law_tail (n := n) (t5 := 0) (it := ⟨gap, key, none, key, key⟩) (vo := vo) B X T (by (first | lia | omega)) hnl (by rw [hitd, if_pos (by (first | lia | omega))]) htk htl hrl hpl (by dsimp only; (first | lia | omega)) (by dsimp only; (first | lia | omega)) (by simp only [List.length_append, List.length_cons, List.length_nil]; (first | lia | omega)) (by simp only [List.length_append, List.length_cons, List.length_nil]; (first | lia | omega)) (by intro v' e; cases e <;> first | (first | lia | omega) | simp) hg.2 hgcnt F9 N9 hcell hrow hprs fzr fzp fzc fz9 fz7 fzd fzi ⟨o1, o2, o3, o4⟩ i1 i2 i3 i4 i5 i6 rfl rfl rfl rfl rfl rfl rfl rfl rfl rfl
  · rename (dr : Int) ≠ 10 => hd10
    rename (dr : Int) = 11 => hd11
    rename Fr _ _ _ _ => F9
    rename News _ _ _ _ => N9
    exact law_tail (n := n) (it := ⟨gap, key, some [], key ++ [61], key ++ [61]⟩) (vo := vo) B X T (by (first | lia | omega)) hnl (by rw [hitd, if_neg (by (first | lia | omega)), if_pos (by (first | lia | omega))]) htk htl hrl hpl (by dsimp only; (first | lia | omega)) (by dsimp only; (first | lia | omega)) (by simp only [List.length_append, List.length_cons, List.length_nil]; (first | lia | omega)) (by simp only [List.length_append, List.length_cons, List.length_nil]; (first | lia | omega)) (by intro v' e; cases e <;> first | (first | lia | omega) | simp) hg.2 hgcnt F9 N9 hcell hrow hprs fzr fzp fzc fz9 fz7 fzd fzi ⟨o1, o2, o3, o4⟩ i1 i2 i3 i4 i5 i6 rfl rfl rfl rfl rfl rfl rfl (congrArg (fun y => some (Value.str y _)) (s_eq _)) (congrArg (fun y => some (Value.str y _)) (s_eq _)) (congrArg (fun y => some (Value.str y _)) ofStr_nil)
  · rename (dr : Int) ≠ 10 => hd10
    rename (dr : Int) ≠ 11 => hd11
    rename 6 < (dr : Int) => hd6
    rename Fr _ _ _ _ => F8
    rename News _ _ _ _ => N8
    rw [ofStr_bare]
    refine only_call B F8 X N8 T rfl rfl (by (first | lia | omega)) (by decide) hvc ?_
    intro h9 tk9 F9 N9
    clear F8 N8
    cases hon : onlyB v bareL
    · (repeat' ((fail_if_success ((first | (with_reducible show wpAny _ _ (eval (PySem.Expr.BinOp (PySem.Expr.BinOp _ _ (PySem.Expr.Call _ _ _ _) _) _ _ _) _) _ _ _) | (first | (with_reducible show Turn _ _ _ _ _ _ _ _) | (with_reducible show wpAny _ _ (execs [_, _, _, _] _) _ _ _) | (with_reducible show wpAny _ _ (subscriptTail _ _ (Value.ref _) (Value.int _ _)) _ _ _) | (with_reducible show wpAny _ _ (call (Value.ref _) _ _) _ _ _) | (with_reducible show wpAny _ _ (call (Value.builtin "str.join") _ _) _ _ _) | (with_reducible show wpAny _ _ (call (Value.builtin "str.count") _ _) _ _ _) | (with_reducible show wpAny _ _ (call (Value.builtin "list.extend") _ _) _ _ _) | (with_reducible show wpAny _ _ (setItem _ _ _) _ _ _) | (with_reducible show wpAny _ _ (exec (Stmt.For _ _ _ _ _) _) _ _ _) | (with_reducible show wpAny _ _ (exec (Stmt.While _ _ _ _) _) _ _ _) | (with_reducible show wpAny _ _ (eval (PySem.Expr.ListComp _ _ _ _) _) _ _ _))))); first | (k_unfold; (try dsimp only)) | walk1 | (dsimp only; walk1)))
      rename Fr _ _ _ _ => F9
      rename News _ _ _ _ => N9
      rename Obj.data _ = Data.cell (some _) => hoc
      rw [ofStr_strkA] at hoc
      refine esc_part X T F9 N9 hoc rfl rfl hkl' hvl ?_
      intro t10 h10 tk10 F10 N10
      clear F9 N9
      have hel := escS_len strkA v
      (repeat' ((fail_if_success ((first | (with_reducible show wpAny _ _ (eval (PySem.Expr.BinOp (PySem.Expr.BinOp _ _ (PySem.Expr.Call _ _ _ _) _) _ _ _) _) _ _ _) | (first | (with_reducible show Turn _ _ _ _ _ _ _ _) | (with_reducible show wpAny _ _ (execs [_, _, _, _] _) _ _ _) | (with_reducible show wpAny _ _ (subscriptTail _ _ (Value.ref _) (Value.int _ _)) _ _ _) | (with_reducible show wpAny _ _ (call (Value.ref _) _ _) _ _ _) | (with_reducible show wpAny _ _ (call (Value.builtin "str.join") _ _) _ _ _) | (with_reducible show wpAny _ _ (call (Value.builtin "str.count") _ _) _ _ _) | (with_reducible show wpAny _ _ (call (Value.builtin "list.extend") _ _) _ _ _) | (with_reducible show wpAny _ _ (setItem _ _ _) _ _ _) | (with_reducible show wpAny _ _ (exec (Stmt.For _ _ _ _ _) _) _ _ _) | (with_reducible show wpAny _ _ (exec (Stmt.While _ _ _ _) _) _ _ _) | (with_reducible show wpAny _ _ (eval (PySem.Expr.ListComp _ _ _ _) _) _ _ _))))); first | (k_unfold; (try dsimp only)) | walk1 | (dsimp only; walk1)))
      rename Fr _ _ _ _ => F9
      rename News _ _ _ _ => N9
      exact law_tail (n := n) (it := ⟨gap, key, some v, key ++ 61 :: 34 :: (v ++ [34]), key ++ 61 :: 34 :: (escS strkA v ++ [34])⟩) (vo := some _) B X T (by (first | lia | omega)) hnl (by rw [hitd, if_neg (by (first | lia | omega)), if_neg (by (first | lia | omega)), if_neg (by rw [hon]; simp), if_pos (by (first | lia | omega))]) htk htl hrl hpl (by dsimp only; (first | lia | omega)) (by dsimp only; (first | lia | omega)) (by simp only [List.length_append, List.length_cons, List.length_nil]; (first | lia | omega)) (by simp only [List.length_append, List.length_cons, List.length_nil]; (first | lia | omega)) (by intro v' e; cases e <;> first | (first | lia | omega) | simp) hg.2 hgcnt F9 N9 hoc hrow hprs fzr fzp fzc fz9 fz7 fzd fzi ⟨o1, o2, o3, o4⟩ i1 i2 i3 i4 i5 i6 rfl rfl rfl rfl rfl rfl rfl (congrArg (fun y => some (Value.str y _)) (s_quo _ _)) rfl rfl
    · (repeat' ((fail_if_success ((first | (with_reducible show wpAny _ _ (eval (PySem.Expr.BinOp (PySem.Expr.BinOp _ _ (PySem.Expr.Call _ _ _ _) _) _ _ _) _) _ _ _) | (first | (with_reducible show Turn _ _ _ _ _ _ _ _) | (with_reducible show wpAny _ _ (execs [_, _, _, _] _) _ _ _) | (with_reducible show wpAny _ _ (subscriptTail _ _ (Value.ref _) (Value.int _ _)) _ _ _) | (with_reducible show wpAny _ _ (call (Value.ref _) _ _) _ _ _) | (with_reducible show wpAny _ _ (call (Value.builtin "str.join") _ _) _ _ _) | (with_reducible show wpAny _ _ (call (Value.builtin "str.count") _ _) _ _ _) | (with_reducible show wpAny _ _ (call (Value.builtin "list.extend") _ _) _ _ _) | (with_reducible show wpAny _ _ (setItem _ _ _) _ _ _) | (with_reducible show wpAny _ _ (exec (Stmt.For _ _ _ _ _) _) _ _ _) | (with_reducible show wpAny _ _ (exec (Stmt.While _ _ _ _) _) _ _ _) | (with_reducible show wpAny _ _ (eval (PySem.Expr.ListComp _ _ _ _) _) _ _ _))))); first | (k_unfold; (try dsimp only)) | walk1 | (dsimp only; walk1)))
      rename Fr _ _ _ _ => F9
      rename News _ _ _ _ => N9
      exact law_tail (n := n) (it := ⟨gap, key, some v, key ++ 61 :: v, key ++ 61 :: v⟩) (vo := vo) B X T (by (first | lia | omega)) hnl (by rw [hitd, if_neg (by (first | lia | omega)), if_neg (by (first | lia | omega)), if_pos ⟨by (first | lia | omega), hon⟩]) htk htl hrl hpl (by dsimp only; (first | lia | omega)) (by dsimp only; (first | lia | omega)) (by simp only [List.length_append, List.length_cons, List.length_nil]; (first | lia | omega)) (by simp only [List.length_append, List.length_cons, List.length_nil]; (first | lia | omega)) (by intro v' e; cases e <;> first | (first | lia | omega) | simp) hg.2 hgcnt F9 N9 hcell hrow hprs fzr fzp fzc fz9 fz7 fzd fzi ⟨o1, o2, o3, o4⟩ i1 i2 i3 i4 i5 i6 rfl rfl rfl rfl rfl rfl rfl (congrArg (fun y => some (Value.str y _)) (s_bare _ _)) (congrArg (fun y => some (Value.str y _)) (s_bare _ _)) rfl
  · rename (dr : Int) ≠ 10 => hd10
    rename (dr : Int) ≠ 11 => hd11
    rename (dr : Int) < 4 => hd4
    rename Fr _ _ _ _ => F9
    rename News _ _ _ _ => N9
    rename Obj.data _ = Data.cell (some _) => hoc
    rw [ofStr_strkA] at hoc
    refine esc_part X T F9 N9 hoc rfl rfl hkl' hvl ?_
    intro t10 h10 tk10 F10 N10
    clear F9 N9
    have hel := escS_len strkA v
    (repeat' ((fail_if_success ((first | (with_reducible show wpAny _ _ (eval (PySem.Expr.BinOp (PySem.Expr.BinOp _ _ (PySem.Expr.Call _ _ _ _) _) _ _ _) _) _ _ _) | (first | (with_reducible show Turn _ _ _ _ _ _ _ _) | (with_reducible show wpAny _ _ (execs [_, _, _, _] _) _ _ _) | (with_reducible show wpAny _ _ (subscriptTail _ _ (Value.ref _) (Value.int _ _)) _ _ _) | (with_reducible show wpAny _ _ (call (Value.ref _) _ _) _ _ _) | (with_reducible show wpAny _ _ (call (Value.builtin "str.join") _ _) _ _ _) | (with_reducible show wpAny _ _ (call (Value.builtin "str.count") _ _) _ _ _) | (with_reducible show wpAny _ _ (call (Value.builtin "list.extend") _ _) _ _ _) | (with_reducible show wpAny _ _ (setItem _ _ _) _ _ _) | (with_reducible show wpAny _ _ (exec (Stmt.For _ _ _ _ _) _) _ _ _) | (with_reducible show wpAny _ _ (exec (Stmt.While _ _ _ _) _) _ _ _) | (with_reducible show wpAny _ _ (eval (PySem.Expr.ListComp _ _ _ _) _) _ _ _))))); first | (k_unfold; (try dsimp only)) | walk1 | (dsimp only; walk1)))
    rename Fr _ _ _ _ => F9
    rename News _ _ _ _ => N9
    exact law_tail (n := n) (it := ⟨gap, key, some v, key ++ 61 :: 34 :: (v ++ [34]), key ++ 61 :: 34 :: (escS strkA v ++ [34])⟩) (vo := some _) B X T (by (first | lia | omega)) hnl (by rw [hitd, if_neg (by (first | lia | omega)), if_neg (by (first | lia | omega)), if_neg (by (first | lia | omega)), if_pos (by (first | lia | omega))]) htk htl hrl hpl (by dsimp only; (first | lia | omega)) (by dsimp only; (first | lia | omega)) (by simp only [List.length_append, List.length_cons, List.length_nil]; (first | lia | omega)) (by simp only [List.length_append, List.length_cons, List.length_nil]; (first | lia | omega)) (by intro v' e; cases e <;> first | (first | lia | omega) | simp) hg.2 hgcnt F9 N9 hoc hrow hprs fzr fzp fzc fz9 fz7 fzd fzi ⟨o1, o2, o3, o4⟩ i1 i2 i3 i4 i5 i6 rfl rfl rfl rfl rfl rfl rfl (congrArg (fun y => some (Value.str y _)) (s_quo _ _)) rfl rfl
  · rename (dr : Int) ≠ 10 => hd10
    rename (dr : Int) ≠ 11 => hd11
    rename ¬ ((dr : Int) < 4) => hd4
    rename Fr _ _ _ _ => F9
    rename News _ _ _ _ => N9
    rename Obj.data _ = Data.cell (some _) => hoc
    rw [ofStr_strkB] at hoc
    refine esc_part X T F9 N9 hoc rfl rfl hkl' hvl ?_
    intro t10 h10 tk10 F10 N10
    clear F9 N9
    have hel := escS_len strkB v
    (repeat' ((fail_if_success ((first | (with_reducible show wpAny _ _ (eval (PySem.Expr.BinOp (PySem.Expr.BinOp _ _ (PySem.Expr.Call _ _ _ _) _) _ _ _) _) _ _ _) | (first | (with_reducible show Turn _ _ _ _ _ _ _ _) | (with_reducible show wpAny _ _ (execs [_, _, _, _] _) _ _ _) | (with_reducible show wpAny _ _ (subscriptTail _ _ (Value.ref _) (Value.int _ _)) _ _ _) | (with_reducible show wpAny _ _ (call (Value.ref _) _ _) _ _ _) | (with_reducible show wpAny _ _ (call (Value.builtin "str.join") _ _) _ _ _) | (with_reducible show wpAny _ _ (call (Value.builtin "str.count") _ _) _ _ _) | (with_reducible show wpAny _ _ (call (Value.builtin "list.extend") _ _) _ _ _) | (with_reducible show wpAny _ _ (setItem _ _ _) _ _ _) | (with_reducible show wpAny _ _ (exec (Stmt.For _ _ _ _ _) _) _ _ _) | (with_reducible show wpAny _ _ (exec (Stmt.While _ _ _ _) _) _ _ _) | (with_reducible show wpAny _ _ (eval (PySem.Expr.ListComp _ _ _ _) _) _ _ _))))); first | (k_unfold; (try dsimp only)) | walk1 | (dsimp only; walk1)))
    rename Fr _ _ _ _ => F9
    rename News _ _ _ _ => N9
    exact law_tail (n := n) (it := ⟨gap, key, some v, key ++ 61 :: 34 :: (v ++ [34]), key ++ 61 :: 34 :: (escS strkB v ++ [34])⟩) (vo := some _) B X T (by (first | lia | omega)) hnl (by rw [hitd, if_neg (by (first | lia | omega)), if_neg (by (first | lia | omega)), if_neg (by (first | lia | omega)), if_neg (by (first | lia | omega))]) htk htl hrl hpl (by dsimp only; (first | lia | omega)) (by dsimp only; (first | lia | omega)) (by simp only [List.length_append, List.length_cons, List.length_nil]; (first | lia | omega)) (by simp only [List.length_append, List.length_cons, List.length_nil]; (first | lia | omega)) (by intro v' e; cases e <;> first | (first | lia | omega) | simp) hg.2 hgcnt F9 N9 hoc hrow hprs fzr fzp fzc fz9 fz7 fzd fzi ⟨o1, o2, o3, o4⟩ i1 i2 i3 i4 i5 i6 rfl rfl rfl rfl rfl rfl rfl (congrArg (fun y => some (Value.str y _)) (s_quo _ _)) rfl rfl)
end Mine

end

section
open PySem PySem.W PyProof.Rows PySem.Calls
set_option maxRecDepth 100000
set_option maxHeartbeats 40000000
set_option linter.unusedVariables false
namespace Mine
theorem fillP : Challenge.rw_nb0191_01 = Challenge.rw_nb0191_01 ∧ hd.heap_39 = hd.heap_39 := by k_fill; exact ⟨rfl, rfl⟩

local macro_rules | `(tactic| k_all) => `(tactic| assumption)


/-- lists of one item each -/
noncomputable def OneOf (fz : List (Addr × Obj)) (y v : Value) : Prop := ∃ a n, y = .ref a ∧ (a, listOf (List.toArray [v]) n) ∈ fz
noncomputable def CmpJ (pv : List Value) (nb : List (Addr × Obj)) (i : Nat) (ys : List Value) (nw : List (Addr × Obj)) : Prop := ∃ fz3, nw = fz3 ++ nb ∧ All2 (OneOf fz3) ys (pv.take i)

theorem ones_in {fz3 fz : List (Addr × Obj)} : ∀ {ys pv : List Value} {ps : List Par}, All2 (OneOf fz3) ys pv → All2 (TupOf fz) pv ps → DatAll (fz3 ++ fz) ys (ps.map fun p => .list [parD p])
  | _, _, _, .nil, .nil => .nil
  | _, _, _, .cons x hx, .cons y hy => by
    obtain ⟨a, n, rfl, m⟩ := x
    exact .cons (.list (List.mem_append_left _ m) (.cons ((tup_in y).mono fun _ h => List.mem_append_right _ h) .nil)) (ones_in hx hy)

theorem law_mid1 {prog : Program} {w : World} {g : Heap} {L fa : Addr} {cd : Value} {p : Program} {loose : List PySem.Str} {mean : ExcName → Option Value} {mg mb : PySem.Str → Option Value} {Q : Flow → Shared → Prop} {s : Shared}
    {rv pv : List Value} {nr np : Nat} {Lr Lp : Addr} {tk : Nat} {m₁ : PySem.Str → Option Value} {h : Heap} {oc : Obj} {fz : List (Addr × Obj)} {text : List Nat} {tt : Tok} {row : List (List Nat)} {prs raws raws2 raws3 : List Par} {evs : List Ev}
    (B : Below callerA g [] g) (X : (hd.heap_39 w.params).In g) (T : Top p loose mean mg mb g)
    (F : Fr g L h m₁) (N : News g L h ((Lr, listOf rv.toArray nr) :: (Lp, listOf pv.toArray np) :: (L + 1, oc) :: (94, tabObj #[]) :: (77, tabObj #[]) :: fz))
    (hrow : StrsAre rv (row.map S)) (hprs : All2 (TupOf fz) pv prs) (fz9 : ∀ p ∈ fz, p.1 ≠ 94) (fz7 : ∀ p ∈ fz, p.1 ≠ 77) (ord : @LT.lt Nat _ 94 L ∧ @LT.lt Nat _ (L + 1) Lp ∧ @LT.lt Nat _ Lp Lr)
    (mt : m₁ (PySem.Str.ofString "text") = some (.str (S text) tt)) (mr : m₁ (PySem.Str.ofString "row") = some (.ref Lr)) (mp : m₁ (PySem.Str.ofString "pairs") = some (.ref Lp))
    (htl : text.length ≤ 2000) (hrl : row.length ≤ 100) (hrc : ∀ r ∈ row, okC r) (hpl : prs.length ≤ 100) (hpp : ∀ p ∈ prs, p.1.length ≤ 100 ∧ ∀ v, p.2 = some v → v.length ≤ 100) (hpo : ∀ p ∈ prs, ParOk p)
    (hP1 : phlR (S text) = row.map S) (hE : Eats text evs) (hev : eatR evs = prs.map fun p => [p])
    (hraw : row.filter (fun r => decide (r ≠ [])) = raws.map eltOf) (hrawl : raws.length ≤ 100) (hrawp : ∀ r ∈ raws, 61 ∉ r.1 ∧ r.1.length ≤ 100 ∧ ∀ v, r.2 = some v → v.length ≤ 100 ∧ v ≠ [34]) (hread : readR raws = dueR true prs) (hout : OutOk (readR raws))
    (hjl : (joinL [44, 32] (prs.map wordJ)).length ≤ 90000) (hP4 : phlR (S (joinL [44, 32] (prs.map wordJ))) = (prs.map cleanP).map S)
    (q2 : prs.map cleanP = raws2.map eltOf) (q2p : ∀ r ∈ raws2, 61 ∉ r.1 ∧ r.1.length ≤ 100 ∧ ∀ v, r.2 = some v → v.length ≤ 100 ∧ v ≠ [34]) (q2r : readR raws2 = dueR false prs) (q2o : OutOk (readR raws2))
    (q3 : (prs.map cleanP).filter (fun r => decide (61 ∈ r)) = raws3.map eltOf) (q3p : ∀ r ∈ raws3, 61 ∉ r.1 ∧ r.1.length ≤ 100 ∧ ∀ v, r.2 = some v → v.length ≤ 100 ∧ v ≠ [34]) (q3r : readR raws3 = dueR false (prs.filter fun p => p.2.isSome)) (q3o : OutOk (readR raws3))
    (hQ : ∀ m' nw tabA tabB h' tk', Fr g L h' m' → News g L h' nw → (94, tabObj tabA) ∈ nw → (77, tabObj tabB) ∈ nw → Q (.ret (.bool true)) { s with heap := h', toks := tk' }) :
    wpAny (model prog w) (callerA.deeper (lawE L fa cd)) (execs restA (lawE L fa cd)) Q (fun _ _ => False) { s with heap := h, toks := tk } := by
  w_on
  w_strict (
  unfold restA rest1 lawB Challenge.pw_nb0191_01
  dsimp only [lastBody, forRest, List.drop]
  unfold lawE lawSc Challenge.pw_nb0191_01
  dsimp only [lastScope]
  obtain ⟨o1, o2, o3⟩ := ord
  have F1 := fr_see [(PySem.Str.ofString "text", .str (S text) tt), (PySem.Str.ofString "row", .ref Lr), (PySem.Str.ofString "pairs", .ref Lp)] F (by
    intro p hp
    simp only [List.mem_cons, List.not_mem_nil, or_false] at hp
    rcases hp with rfl | rfl | rfl
    · exact mt
    · exact mr
    · exact mp)
  clear F mt mr mp
  have htl' : (S text).length ≤ 2000 := by rw [S_length]; exact htl
  (repeat' ((fail_if_success ((first | (with_reducible show Turn _ _ _ _ _ _ _ _) | (with_reducible show wpAny _ _ (execs [_, _, _, _, _] _) _ _ _) | ((fail_if_success skip)) | (with_reducible show LCg.CompEnd _ _ _ _ _ _ _ _ _ _ _ _ _ _) | (with_reducible show wpAny _ _ (subscriptTail _ _ (Value.ref _) (Value.int _ _)) _ _ _) | (with_reducible show wpAny _ _ (call (Value.ref _) _ _) _ _ _) | (with_reducible show wpAny _ _ (call (Value.builtin "str.join") _ _) _ _ _) | (with_reducible show wpAny _ _ (call (Value.builtin "str.count") _ _) _ _ _) | (with_reducible show wpAny _ _ (call (Value.builtin "list.extend") _ _) _ _ _) | (with_reducible show wpAny _ _ (call (Value.builtin "list.pop") _ _) _ _ _) | (with_reducible show wpAny _ _ (compareOp _ (Value.ref _) _) _ _ _) | (with_reducible show wpAny _ _ (compareOp CmpOp.NotEq _ _) _ _ _) | (with_reducible show wpAny _ _ (binaryOp Operator.Mult _ _) _ _ _) | (with_reducible show wpAny _ _ (exec (Stmt.For _ _ _ _ _) _) _ _ _) | (with_reducible show wpAny _ _ (exec (Stmt.While _ _ _ _) _) _ _ _) | (with_reducible show wpAny _ _ (eval (PySem.Expr.ListComp _ _ _ _) _) _ _ _)))); first | (k_unfold; (try dsimp only)) | walk1 | (dsimp only; walk1)))
  refine phl_call B F1 X N T rfl rfl (Nat.le_trans htl' (by decide)) ?_
  intro l2 vs2 n2 h2 tk2 s2 F2 N2 d2
  rw [hP1] at s2
  clear F1 N
  (repeat' ((fail_if_success ((first | (with_reducible show Turn _ _ _ _ _ _ _ _) | (with_reducible show wpAny _ _ (execs [_, _, _, _, _] _) _ _ _) | ((fail_if_success skip)) | (with_reducible show LCg.CompEnd _ _ _ _ _ _ _ _ _ _ _ _ _ _) | (with_reducible show wpAny _ _ (subscriptTail _ _ (Value.ref _) (Value.int _ _)) _ _ _) | (with_reducible show wpAny _ _ (call (Value.ref _) _ _) _ _ _) | (with_reducible show wpAny _ _ (call (Value.builtin "str.join") _ _) _ _ _) | (with_reducible show wpAny _ _ (call (Value.builtin "str.count") _ _) _ _ _) | (with_reducible show wpAny _ _ (call (Value.builtin "list.extend") _ _) _ _ _) | (with_reducible show wpAny _ _ (call (Value.builtin "list.pop") _ _) _ _ _) | (with_reducible show wpAny _ _ (compareOp _ (Value.ref _) _) _ _ _) | (with_reducible show wpAny _ _ (compareOp CmpOp.NotEq _ _) _ _ _) | (with_reducible show wpAny _ _ (binaryOp Operator.Mult _ _) _ _ _) | (with_reducible show wpAny _ _ (exec (Stmt.For _ _ _ _ _) _) _ _ _) | (with_reducible show wpAny _ _ (exec (Stmt.While _ _ _ _) _) _ _ _) | (with_reducible show wpAny _ _ (eval (PySem.Expr.ListComp _ _ _ _) _) _ _ _)))); first | (k_unfold; (try dsimp only)) | walk1 | (dsimp only; walk1)))
  refine rows_ne N2 (.head _) (.tail _ (.head _)) s2 hrow hrc (by ke_room) ?_
  have N3 := news_sub N2 fun p hp => .tail _ hp
  clear N2
  (repeat' ((fail_if_success ((first | (with_reducible show Turn _ _ _ _ _ _ _ _) | (with_reducible show wpAny _ _ (execs [_, _, _, _, _] _) _ _ _) | ((fail_if_success skip)) | (with_reducible show LCg.CompEnd _ _ _ _ _ _ _ _ _ _ _ _ _ _) | (with_reducible show wpAny _ _ (subscriptTail _ _ (Value.ref _) (Value.int _ _)) _ _ _) | (with_reducible show wpAny _ _ (call (Value.ref _) _ _) _ _ _) | (with_reducible show wpAny _ _ (call (Value.builtin "str.join") _ _) _ _ _) | (with_reducible show wpAny _ _ (call (Value.builtin "str.count") _ _) _ _ _) | (with_reducible show wpAny _ _ (call (Value.builtin "list.extend") _ _) _ _ _) | (with_reducible show wpAny _ _ (call (Value.builtin "list.pop") _ _) _ _ _) | (with_reducible show wpAny _ _ (compareOp _ (Value.ref _) _) _ _ _) | (with_reducible show wpAny _ _ (compareOp CmpOp.NotEq _ _) _ _ _) | (with_reducible show wpAny _ _ (binaryOp Operator.Mult _ _) _ _ _) | (with_reducible show wpAny _ _ (exec (Stmt.For _ _ _ _ _) _) _ _ _) | (with_reducible show wpAny _ _ (exec (Stmt.While _ _ _ _) _) _ _ _) | (with_reducible show wpAny _ _ (eval (PySem.Expr.ListComp _ _ _ _) _) _ _ _)))); first | (k_unfold; (try dsimp only)) | walk1 | (dsimp only; walk1)))
  rename Fr _ _ _ _ => F4
  rename News _ _ _ _ => N4
  rename_i l4 _ hl4
  have N5 := news_sub (news' := (77, tabObj #[]) :: (Lr, listOf rv.toArray nr) :: (Lp, listOf pv.toArray np) :: (L + 1, oc) :: (94, tabObj #[]) :: fz) N4 (by
    intro p hp
    simp only [List.mem_cons] at hp ⊢
    rcases hp with rfl | rfl | rfl | rfl | rfl | hp <;> simp [*])
  refine shw_call (l := l4) (nl := 0) (T0 := text) (tx := tt) B F4 X N5 T rfl rfl ?_ (N4 _ (.head _)).1 (Nat.ne_of_gt hl4.2.2.2.2.1) hE (by (first | lia | omega)) ?_
  · exact List.forall_mem_cons.mpr ⟨neN (by dsimp only; (first | lia | omega)), List.forall_mem_cons.mpr ⟨neN (by dsimp only; (first | lia | omega)), List.forall_mem_cons.mpr ⟨neN (by dsimp only; (first | lia | omega)), List.forall_mem_cons.mpr ⟨neN (by dsimp only; (first | lia | omega)), fz7⟩⟩⟩⟩
  intro r6 rv6 n6 tab6 fz6 h6 tk6 s6 F6 N6 d6
  rw [hev] at s6
  have dr : ∀ q ∈ (r6, listOf rv6.toArray n6) :: fz6, q.1 ≠ Lr := fun q hq => d6 _ (.head _) q hq
  have dp : ∀ q ∈ (r6, listOf rv6.toArray n6) :: fz6, q.1 ≠ Lp := fun q hq => d6 _ (.tail _ (.head _)) q hq
  have N7 := news_sub (news' := (r6, listOf rv6.toArray n6) :: (Lr, listOf rv.toArray nr) :: (Lp, listOf pv.toArray np) :: (L + 1, oc) :: (94, tabObj #[]) :: (77, tabObj tab6) :: (fz6 ++ fz)) N6 (by
    intro p hp
    simp only [List.cons_append, List.mem_cons, List.mem_append] at hp ⊢
    rcases hp with rfl | rfl | rfl | rfl | rfl | rfl | hp | hp <;> simp [*])
  clear N6 N5 N4 F4
  (repeat' ((fail_if_success ((first | (with_reducible show Turn _ _ _ _ _ _ _ _) | (with_reducible show wpAny _ _ (execs [_, _, _, _, _] _) _ _ _) | ((fail_if_success skip)) | (with_reducible show LCg.CompEnd _ _ _ _ _ _ _ _ _ _ _ _ _ _) | (with_reducible show wpAny _ _ (subscriptTail _ _ (Value.ref _) (Value.int _ _)) _ _ _) | (with_reducible show wpAny _ _ (call (Value.ref _) _ _) _ _ _) | (with_reducible show wpAny _ _ (call (Value.builtin "str.join") _ _) _ _ _) | (with_reducible show wpAny _ _ (call (Value.builtin "str.count") _ _) _ _ _) | (with_reducible show wpAny _ _ (call (Value.builtin "list.extend") _ _) _ _ _) | (with_reducible show wpAny _ _ (call (Value.builtin "list.pop") _ _) _ _ _) | (with_reducible show wpAny _ _ (compareOp _ (Value.ref _) _) _ _ _) | (with_reducible show wpAny _ _ (compareOp CmpOp.NotEq _ _) _ _ _) | (with_reducible show wpAny _ _ (binaryOp Operator.Mult _ _) _ _ _) | (with_reducible show wpAny _ _ (exec (Stmt.For _ _ _ _ _) _) _ _ _) | (with_reducible show wpAny _ _ (exec (Stmt.While _ _ _ _) _) _ _ _) | (with_reducible show wpAny _ _ (eval (PySem.Expr.ListComp _ _ _ _) _) _ _ _)))); first | (k_unfold; (try dsimp only)) | walk1 | (dsimp only; walk1)))
  rename Fr _ _ _ _ => F8
  rename News _ _ _ _ => N8
  refine LCg.ListComp_U (F₀ := F8) (by with_unfolding_all rfl) (by decide) (by rfl) (by decide) (by rfl) ?_
  walk1
  refine LCg.CompSrc.ledger (by rfl) F8 N8 (.tail _ (.tail _ (.head _))) (by rw [List.size_toArray, hprs.length, sizeLine_eq]; (first | lia | omega)) fun g9 => ?_
  refine compRest_of (CmpJ pv ((r6, listOf rv6.toArray n6) :: (Lr, listOf rv.toArray nr) :: (Lp, listOf pv.toArray np) :: (L + 1, oc) :: (94, tabObj #[]) :: (77, tabObj tab6) :: (fz6 ++ fz))) ?_ ?_ _ 0 _ _ (Nat.zero_add _) ⟨[], rfl, .nil⟩
  · rintro i ys _ v I oI C oC D m₂ h tk E' hi ⟨fz3, rfl, hys⟩ hv hC hm F9 N9 off ne
    clear N8 F8
    have hvi : pv[i]? = some v := by simpa using hv
    (repeat' ((fail_if_success ((first | (with_reducible show Turn _ _ _ _ _ _ _ _) | (with_reducible show wpAny _ _ (execs [_, _, _, _, _] _) _ _ _) | ((fail_if_success skip)) | (with_reducible show LCg.CompEnd _ _ _ _ _ _ _ _ _ _ _ _ _ _) | (with_reducible show wpAny _ _ (subscriptTail _ _ (Value.ref _) (Value.int _ _)) _ _ _) | (with_reducible show wpAny _ _ (call (Value.ref _) _ _) _ _ _) | (with_reducible show wpAny _ _ (call (Value.builtin "str.join") _ _) _ _ _) | (with_reducible show wpAny _ _ (call (Value.builtin "str.count") _ _) _ _ _) | (with_reducible show wpAny _ _ (call (Value.builtin "list.extend") _ _) _ _ _) | (with_reducible show wpAny _ _ (call (Value.builtin "list.pop") _ _) _ _ _) | (with_reducible show wpAny _ _ (compareOp _ (Value.ref _) _) _ _ _) | (with_reducible show wpAny _ _ (compareOp CmpOp.NotEq _ _) _ _ _) | (with_reducible show wpAny _ _ (binaryOp Operator.Mult _ _) _ _ _) | (with_reducible show wpAny _ _ (exec (Stmt.For _ _ _ _ _) _) _ _ _) | (with_reducible show wpAny _ _ (exec (Stmt.While _ _ _ _) _) _ _ _) | (with_reducible show wpAny _ _ (eval (PySem.Expr.ListComp _ _ _ _) _) _ _ _)))); first | (k_unfold; (try dsimp only)) | walk1 | (dsimp only; walk1)))
    rename Fr _ _ _ _ => F11
    rename News _ _ _ _ => N11
    rename_i l11 _ hl11
    refine LCg.CompEnd.intro F11 N11 ((l11, listOf (List.toArray [v]) 0) :: (fz3 ++ _)) ?_ ⟨⟨Nat.ne_of_gt hl11.1, Nat.ne_of_gt hl11.2.1, Nat.ne_of_gt hl11.2.2.1⟩, off⟩ (.inr ⟨_, .tail _ (List.mem_append_right _ (.tail _ (.tail _ (.head _)))), rfl, _, rfl⟩) ⟨(l11, listOf (List.toArray [v]) 0) :: fz3, rfl, ?_⟩
    · intro p hp
      simp only [List.mem_cons] at hp ⊢
      rcases hp with rfl | rfl | rfl | rfl | hp <;> simp [*]
    · rw [List.take_add_one, hvi]
      exact (hys.mono fun _ _ x => by obtain ⟨a, n, e, m⟩ := x; exact ⟨a, n, e, .tail _ m⟩).snoc ⟨l11, 0, rfl, .head _⟩
  · rintro ys _ ⟨fz3, rfl, hys⟩ D10 h10 tk10 F10 N10 off10
    rw [List.size_toArray, List.take_length] at hys
    dsimp only
    refine kqd_ne (n₁ := fz6) (n₂ := fz3 ++ fz) (ds := (prs.map fun p => [p]).map fun ps => .list (ps.map parD)) (es := prs.map fun p => .list [parD p]) N10 (.tail _ (List.mem_append_right _ (.head _))) rfl rfl (listsP_in s6) ?_ (.head _) rfl rfl (ones_in hys hprs) ?_ ?_ ?_ (by ke_room) ?_
    · intro p hp; exact .tail _ (List.mem_append_right _ (.tail _ (.tail _ (.tail _ (.tail _ (.tail _ (.tail _ (List.mem_append_left _ hp))))))))
    · intro p hp
      rcases List.mem_append.mp hp with hp | hp
      · exact .tail _ (List.mem_append_left _ hp)
      · exact .tail _ (List.mem_append_right _ (.tail _ (.tail _ (.tail _ (.tail _ (.tail _ (.tail _ (List.mem_append_right _ hp))))))))
    · intro d hd
      rw [List.map_map] at hd
      obtain ⟨p, hp, rfl⟩ := List.mem_map.mp hd
      show ([parD p].all (kqdOk 7)) = true
      simp [parD_ok (hpo p hp) 6]
    · intro d hd
      obtain ⟨p, hp, rfl⟩ := List.mem_map.mp hd
      show ([parD p].all (kqdOk 7)) = true
      simp [parD_ok (hpo p hp) 6]
    have heq : (prs.map fun p => [p]).map (fun ps => Dat.list (ps.map parD)) = prs.map fun p => Dat.list [parD p] := by rw [List.map_map]; rfl
    rw [heq]
    simp only [decide_true, Bool.not_true]
    have N11 := news_sub N10 fun p hp => .tail _ (List.mem_append_right _ hp)
    clear N10 N8 F8
    (repeat' ((fail_if_success ((first | (with_reducible show Turn _ _ _ _ _ _ _ _) | (with_reducible show wpAny _ _ (execs [_, _, _, _, _] _) _ _ _) | ((fail_if_success skip)) | (with_reducible show LCg.CompEnd _ _ _ _ _ _ _ _ _ _ _ _ _ _) | (with_reducible show wpAny _ _ (subscriptTail _ _ (Value.ref _) (Value.int _ _)) _ _ _) | (with_reducible show wpAny _ _ (call (Value.ref _) _ _) _ _ _) | (with_reducible show wpAny _ _ (call (Value.builtin "str.join") _ _) _ _ _) | (with_reducible show wpAny _ _ (call (Value.builtin "str.count") _ _) _ _ _) | (with_reducible show wpAny _ _ (call (Value.builtin "list.extend") _ _) _ _ _) | (with_reducible show wpAny _ _ (call (Value.builtin "list.pop") _ _) _ _ _) | (with_reducible show wpAny _ _ (compareOp _ (Value.ref _) _) _ _ _) | (with_reducible show wpAny _ _ (compareOp CmpOp.NotEq _ _) _ _ _) | (with_reducible show wpAny _ _ (binaryOp Operator.Mult _ _) _ _ _) | (with_reducible show wpAny _ _ (exec (Stmt.For _ _ _ _ _) _) _ _ _) | (with_reducible show wpAny _ _ (exec (Stmt.While _ _ _ _) _) _ _ _) | (with_reducible show wpAny _ _ (eval (PySem.Expr.ListComp _ _ _ _) _) _ _ _)))); first | (k_unfold; (try dsimp only)) | walk1 | (dsimp only; walk1)))
    refine LCt.ListComp_T (F₀ := F10) (by with_unfolding_all rfl) (by decide) (by rfl) (by decide) (by rfl) ?_
    walk1
    have hrl2 : rv.length = row.length := by rw [hrow.length, List.length_map]
    refine LCt.CompSrcT.ledger (by rfl) F10 N11 (.tail _ (.head _)) (by rw [List.size_toArray, sizeLine_eq]; (first | lia | omega)) fun g12 => ?_
    refine compRestT_of (fun i ys nw => nw = (r6, listOf rv6.toArray n6) :: (Lr, listOf rv.toArray nr) :: (Lp, listOf pv.toArray np) :: (L + 1, oc) :: (94, tabObj #[]) :: (77, tabObj tab6) :: (fz6 ++ fz) ∧ StrsAre ys (((row.take i).filter fun r => decide (r ≠ [])).map S)) ?_ ?_ _ 0 _ _ (Nat.zero_add _) ⟨rfl, .nil⟩
    · rintro i ys _ v I oI C oC D m₂ h tk E' hi ⟨rfl, hys⟩ hv hC hm F13 N13 off ne
      clear N11 F10
      obtain ⟨y, t, rfl, hy⟩ := hrow.item i v (by simpa using hv)
      obtain ⟨r, hr, rfl⟩ : ∃ r, row[i]? = some r ∧ y = S r := by
        rw [List.getElem?_map] at hy
        cases hq : row[i]? with
        | none => rw [hq] at hy; cases hy
        | some r => rw [hq] at hy; exact ⟨r, rfl, (Option.some.inj hy).symm⟩
      have htk : row.take (i + 1) = row.take i ++ [r] := by rw [List.take_add_one, hr]; rfl
      (repeat' ((fail_if_success ((first | (with_reducible show Turn _ _ _ _ _ _ _ _) | (with_reducible show wpAny _ _ (execs [_, _, _, _, _] _) _ _ _) | ((fail_if_success skip)) | (with_reducible show LCg.CompEnd _ _ _ _ _ _ _ _ _ _ _ _ _ _) | (with_reducible show wpAny _ _ (subscriptTail _ _ (Value.ref _) (Value.int _ _)) _ _ _) | (with_reducible show wpAny _ _ (call (Value.ref _) _ _) _ _ _) | (with_reducible show wpAny _ _ (call (Value.builtin "str.join") _ _) _ _ _) | (with_reducible show wpAny _ _ (call (Value.builtin "str.count") _ _) _ _ _) | (with_reducible show wpAny _ _ (call (Value.builtin "list.extend") _ _) _ _ _) | (with_reducible show wpAny _ _ (call (Value.builtin "list.pop") _ _) _ _ _) | (with_reducible show wpAny _ _ (compareOp _ (Value.ref _) _) _ _ _) | (with_reducible show wpAny _ _ (compareOp CmpOp.NotEq _ _) _ _ _) | (with_reducible show wpAny _ _ (binaryOp Operator.Mult _ _) _ _ _) | (with_reducible show wpAny _ _ (exec (Stmt.For _ _ _ _ _) _) _ _ _) | (with_reducible show wpAny _ _ (exec (Stmt.While _ _ _ _) _) _ _ _) | (with_reducible show wpAny _ _ (eval (PySem.Expr.ListComp _ _ _ _) _) _ _ _)))); first | (k_unfold; (try dsimp only)) | walk1 | (dsimp only; walk1)))
      refine ne_str ?_
      rw [ofStr_nil, bne, S_eq_beq]
      by_cases hr0 : r = []
      · subst hr0
        simp only [beq_self_eq_true, Bool.not_true]
        (repeat' ((fail_if_success ((first | (with_reducible show Turn _ _ _ _ _ _ _ _) | (with_reducible show wpAny _ _ (execs [_, _, _, _, _] _) _ _ _) | ((fail_if_success skip)) | (with_reducible show LCg.CompEnd _ _ _ _ _ _ _ _ _ _ _ _ _ _) | (with_reducible show wpAny _ _ (subscriptTail _ _ (Value.ref _) (Value.int _ _)) _ _ _) | (with_reducible show wpAny _ _ (call (Value.ref _) _ _) _ _ _) | (with_reducible show wpAny _ _ (call (Value.builtin "str.join") _ _) _ _ _) | (with_reducible show wpAny _ _ (call (Value.builtin "str.count") _ _) _ _ _) | (with_reducible show wpAny _ _ (call (Value.builtin "list.extend") _ _) _ _ _) | (with_reducible show wpAny _ _ (call (Value.builtin "list.pop") _ _) _ _ _) | (with_reducible show wpAny _ _ (compareOp _ (Value.ref _) _) _ _ _) | (with_reducible show wpAny _ _ (compareOp CmpOp.NotEq _ _) _ _ _) | (with_reducible show wpAny _ _ (binaryOp Operator.Mult _ _) _ _ _) | (with_reducible show wpAny _ _ (exec (Stmt.For _ _ _ _ _) _) _ _ _) | (with_reducible show wpAny _ _ (exec (Stmt.While _ _ _ _) _) _ _ _) | (with_reducible show wpAny _ _ (eval (PySem.Expr.ListComp _ _ _ _) _) _ _ _)))); first | (k_unfold; (try dsimp only)) | walk1 | (dsimp only; walk1)))
        refine LCg.CompEnd.intro F13 N13 _ (fun _ hp => hp) off (.inr ⟨_, .tail _ (.head _), rfl, _, rfl⟩) ⟨rfl, ?_⟩
        rw [htk, List.filter_append, show ([([] : List Nat)].filter fun r => decide (r ≠ [])) = [] from rfl, List.append_nil]
        exact hys
      · have hb : (r == []) = false := by simpa using hr0
        rw [hb]
        simp only [Bool.not_false]
        (repeat' ((fail_if_success ((first | (with_reducible show Turn _ _ _ _ _ _ _ _) | (with_reducible show wpAny _ _ (execs [_, _, _, _, _] _) _ _ _) | ((fail_if_success skip)) | (with_reducible show LCg.CompEnd _ _ _ _ _ _ _ _ _ _ _ _ _ _) | (with_reducible show wpAny _ _ (subscriptTail _ _ (Value.ref _) (Value.int _ _)) _ _ _) | (with_reducible show wpAny _ _ (call (Value.ref _) _ _) _ _ _) | (with_reducible show wpAny _ _ (call (Value.builtin "str.join") _ _) _ _ _) | (with_reducible show wpAny _ _ (call (Value.builtin "str.count") _ _) _ _ _) | (with_reducible show wpAny _ _ (call (Value.builtin "list.extend") _ _) _ _ _) | (with_reducible show wpAny _ _ (call (Value.builtin "list.pop") _ _) _ _ _) | (with_reducible show wpAny _ _ (compareOp _ (Value.ref _) _) _ _ _) | (with_reducible show wpAny _ _ (compareOp CmpOp.NotEq _ _) _ _ _) | (with_reducible show wpAny _ _ (binaryOp Operator.Mult _ _) _ _ _) | (with_reducible show wpAny _ _ (exec (Stmt.For _ _ _ _ _) _) _ _ _) | (with_reducible show wpAny _ _ (exec (Stmt.While _ _ _ _) _) _ _ _) | (with_reducible show wpAny _ _ (eval (PySem.Expr.ListComp _ _ _ _) _) _ _ _)))); first | (k_unfold; (try dsimp only)) | walk1 | (dsimp only; walk1)))
        refine LCg.CompEnd.intro F13 N13 _ (fun _ hp => hp) off (.inr ⟨_, .tail _ (.head _), rfl, _, rfl⟩) ⟨rfl, ?_⟩
        rw [htk, List.filter_append, show ([r].filter fun r => decide (r ≠ [])) = [r] by simp [hr0], List.map_append]
        exact KStt.strs_snoc hys
    · rintro ys14 _ ⟨rfl, hys14⟩ D14 h14 tk14 F14 N14 off14
      clear N11 F10
      rw [List.size_toArray, hrl2, List.take_length, hraw] at hys14
      dsimp only
      (repeat' ((fail_if_success ((first | (with_reducible show Turn _ _ _ _ _ _ _ _) | (with_reducible show wpAny _ _ (execs [_, _, _, _, _] _) _ _ _) | ((fail_if_success skip)) | (with_reducible show LCg.CompEnd _ _ _ _ _ _ _ _ _ _ _ _ _ _) | (with_reducible show wpAny _ _ (subscriptTail _ _ (Value.ref _) (Value.int _ _)) _ _ _) | (with_reducible show wpAny _ _ (call (Value.ref _) _ _) _ _ _) | (with_reducible show wpAny _ _ (call (Value.builtin "str.join") _ _) _ _ _) | (with_reducible show wpAny _ _ (call (Value.builtin "str.count") _ _) _ _ _) | (with_reducible show wpAny _ _ (call (Value.builtin "list.extend") _ _) _ _ _) | (with_reducible show wpAny _ _ (call (Value.builtin "list.pop") _ _) _ _ _) | (with_reducible show wpAny _ _ (compareOp _ (Value.ref _) _) _ _ _) | (with_reducible show wpAny _ _ (compareOp CmpOp.NotEq _ _) _ _ _) | (with_reducible show wpAny _ _ (binaryOp Operator.Mult _ _) _ _ _) | (with_reducible show wpAny _ _ (exec (Stmt.For _ _ _ _ _) _) _ _ _) | (with_reducible show wpAny _ _ (exec (Stmt.While _ _ _ _) _) _ _ _) | (with_reducible show wpAny _ _ (eval (PySem.Expr.ListComp _ _ _ _) _) _ _ _)))); first | (k_unfold; (try dsimp only)) | walk1 | (dsimp only; walk1)))
      refine read_call (nl := _) (vs := ys14) B F14 X N14 T rfl rfl (N14 _ (.head _)).1 hys14 hrawl hrawp ?_
      intro v15 fz15 h15 tk15 out15 F15 N15
      clear N14 F14
      (repeat' ((fail_if_success ((first | (with_reducible show Turn _ _ _ _ _ _ _ _) | (with_reducible show wpAny _ _ (execs [_, _, _, _, _] _) _ _ _) | ((fail_if_success skip)) | (with_reducible show LCg.CompEnd _ _ _ _ _ _ _ _ _ _ _ _ _ _) | (with_reducible show wpAny _ _ (subscriptTail _ _ (Value.ref _) (Value.int _ _)) _ _ _) | (with_reducible show wpAny _ _ (call (Value.ref _) _ _) _ _ _) | (with_reducible show wpAny _ _ (call (Value.builtin "str.join") _ _) _ _ _) | (with_reducible show wpAny _ _ (call (Value.builtin "str.count") _ _) _ _ _) | (with_reducible show wpAny _ _ (call (Value.builtin "list.extend") _ _) _ _ _) | (with_reducible show wpAny _ _ (call (Value.builtin "list.pop") _ _) _ _ _) | (with_reducible show wpAny _ _ (compareOp _ (Value.ref _) _) _ _ _) | (with_reducible show wpAny _ _ (compareOp CmpOp.NotEq _ _) _ _ _) | (with_reducible show wpAny _ _ (binaryOp Operator.Mult _ _) _ _ _) | (with_reducible show wpAny _ _ (exec (Stmt.For _ _ _ _ _) _) _ _ _) | (with_reducible show wpAny _ _ (exec (Stmt.While _ _ _ _) _) _ _ _) | (with_reducible show wpAny _ _ (eval (PySem.Expr.ListComp _ _ _ _) _) _ _ _)))); first | (k_unfold; (try dsimp only)) | walk1 | (dsimp only; walk1)))
      have mem15 : ∀ p ∈ (r6, listOf rv6.toArray n6) :: (Lr, listOf rv.toArray nr) :: (Lp, listOf pv.toArray np) :: (L + 1, oc) :: (94, tabObj #[]) :: (77, tabObj tab6) :: (fz6 ++ fz), p ∈ fz15 ++ (D14, LCg.lst ys14) :: (r6, listOf rv6.toArray n6) :: (Lr, listOf rv.toArray nr) :: (Lp, listOf pv.toArray np) :: (L + 1, oc) :: (94, tabObj #[]) :: (77, tabObj tab6) :: (fz6 ++ fz) := fun p hp => List.mem_append_right _ (.tail _ hp)
      refine due_call (nl := np) (rv := pv) (ps := prs) (strict := true) B F15 X N15 T rfl rfl (N15 _ (mem15 _ (.tail _ (.tail _ (.head _))))).1 (tups_at N15 (fun p hp => mem15 _ (.tail _ (.tail _ (.tail _ (.tail _ (.tail _ (.tail _ (List.mem_append_right _ hp)))))))) hprs) hpl hpp ?_
      intro v16 fz16 h16 tk16 out16 F16 N16
      rw [← hread] at out16
      refine out_ne N16 out15 (fun q hq => List.mem_append_right _ (List.mem_append_left _ hq)) out16 (fun q hq => List.mem_append_left _ hq) hout (by ke_room) ?_
      have N17 := news_sub N16 fun p hp => List.mem_append_right _ (mem15 p hp)
      clear N16 N15 F15
      (repeat' ((fail_if_success ((first | (with_reducible show Turn _ _ _ _ _ _ _ _) | (with_reducible show wpAny _ _ (execs [_, _, _, _, _] _) _ _ _) | ((fail_if_success skip)) | (with_reducible show LCg.CompEnd _ _ _ _ _ _ _ _ _ _ _ _ _ _) | (with_reducible show wpAny _ _ (subscriptTail _ _ (Value.ref _) (Value.int _ _)) _ _ _) | (with_reducible show wpAny _ _ (call (Value.ref _) _ _) _ _ _) | (with_reducible show wpAny _ _ (call (Value.builtin "str.join") _ _) _ _ _) | (with_reducible show wpAny _ _ (call (Value.builtin "str.count") _ _) _ _ _) | (with_reducible show wpAny _ _ (call (Value.builtin "list.extend") _ _) _ _ _) | (with_reducible show wpAny _ _ (call (Value.builtin "list.pop") _ _) _ _ _) | (with_reducible show wpAny _ _ (compareOp _ (Value.ref _) _) _ _ _) | (with_reducible show wpAny _ _ (compareOp CmpOp.NotEq _ _) _ _ _) | (with_reducible show wpAny _ _ (binaryOp Operator.Mult _ _) _ _ _) | (with_reducible show wpAny _ _ (exec (Stmt.For _ _ _ _ _) _) _ _ _) | (with_reducible show wpAny _ _ (exec (Stmt.While _ _ _ _) _) _ _ _) | (with_reducible show wpAny _ _ (eval (PySem.Expr.ListComp _ _ _ _) _) _ _ _)))); first | (k_unfold; (try dsimp only)) | walk1 | (dsimp only; walk1)))
      rename Fr _ _ _ _ => F18
      rename News _ _ _ _ => N18
      rename_i Lc _ hLc _
      have N19 := news_sub (news' := (Lc, listOf (List.toArray []) 0) :: (r6, listOf rv6.toArray n6) :: (Lp, listOf pv.toArray np) :: (94, tabObj #[]) :: (77, tabObj tab6) :: (fz6 ++ fz)) N18 (by
        intro p hp
        simp only [List.mem_cons] at hp ⊢
        rcases hp with rfl | rfl | rfl | rfl | rfl | hp <;> simp [*])
      have d69 : ∀ q ∈ (r6, listOf rv6.toArray n6) :: fz6, q.1 ≠ 94 := fun q hq => d6 _ (.tail _ (.tail _ (.tail _ (.head _)))) q hq
      exact law_end (fz6 := fz6) (fz := fz) B X T F18 N19 hprs s6 hLc.1 hLc.2.2.1 hLc.2.2.2.2.1 (allLt_ne hLc.2.2.2.2.2.2) (d69 _ (.head _)) (neN (by (first | lia | omega))) (fun p hp => (List.mem_append.mp hp).elim (fun h => d69 p (.tail _ h)) (fz9 p)) rfl rfl rfl hpl hpp hpo hjl hP4 q2 q2p q2r q2o q3 q3p q3r q3o hQ)

/-- all that the walk asks of the texts -/
noncomputable def LawP (text : List Nat) (row : List (List Nat)) (prs : List Par) : Prop :=
  ∃ evs raws raws2 raws3, row.length ≤ 100 ∧ (∀ r ∈ row, okC r) ∧ prs.length ≤ 100 ∧ (∀ p ∈ prs, p.1.length ≤ 100 ∧ ∀ v, p.2 = some v → v.length ≤ 100) ∧ (∀ p ∈ prs, ParOk p) ∧
    phlR (S text) = row.map S ∧ Eats text evs ∧ (eatR evs = prs.map fun p => [p]) ∧
    row.filter (fun r => decide (r ≠ [])) = raws.map eltOf ∧ raws.length ≤ 100 ∧ (∀ r ∈ raws, 61 ∉ r.1 ∧ r.1.length ≤ 100 ∧ ∀ v, r.2 = some v → v.length ≤ 100 ∧ v ≠ [34]) ∧ readR raws = dueR true prs ∧ OutOk (readR raws) ∧
    (joinL [44, 32] (prs.map wordJ)).length ≤ 90000 ∧ phlR (S (joinL [44, 32] (prs.map wordJ))) = (prs.map cleanP).map S ∧
    prs.map cleanP = raws2.map eltOf ∧ (∀ r ∈ raws2, 61 ∉ r.1 ∧ r.1.length ≤ 100 ∧ ∀ v, r.2 = some v → v.length ≤ 100 ∧ v ≠ [34]) ∧ readR raws2 = dueR false prs ∧ OutOk (readR raws2) ∧
    (prs.map cleanP).filter (fun r => decide (61 ∈ r)) = raws3.map eltOf ∧ (∀ r ∈ raws3, 61 ∉ r.1 ∧ r.1.length ≤ 100 ∧ ∀ v, r.2 = some v → v.length ≤ 100 ∧ v ≠ [34]) ∧ readR raws3 = dueR false (prs.filter fun p => p.2.isSome) ∧ OutOk (readR raws3)
theorem tail_cnt : ∀ k, k < 4 → (Txt.count (S (tailT.getD k [])) (PySem.Str.ofString ",") : Int) = (((tailT.getD k []).count 44 : Nat) : Int) := by
  rw [ofStr_comma]
  decide +kernel
theorem tail_len : ∀ k, k < 4 → (tailT.getD k []).length ≤ 2 ∧ (tailT.getD k []).count 44 ≤ 1 := by decide

theorem law_mid {prog : Program} {w : World} {g : Heap} {L fa : Addr} {cd : Value} {p : Program} {loose : List PySem.Str} {mean : ExcName → Option Value} {mg mb : PySem.Str → Option Value} {Q : Flow → Shared → Prop} {s : Shared}
    {nsl sc : List Int} {ws ss : List Value} {Lr Lp D l0 : Addr} {tk : Nat} {m₁ : PySem.Str → Option Value} {news₁ : List (Addr × Obj)} {h : Heap} {T0 : List It}
    (B : Below callerA g [] g) (X : (hd.heap_39 w.params).In g) (T : Top p loose mean mg mb g) (hI : IntsAre ss sc) (hsl : g.IsList l0 ss.toArray) (hscl : sc.length ≤ 63) (hnl : nsl.length ≤ 9) (hT0 : T0 = its nsl)
    (htl : (textOf T0).length ≤ 1000) (hrl : (rowOf T0).length ≤ 100) (hP : LawP (textOf T0 ++ tailT.getD (sc.length % 4) []) (row2 T0 (tailT.getD (sc.length % 4) [])) (pairsOf T0))
    (hJ : LawJ nsl ws Lr Lp L D l0 nsl.length m₁ news₁) (F : Fr g L h m₁) (N : News g L h news₁)
    (hQ : ∀ m' nw tabA tabB h' tk', Fr g L h' m' → News g L h' nw → (94, tabObj tabA) ∈ nw → (77, tabObj tabB) ∈ nw → Q (.ret (.bool true)) { s with heap := h', toks := tk' }) :
    wpAny (model prog w) (callerA.deeper (lawE L fa cd)) (execs rest1 (lawE L fa cd)) Q (fun _ _ => False) { s with heap := h, toks := tk } := by
  w_on
  w_strict (
  obtain ⟨rv, pv, nr, np, oc, vo, fz, tt, J⟩ := hJ
  obtain ⟨rfl, hcell, hrow, hprs, fzr, fzp, fzc, fz9, fz7, fzd, ⟨o1, o2, o3, o4⟩, mt, mr, mp, mn, ms⟩ := J
  rw [show (its nsl).take nsl.length = T0 by rw [← its_len, List.take_length, hT0]] at hrow hprs mt
  unfold rest1 lawB Challenge.pw_nb0191_01
  dsimp only [lastBody, forRest]
  unfold lawE lawSc Challenge.pw_nb0191_01
  dsimp only [lastScope]
  have F1 := fr_see [(PySem.Str.ofString "text", .str (S (textOf T0)) tt), (PySem.Str.ofString "row", .ref Lr), (PySem.Str.ofString "pairs", .ref Lp), (PySem.Str.ofString "script", .ref l0)] F (by
    intro p hp
    simp only [List.mem_cons, List.not_mem_nil, or_false] at hp
    rcases hp with rfl | rfl | rfl | rfl
    · exact mt
    · exact mr
    · exact mp
    · exact ms)
  clear F mt mr mp mn ms
  have htl' : (S (textOf T0)).length ≤ 1000 := by rw [S_length]; exact htl
  have hrvl : rv.length ≤ 100 := by rw [hrow.length, List.length_map]; exact hrl
  (repeat' ((fail_if_success ((first | (with_reducible show Turn _ _ _ _ _ _ _ _) | (with_reducible show wpAny _ _ (execs [_, _, _, _, _] _) _ _ _) | ((with_reducible show wpAny _ _ (execs [_, _, _, _, _, _, _, _, _, _] _) _ _ _)) | (with_reducible show LCg.CompEnd _ _ _ _ _ _ _ _ _ _ _ _ _ _) | (with_reducible show wpAny _ _ (subscriptTail _ _ (Value.ref _) (Value.int _ _)) _ _ _) | (with_reducible show wpAny _ _ (call (Value.ref _) _ _) _ _ _) | (with_reducible show wpAny _ _ (call (Value.builtin "str.join") _ _) _ _ _) | (with_reducible show wpAny _ _ (call (Value.builtin "str.count") _ _) _ _ _) | (with_reducible show wpAny _ _ (call (Value.builtin "list.extend") _ _) _ _ _) | (with_reducible show wpAny _ _ (call (Value.builtin "list.pop") _ _) _ _ _) | (with_reducible show wpAny _ _ (compareOp _ (Value.ref _) _) _ _ _) | (with_reducible show wpAny _ _ (compareOp CmpOp.NotEq _ _) _ _ _) | (with_reducible show wpAny _ _ (binaryOp Operator.Mult _ _) _ _ _) | (with_reducible show wpAny _ _ (exec (Stmt.For _ _ _ _ _) _) _ _ _) | (with_reducible show wpAny _ _ (exec (Stmt.While _ _ _ _) _) _ _ _) | (with_reducible show wpAny _ _ (eval (PySem.Expr.ListComp _ _ _ _) _) _ _ _)))); first | (k_unfold; (try dsimp only)) | walk1 | (dsimp only; walk1)))
  rename Fr _ _ _ _ => F2
  rename News _ _ _ _ => N2
  have e4 : ((sc.length : Int).fmod 4) = ((sc.length % 4 : Nat) : Int) := fmod_nat _ 4
  simp only [e4]
  refine item_tab (tab := tailT) ⟨_, (N2 _ (.head _)).1, rfl, _, rfl⟩ (by rw [tailT_S]; repeat constructor) (show sc.length % 4 < 4 from Nat.mod_lt _ (by decide)) (by decide) ?_ (by with_unfolding_all rfl)
  intro tk3
  have N3 := news_sub N2 fun p hp => .tail _ hp
  clear N2
  have hcnt := tail_cnt (sc.length % 4) (Nat.mod_lt _ (by decide))
  have htln := tail_len (sc.length % 4) (Nat.mod_lt _ (by decide))
  generalize tailT.getD (sc.length % 4) [] = tl at *
  have htl2 : (S tl).length ≤ 2 := by rw [S_length]; exact htln.1
  (repeat' ((fail_if_success ((first | (with_reducible show Turn _ _ _ _ _ _ _ _) | (with_reducible show wpAny _ _ (execs [_, _, _, _, _] _) _ _ _) | ((with_reducible show wpAny _ _ (execs [_, _, _, _, _, _, _, _, _, _] _) _ _ _)) | (with_reducible show LCg.CompEnd _ _ _ _ _ _ _ _ _ _ _ _ _ _) | (with_reducible show wpAny _ _ (subscriptTail _ _ (Value.ref _) (Value.int _ _)) _ _ _) | (with_reducible show wpAny _ _ (call (Value.ref _) _ _) _ _ _) | (with_reducible show wpAny _ _ (call (Value.builtin "str.join") _ _) _ _ _) | (with_reducible show wpAny _ _ (call (Value.builtin "str.count") _ _) _ _ _) | (with_reducible show wpAny _ _ (call (Value.builtin "list.extend") _ _) _ _ _) | (with_reducible show wpAny _ _ (call (Value.builtin "list.pop") _ _) _ _ _) | (with_reducible show wpAny _ _ (compareOp _ (Value.ref _) _) _ _ _) | (with_reducible show wpAny _ _ (compareOp CmpOp.NotEq _ _) _ _ _) | (with_reducible show wpAny _ _ (binaryOp Operator.Mult _ _) _ _ _) | (with_reducible show wpAny _ _ (exec (Stmt.For _ _ _ _ _) _) _ _ _) | (with_reducible show wpAny _ _ (exec (Stmt.While _ _ _ _) _) _ _ _) | (with_reducible show wpAny _ _ (eval (PySem.Expr.ListComp _ _ _ _) _) _ _ _)))); first | (k_unfold; (try dsimp only)) | walk1 | (dsimp only; walk1)))
  rename Fr _ _ _ _ => F4
  rename News _ _ _ _ => N4
  rename_i l4 _ hl4
  refine SC.count ?_
  rw [hcnt]
  refine mul_one F4 N4 (N4 _ (.head _)).1 (by (first | lia | omega)) ?_
  intro h5 F5 N5 l5
  (repeat' ((fail_if_success ((first | (with_reducible show Turn _ _ _ _ _ _ _ _) | (with_reducible show wpAny _ _ (execs [_, _, _, _, _] _) _ _ _) | ((with_reducible show wpAny _ _ (execs [_, _, _, _, _, _, _, _, _, _] _) _ _ _)) | (with_reducible show LCg.CompEnd _ _ _ _ _ _ _ _ _ _ _ _ _ _) | (with_reducible show wpAny _ _ (subscriptTail _ _ (Value.ref _) (Value.int _ _)) _ _ _) | (with_reducible show wpAny _ _ (call (Value.ref _) _ _) _ _ _) | (with_reducible show wpAny _ _ (call (Value.builtin "str.join") _ _) _ _ _) | (with_reducible show wpAny _ _ (call (Value.builtin "str.count") _ _) _ _ _) | (with_reducible show wpAny _ _ (call (Value.builtin "list.extend") _ _) _ _ _) | (with_reducible show wpAny _ _ (call (Value.builtin "list.pop") _ _) _ _ _) | (with_reducible show wpAny _ _ (compareOp _ (Value.ref _) _) _ _ _) | (with_reducible show wpAny _ _ (compareOp CmpOp.NotEq _ _) _ _ _) | (with_reducible show wpAny _ _ (binaryOp Operator.Mult _ _) _ _ _) | (with_reducible show wpAny _ _ (exec (Stmt.For _ _ _ _ _) _) _ _ _) | (with_reducible show wpAny _ _ (exec (Stmt.While _ _ _ _) _) _ _ _) | (with_reducible show wpAny _ _ (eval (PySem.Expr.ListComp _ _ _ _) _) _ _ _)))); first | (k_unfold; (try dsimp only)) | walk1 | (dsimp only; walk1)))
  have hLr5 := l5 _ (.tail _ (.head _))
  have hall : ∀ p ∈ (Lp, listOf pv.toArray np) :: (L + 1, oc) :: (94, tabObj #[]) :: (77, tabObj #[]) :: (D, listOf ws.toArray 0) :: fz, p.1 ≠ Lr := by
    refine List.forall_mem_cons.mpr ⟨?_, List.forall_mem_cons.mpr ⟨?_, List.forall_mem_cons.mpr ⟨?_, List.forall_mem_cons.mpr ⟨?_, List.forall_mem_cons.mpr ⟨?_, fzr⟩⟩⟩⟩⟩ <;> (refine neN ?_; (try dsimp only); (first | lia | omega))
  refine extend_list F5 N5 (.head _) (fun n' => .tail (neN hLr5) (.tail (neN (by dsimp only; (first | lia | omega))) (.head hall))) (by (first | lia | omega)) (by simp; (first | lia | omega)) ?_
  intro h6 n6 F6 N6
  have N7 := news_sub (news' := (Lr, _) :: (Lp, listOf pv.toArray np) :: (L + 1, oc) :: (94, tabObj #[]) :: (77, tabObj #[]) :: fz) N6 (fun p hp => by
    rcases List.mem_cons.mp hp with rfl | hp
    · exact .tail _ (.tail _ (.head _))
    · rcases List.mem_cons.mp hp with rfl | hp
      · exact .tail _ (.tail _ (.tail _ (.head _)))
      · rcases List.mem_cons.mp hp with rfl | hp
        · exact .tail _ (.tail _ (.tail _ (.tail _ (.head _))))
        · rcases List.mem_cons.mp hp with rfl | hp
          · exact .tail _ (.tail _ (.tail _ (.tail _ (.tail _ (.head _)))))
          · rcases List.mem_cons.mp hp with rfl | hp
            · exact .tail _ (.tail _ (.tail _ (.tail _ (.tail _ (.tail _ (.head _))))))
            · exact .tail _ (.tail _ (.tail _ (.tail _ (.tail _ (.tail _ (.tail _ (.tail _ hp))))))))
  clear N6 N5 N4 F5 F4
  obtain ⟨evs, raws, raws2, raws3, p1, p2, p3, p4, p5, p6, p7, p8, p9, p10, p11, p12, p13, p14, p15, p16, p17, p18, p19, p20, p21, p22, p23⟩ := hP
  have htx : (textOf T0 ++ tl).length ≤ 2000 := by rw [List.length_append]; (first | lia | omega)
  (repeat' ((fail_if_success ((first | (with_reducible show Turn _ _ _ _ _ _ _ _) | (with_reducible show wpAny _ _ (execs [_, _, _, _, _] _) _ _ _) | ((with_reducible show wpAny _ _ (execs [_, _, _, _, _, _, _, _, _, _] _) _ _ _)) | (with_reducible show LCg.CompEnd _ _ _ _ _ _ _ _ _ _ _ _ _ _) | (with_reducible show wpAny _ _ (subscriptTail _ _ (Value.ref _) (Value.int _ _)) _ _ _) | (with_reducible show wpAny _ _ (call (Value.ref _) _ _) _ _ _) | (with_reducible show wpAny _ _ (call (Value.builtin "str.join") _ _) _ _ _) | (with_reducible show wpAny _ _ (call (Value.builtin "str.count") _ _) _ _ _) | (with_reducible show wpAny _ _ (call (Value.builtin "list.extend") _ _) _ _ _) | (with_reducible show wpAny _ _ (call (Value.builtin "list.pop") _ _) _ _ _) | (with_reducible show wpAny _ _ (compareOp _ (Value.ref _) _) _ _ _) | (with_reducible show wpAny _ _ (compareOp CmpOp.NotEq _ _) _ _ _) | (with_reducible show wpAny _ _ (binaryOp Operator.Mult _ _) _ _ _) | (with_reducible show wpAny _ _ (exec (Stmt.For _ _ _ _ _) _) _ _ _) | (with_reducible show wpAny _ _ (exec (Stmt.While _ _ _ _) _) _ _ _) | (with_reducible show wpAny _ _ (eval (PySem.Expr.ListComp _ _ _ _) _) _ _ _)))); first | (k_unfold; (try dsimp only)) | walk1 | (dsimp only; walk1)))
  · rename (S tl == PySem.Str.ofString ",") = true => hc
    rw [ofStr_comma, S_eq_beq] at hc
    have hc' : tl = [44] := by simpa using hc
    subst hc'
    refine kl_pop (p := rv) (y := Value.str (PySem.Str.ofString "") _) F6 N7 (kpa_last _ rv) (.head (fun p hp => ?_)) ?_ ?_
    · rcases List.mem_cons.mp hp with rfl | hp
      · exact hall _ (.head _)
      · rcases List.mem_cons.mp hp with rfl | hp
        · exact hall _ (.tail _ (.head _))
        · rcases List.mem_cons.mp hp with rfl | hp
          · exact hall _ (.tail _ (.tail _ (.head _)))
          · rcases List.mem_cons.mp hp with rfl | hp
            · exact hall _ (.tail _ (.tail _ (.tail _ (.head _))))
            · exact fzr p hp
    · show (rv ++ [_]).length ≤ _
      rw [List.length_append, sizeLine_eq, List.length_cons, List.length_nil]
      (first | lia | omega)
    · intro h8 F8 N8
      (repeat' ((fail_if_success ((first | (with_reducible show Turn _ _ _ _ _ _ _ _) | (with_reducible show wpAny _ _ (execs [_, _, _, _, _] _) _ _ _) | ((with_reducible show wpAny _ _ (execs [_, _, _, _, _, _, _, _, _, _] _) _ _ _)) | (with_reducible show LCg.CompEnd _ _ _ _ _ _ _ _ _ _ _ _ _ _) | (with_reducible show wpAny _ _ (subscriptTail _ _ (Value.ref _) (Value.int _ _)) _ _ _) | (with_reducible show wpAny _ _ (call (Value.ref _) _ _) _ _ _) | (with_reducible show wpAny _ _ (call (Value.builtin "str.join") _ _) _ _ _) | (with_reducible show wpAny _ _ (call (Value.builtin "str.count") _ _) _ _ _) | (with_reducible show wpAny _ _ (call (Value.builtin "list.extend") _ _) _ _ _) | (with_reducible show wpAny _ _ (call (Value.builtin "list.pop") _ _) _ _ _) | (with_reducible show wpAny _ _ (compareOp _ (Value.ref _) _) _ _ _) | (with_reducible show wpAny _ _ (compareOp CmpOp.NotEq _ _) _ _ _) | (with_reducible show wpAny _ _ (binaryOp Operator.Mult _ _) _ _ _) | (with_reducible show wpAny _ _ (exec (Stmt.For _ _ _ _ _) _) _ _ _) | (with_reducible show wpAny _ _ (exec (Stmt.While _ _ _ _) _) _ _ _) | (with_reducible show wpAny _ _ (eval (PySem.Expr.ListComp _ _ _ _) _) _ _ _)))); first | (k_unfold; (try dsimp only)) | walk1 | (dsimp only; walk1)))
      have er : row2 T0 [44] = rowOf T0 := by
        unfold row2
        rw [if_pos rfl, show List.count 44 [44] = 1 from rfl]
        simp
      rw [er] at p1 p2 p6 p9
      exact law_mid1 B X T F8 N8 hrow hprs fz9 fz7 ⟨o1, o2, o3⟩ (congrArg (fun y => some (Value.str y _)) (S_append _ _)) rfl rfl htx p1 p2 p3 p4 p5 p6 p7 p8 p9 p10 p11 p12 p13 p14 p15 p16 p17 p18 p19 p20 p21 p22 p23 hQ
  · rename (S tl == PySem.Str.ofString ",") = false => hc
    rw [ofStr_comma, S_eq_beq] at hc
    have hc' : tl ≠ [44] := by simpa using hc
    have er : row2 T0 tl = rowOf T0 ++ List.replicate (tl.count 44) [] := by
      unfold row2
      rw [if_neg hc']
    rw [er] at p1 p2 p6 p9
    exact law_mid1 B X T F6 N7 (by rw [List.map_append]; exact strs_append hrow (strs_rep _ _)) hprs fz9 fz7 ⟨o1, o2, o3⟩ (congrArg (fun y => some (Value.str y _)) (S_append _ _)) rfl rfl htx p1 p2 p3 p4 p5 p6 p7 p8 p9 p10 p11 p12 p13 p14 p15 p16 p17 p18 p19 p20 p21 p22 p23 hQ)
end Mine

end

section
open PySem PySem.W PyProof.Rows PySem.Calls
set_option maxRecDepth 100000
set_option maxHeartbeats 4000000
set_option linter.unusedVariables false
set_option linter.unusedSimpArgs false
namespace Mine
theorem tw_split {p : Nat → Bool} : ∀ {ws y : List Nat}, (∀ c ∈ ws, p c = true) → (y = [] ∨ ∃ c r, y = c :: r ∧ p c = false) → (ws ++ y).takeWhile p = ws
  | [], y, _, h => by
    rcases h with rfl | ⟨c, r, rfl, hc⟩
    · rfl
    · simp [List.takeWhile_cons, hc]
  | c :: ws, y, hw, h => by
    rw [List.cons_append, List.takeWhile_cons, if_pos (hw c (.head _)), tw_split (fun d hd => hw d (.tail _ hd)) h]
structure Solid (x : List Nat) : Prop where
  hd : ∃ c r, x = c :: r ∧ sp c = false
  la : ∃ r d, x = r ++ [d] ∧ sp d = false
theorem strip_eq (l : List Nat) : Txt.strip (S l) = S ((l.drop (l.takeWhile sp).length).take ((l.length - ((l.drop (l.takeWhile sp).length).reverse.takeWhile sp).length) - (l.takeWhile sp).length)) := by
  have e : PySem.stripped Unicode.isSpace true true (S l) = S ((l.drop (l.takeWhile sp).length).take ((l.length - ((l.drop (l.takeWhile sp).length).reverse.takeWhile sp).length) - (l.takeWhile sp).length)) := by
    unfold PySem.stripped PySem.stripLo PySem.stripHi
    simp only [if_true]
    rw [sub_S, S_list, S_length]
  unfold Txt.strip Txt.stripBy
  split
  · rename_i h
    unfold PySem.stripSame PySem.stripLo PySem.stripHi at h
    simp only [if_true, Bool.and_eq_true, beq_iff_eq] at h
    rw [S_list, S_length] at h
    obtain ⟨h1, h2⟩ := h
    rw [h2, h1]
    simp
  · exact e
theorem strip_ws {ws : List Nat} (h : Spaces ws) : Txt.strip (S ws) = S [] := by
  rw [strip_eq]
  have e : ws.takeWhile sp = ws := by simpa using tw_split (ws := ws) (y := []) h (.inl rfl)
  rw [e]
  simp
theorem strip_solid {ws x ws' : List Nat} (h : Spaces ws) (hx : Solid x) (h' : Spaces ws') : Txt.strip (S (ws ++ (x ++ ws'))) = S x := by
  rw [strip_eq]
  obtain ⟨c, r, e1, hc⟩ := hx.hd
  obtain ⟨r', d, e2, hd⟩ := hx.la
  have e : (ws ++ (x ++ ws')).takeWhile sp = ws := tw_split h (.inr ⟨c, r ++ ws', by rw [e1]; rfl, hc⟩)
  rw [e, List.drop_left]
  have e3 : (x ++ ws').reverse.takeWhile sp = ws'.reverse := by
    rw [List.reverse_append]
    refine tw_split (fun c hc => h' c (List.mem_reverse.mp hc)) (.inr ⟨d, r'.reverse, ?_, hd⟩)
    rw [e2]; simp
  rw [e3]
  congr 1
  have : (ws ++ (x ++ ws')).length - ws'.reverse.length - ws.length = x.length := by
    simp only [List.length_append, List.length_reverse]; (first | lia | omega)
  rw [this]
  simp
/-- a part as it lies: blanks, what is meant, blanks -/
noncomputable def Lies (p x : List Nat) : Prop := ∃ ws, p = ws ++ x ∧ Spaces ws ∧ (x = [] ∨ Solid x)
theorem Lies.strip {p x : List Nat} (h : Lies p x) : Txt.strip (S p) = S x := by
  obtain ⟨ws, rfl, hw, hx⟩ := h
  rcases hx with rfl | hx
  · rw [List.append_nil]; exact strip_ws hw
  · have := strip_solid hw hx (ws' := []) (fun _ h => nomatch h)
    rwa [List.append_nil] at this
theorem Lies.strip2 {p x a : List Nat} (h : Lies p x) (ha : Spaces a) : Txt.strip (S (p ++ a)) = S x := by
  obtain ⟨ws, rfl, hw, hx⟩ := h
  rcases hx with rfl | hx
  · rw [List.append_nil]
    exact strip_ws fun c hc => (List.mem_append.mp hc).elim (hw c) (ha c)
  · rw [List.append_assoc]; exact strip_solid hw hx ha

/-- parse_http_list's turn, by signs -/
noncomputable abbrev PhT := List (List Nat) × List Nat × Bool × Bool
noncomputable def phS (st : PhT) (c : Nat) : PhT :=
  if st.2.2.1 then (st.1, st.2.1 ++ [c], false, st.2.2.2)
  else if st.2.2.2 then
    if c = 92 then (st.1, st.2.1, true, st.2.2.2)
    else (st.1, st.2.1 ++ [c], false, !(c == 34))
  else if c = 44 then (st.1 ++ [st.2.1], [], false, false)
  else (st.1, st.2.1 ++ [c], false, c == 34)
noncomputable def toP (st : PhT) : PhlSt := (st.1.map S, S st.2.1, st.2.2.1, st.2.2.2)
theorem ph_step (st : PhT) (c : Nat) : phlS (toP st) c = toP (phS st c) := by
  obtain ⟨res, part, e, q⟩ := st
  unfold phlS toP phS
  dsimp only
  have ha : S part ++ (⟨#[c]⟩ : PySem.Str) = S (part ++ [c]) := S_append part [c]
  cases e <;> cases q <;> simp only [Bool.false_eq_true, if_false, if_true, ha]
  · by_cases h : c = 44
    · simp only [h, if_true, List.map_append, List.map_cons, List.map_nil, ofStr_nil]
    · simp only [h, if_false]
  · by_cases h : c = 92
    · simp only [h, if_true]
    · simp only [h, if_false]
theorem ph_fold : ∀ (l : List Nat) (st : PhT), l.foldl phlS (toP st) = toP (l.foldl phS st)
  | [], _ => rfl
  | c :: l, st => by rw [List.foldl_cons, List.foldl_cons, ph_step, ph_fold l]
theorem phl_by {l : List Nat} {res : List (List Nat)} {p : List Nat} (h : l.foldl phS ([], [], false, false) = (res, p, false, false)) : phlR (S l) = ((if p = [] then res else res ++ [p]).map S).map Txt.strip := by
  unfold phlR phlEnd phlF
  rw [S_list, show (([], PySem.Str.ofString "", false, false) : PhlSt) = toP ([], [], false, false) by unfold toP; rw [ofStr_nil]; rfl, ph_fold, h]
  unfold toP
  dsimp only
  rw [S_length]
  by_cases hp : p = []
  · rw [if_pos hp, if_pos (by rw [hp]; rfl)]
  · rw [if_neg hp, if_neg (by intro e; exact hp (List.length_eq_zero_iff.mp e))]
    simp only [List.map_append, List.map_cons, List.map_nil]
/-- signs that are taken as they are -/
noncomputable def Flat0 (l : List Nat) : Prop := ∀ c ∈ l, c ≠ 44 ∧ c ≠ 34
theorem ph_flat : ∀ {l : List Nat} {res : List (List Nat)} {p : List Nat}, Flat0 l → l.foldl phS (res, p, false, false) = (res, p ++ l, false, false)
  | [], _, _, _ => by simp
  | c :: l, res, p, h => by
    obtain ⟨h1, h2⟩ := h c (.head _)
    rw [List.foldl_cons]
    have e : phS (res, p, false, false) c = (res, p ++ [c], false, false) := by
      unfold phS
      simp [h1, h2]
    rw [e, ph_flat fun d hd => h d (.tail _ hd)]
    simp
/-- within marks -/
theorem ph_marks {e v : List Nat} (h : Esc e v) : ∀ {res : List (List Nat)} {p : List Nat}, e.foldl phS (res, p, false, true) = (res, p ++ v, false, true) := by
  induction h with
  | nil => intro res p; simp
  | @plain c e v hc _ ih =>
    intro res p
    have h1 : c ≠ 92 := plain92 hc
    have h2 : c ≠ 34 := by rintro rfl; exact absurd hc (by decide)
    rw [List.foldl_cons]
    have e : phS (res, p, false, true) c = (res, p ++ [c], false, true) := by unfold phS; simp [h1, h2]
    rw [e, ih]; simp
  | @esc c e v hc _ ih =>
    intro res p
    rw [List.foldl_cons, List.foldl_cons]
    have e : phS (phS (res, p, false, true) 92) c = (res, p ++ [c], false, true) := by unfold phS; simp
    rw [e, ih]; simp
theorem ph_quo {e v : List Nat} (h : Esc e v) {res : List (List Nat)} {p : List Nat} : (34 :: (e ++ [34])).foldl phS (res, p, false, false) = (res, p ++ 34 :: (v ++ [34]), false, false) := by
  rw [List.foldl_cons, List.foldl_append]
  have e1 : phS (res, p, false, false) 34 = (res, p ++ [34], false, true) := by unfold phS; simp
  rw [e1, ph_marks h]
  show phS (res, p ++ [34] ++ v, false, true) 34 = _
  unfold phS
  simp
theorem ph_comma {res : List (List Nat)} {p l : List Nat} : (44 :: l).foldl phS (res, p, false, false) = l.foldl phS (res ++ [p], [], false, false) := by
  rw [List.foldl_cons]; rfl
end Mine

end

section
open PySem PySem.W PyProof.Rows PySem.Calls
set_option maxRecDepth 100000
set_option maxHeartbeats 4000000
set_option linter.unusedVariables false
set_option linter.unusedSimpArgs false
namespace Mine
/-- the dress of a parameter: its value, its part, its word -/
inductive Dress (key : List Nat) : Option (List Nat) → List Nat → List Nat → Prop
  | lone : Dress key none key key
  | eq : Dress key (some []) (key ++ [61]) (key ++ [61])
  | bare {v : List Nat} : v ≠ [] → (∀ c ∈ v, c ∈ bareL) → Dress key (some v) (key ++ 61 :: v) (key ++ 61 :: v)
  | quo {v e : List Nat} : v ≠ [] → (∀ c ∈ v, c ∈ sgnL) → Esc e v → Dress key (some v) (key ++ 61 :: 34 :: (v ++ [34])) (key ++ 61 :: 34 :: (e ++ [34]))
structure Good (t : It) : Prop where
  gap : t.gap ∈ gapT
  key : t.key ∈ keyT
  dr : Dress t.key t.val t.part t.word
theorem esc_st {st : List Nat} (h1 : 34 ∈ st) (h2 : 92 ∈ st) (h3 : 10 ∉ st) : ∀ v : List Nat, Esc (escS st v) v
  | [] => .nil
  | c :: v => by
    have ih := esc_st h1 h2 h3 v
    unfold escS at ih ⊢
    rw [List.flatMap_cons]
    by_cases hc : c ∈ st
    · rw [if_pos hc]
      exact .esc (by rintro rfl; exact h3 hc) ih
    · rw [if_neg hc]
      refine .plain ?_ ih
      unfold isPlain
      have a : c ≠ 34 := by rintro rfl; exact hc h1
      have b : c ≠ 92 := by rintro rfl; exact hc h2
      simp [a, b]
theorem signs_ne (n : Nat) (h : 0 < n) : signsOf n ≠ [] := by
  unfold signsOf signsF
  rw [if_neg (by (first | lia | omega))]
  simp
theorem signs_mem (n : Nat) : ∀ c ∈ signsOf n, c ∈ sgnL := fun c hc => signsF_mem 5 n c hc
theorem only_mem {v sg : List Nat} (h : onlyB v sg = true) : ∀ c ∈ v, c ∈ sg := fun c hc => by
  have := List.all_eq_true.mp h c hc
  simpa using this
theorem getD_mem {α : Type} {l : List α} {d : α} {k : Nat} (h : k < l.length) : l.getD k d ∈ l := by
  simp [List.getD_eq_getElem?_getD, h]
theorem it_good (i n : Nat) : Good (itOf i n) := by
  have hg : gapT.getD (n / 48 % 8) [] ∈ gapT := getD_mem (show n / 48 % 8 < 8 from Nat.mod_lt _ (by decide))
  have hk : keyT.getD (n % 4) [] ∈ keyT := getD_mem (show n % 4 < 4 from Nat.mod_lt _ (by decide))
  have hv : signsOf (n / 384 + 37 * i + 3) ≠ [] := signs_ne _ (by (first | lia | omega))
  have hm := signs_mem (n / 384 + 37 * i + 3)
  unfold itOf
  split
  · exact ⟨hg, hk, .lone⟩
  split
  · exact ⟨hg, hk, .eq⟩
  split
  · rename_i h
    exact ⟨hg, hk, .bare hv (only_mem h.2)⟩
  · refine ⟨hg, hk, .quo hv hm ?_⟩
    split
    · exact esc_st (by decide) (by decide) (by decide) _
    · exact esc_st (by decide) (by decide) (by decide) _
theorem key_flat : ∀ k ∈ keyT, Flat0 k := by unfold Flat0; decide
theorem key_solid_hd : ∀ k ∈ keyT, ∃ c r, k = c :: r ∧ sp c = false := by
  intro k hk
  have : ∀ k ∈ keyT, k ≠ [] ∧ sp (k.headD 0) = false := by decide +kernel
  obtain ⟨h1, h2⟩ := this k hk
  cases k with
  | nil => exact absurd rfl h1
  | cons c r => exact ⟨c, r, rfl, h2⟩
theorem key_solid_la : ∀ k ∈ keyT, ∃ r d, k = r ++ [d] ∧ sp d = false := by
  intro k hk
  have : ∀ k ∈ keyT, k ≠ [] ∧ sp (k.getLastD 0) = false := by decide +kernel
  obtain ⟨h1, h2⟩ := this k hk
  refine ⟨k.dropLast, k.getLast h1, (List.dropLast_concat_getLast h1).symm, ?_⟩
  rw [List.getLastD_eq_getLast?, List.getLast?_eq_getLast h1] at h2
  exact h2
theorem bare_flat : ∀ c ∈ bareL, c ≠ 44 ∧ c ≠ 34 := by decide
theorem bare_nosp : ∀ c ∈ bareL, sp c = false := by decide +kernel
theorem solid_key {k y : List Nat} (hk : k ∈ keyT) (hy : ∃ r d, y = r ++ [d] ∧ sp d = false) : Solid (k ++ y) := by
  obtain ⟨c, r, rfl, hc⟩ := key_solid_hd k hk
  obtain ⟨r', d, rfl, hd⟩ := hy
  exact ⟨⟨c, r ++ (r' ++ [d]), rfl, hc⟩, ⟨(c :: r) ++ r', d, by simp, hd⟩⟩
theorem Good.solid {t : It} (h : Good t) : Solid t.part := by
  obtain ⟨hg, hk, hd⟩ := h
  generalize t.part = part at *
  generalize t.word = word at *
  generalize t.val = val at *
  cases hd with
  | lone => exact ⟨key_solid_hd _ hk, key_solid_la _ hk⟩
  | eq => exact solid_key hk ⟨[], 61, rfl, by decide +kernel⟩
  | @bare v hv hm =>
    refine solid_key hk ⟨61 :: v.dropLast, v.getLast hv, ?_, bare_nosp _ (hm _ (List.getLast_mem hv))⟩
    rw [List.cons_append, List.dropLast_concat_getLast hv]
  | @quo v e hv hm he => exact solid_key hk ⟨61 :: 34 :: v, 34, by simp, by decide +kernel⟩
theorem flat_append {a b : List Nat} (ha : Flat0 a) (hb : Flat0 b) : Flat0 (a ++ b) := fun c hc => (List.mem_append.mp hc).elim (ha c) (hb c)
theorem Good.word {t : It} (h : Good t) {res : List (List Nat)} {p : List Nat} : t.word.foldl phS (res, p, false, false) = (res, p ++ t.part, false, false) := by
  obtain ⟨hg, hk, hd⟩ := h
  have kf := key_flat _ hk
  have f61 : Flat0 [61] := by unfold Flat0; decide
  generalize t.part = part at *
  generalize t.word = word at *
  generalize t.val = val at *
  cases hd with
  | lone => exact ph_flat kf
  | eq => exact ph_flat (flat_append kf f61)
  | @bare v hv hm => exact ph_flat (flat_append kf (flat_append (a := [61]) f61 fun c hc => bare_flat c (hm c hc)))
  | @quo v e hv hm he =>
    have e1 : t.key ++ 61 :: 34 :: (e ++ [34]) = (t.key ++ [61]) ++ (34 :: (e ++ [34])) := by simp
    rw [e1, List.foldl_append, ph_flat (flat_append kf f61), ph_quo he]
    simp
/-- a gap, by its commas -/
theorem gap_ph : ∀ gp ∈ gapT, ∀ (res : List (List Nat)) (p : List Nat), ∃ a mids ws, gp.foldl phS (res, p, false, false) = (res ++ [p ++ a] ++ mids, ws, false, false) ∧ Spaces a ∧ (∀ x ∈ mids, Spaces x) ∧ Spaces ws ∧ mids.length + 1 = gp.count 44 := by
  intro gp hg res p
  have s0 : Spaces [] := fun _ h => nomatch h
  have s1 : Spaces [32] := by unfold Spaces; decide +kernel
  have s2 : Spaces [9] := by unfold Spaces; decide +kernel
  have s3 : Spaces [32, 32] := by unfold Spaces; decide +kernel
  have m1 : ∀ x ∈ [[]], Spaces x := fun x hx => by rw [List.mem_singleton.mp hx]; exact s0
  have m2 : ∀ x ∈ [[32]], Spaces x := fun x hx => by rw [List.mem_singleton.mp hx]; exact s1
  have m0 : ∀ x ∈ ([] : List (List Nat)), Spaces x := fun _ h => nomatch h
  simp only [gapT, List.mem_cons, List.not_mem_nil, or_false] at hg
  rcases hg with rfl | rfl | rfl | rfl | rfl | rfl | rfl | rfl
  · exact ⟨[], [], [32], by simp [phS], s0, m0, s1, rfl⟩
  · exact ⟨[], [], [], by simp [phS], s0, m0, s0, rfl⟩
  · exact ⟨[32], [], [9], by simp [phS], s1, m0, s2, rfl⟩
  · exact ⟨[], [[]], [], by simp [phS], s0, m1, s0, rfl⟩
  · exact ⟨[], [[32]], [32], by simp [phS], s0, m2, s1, rfl⟩
  · exact ⟨[9], [], [], by simp [phS], s2, m0, s0, rfl⟩
  · exact ⟨[], [], [32, 32], by simp [phS], s0, m0, s3, rfl⟩
  · exact ⟨[32], [], [32], by simp [phS], s1, m0, s1, rfl⟩
theorem strip_mids : ∀ {mids : List (List Nat)}, (∀ x ∈ mids, Spaces x) → (mids.map S).map Txt.strip = (List.replicate mids.length []).map S
  | [], _ => rfl
  | x :: mids, h => by
    rw [List.map_cons, List.map_cons, strip_ws (h x (.head _)), strip_mids fun y hy => h y (.tail _ hy)]
    rfl
/-- what parse_http_list has in hand behind the parameters -/
theorem ph_items : ∀ (l : List It) (rw0 : List (List Nat)) (res : List (List Nat)) (p x : List Nat), (∀ t ∈ l, Good t) → (res.map S).map Txt.strip = rw0.map S → Lies p x →
    ∃ res' p' rw1 x', (textOf l).foldl phS (res, p, false, false) = (res', p', false, false) ∧ (res'.map S).map Txt.strip = rw1.map S ∧ Lies p' x' ∧ l.foldl rowS (rw0 ++ [x]) = rw1 ++ [x'] ∧ (l ≠ [] → p' ≠ [])
  | [], rw0, res, p, x, _, h1, h2 => ⟨res, p, rw0, x, rfl, h1, h2, rfl, fun h => absurd rfl h⟩
  | t :: l, rw0, res, p, x, hg, h1, h2 => by
    have ht := hg t (.head _)
    obtain ⟨a, mids, ws, e, ha, hm, hw, hc⟩ := gap_ph t.gap ht.gap res p
    have hL : Lies (ws ++ t.part) t.part := ⟨ws, rfl, hw, .inr ht.solid⟩
    have h3 : ((res ++ [p ++ a] ++ mids).map S).map Txt.strip = (rw0 ++ [x] ++ List.replicate mids.length []).map S := by
      simp only [List.map_append, List.map_cons, List.map_nil, h1, h2.strip2 ha]
      rw [strip_mids hm]
    obtain ⟨res', p', rw1, x', q1, q2, q3, q4, q5⟩ := ph_items l (rw0 ++ [x] ++ List.replicate mids.length []) (res ++ [p ++ a] ++ mids) (ws ++ t.part) t.part (fun t ht => hg t (.tail _ ht)) h3 hL
    have hp0 : ws ++ t.part ≠ [] := by
      obtain ⟨c, r, e, _⟩ := ht.solid.hd
      rw [e]; simp
    refine ⟨res', p', rw1, x', ?_, q2, q3, ?_, fun _ => ?_⟩
    · unfold textOf
      rw [List.flatMap_cons, List.foldl_append, List.foldl_append, e, ht.word]
      exact q1
    · rw [List.foldl_cons, ← q4]
      congr 1
      unfold rowS
      rw [← hc, List.replicate_succ', ← List.append_assoc, List.dropLast_concat]
    · cases l with
      | nil =>
        have : (res', p', false, false) = ((res ++ [p ++ a] ++ mids, ws ++ t.part, false, false) : PhT) := q1.symm
        rw [show p' = ws ++ t.part from congrArg (fun z : PhT => z.2.1) this]
        exact hp0
      | cons t' l => exact q5 (by simp)
end Mine

end

section
open PySem PySem.W PyProof.Rows PySem.Calls
set_option maxRecDepth 100000
set_option maxHeartbeats 4000000
set_option linter.unusedVariables false
set_option linter.unusedSimpArgs false
namespace Mine
/-- what the events make of it -/
noncomputable def OutE (evs : List Ev) (rs : List (List Par)) : Prop := ∀ R P, eatEnd (evs.foldl eatS (R, P)) = (if P = [] then R else R ++ [P]) ++ rs
noncomputable def Out0 (evs : List Ev) (rs : List (List Par)) : Prop := ∀ R, eatEnd (evs.foldl eatS (R, [])) = R ++ rs
theorem OutE.nil : OutE [] [] := fun R P => by
  show eatEnd (R, P) = _
  unfold eatEnd; simp
theorem OutE.junk : OutE [.junk] [] := fun R P => OutE.nil R P
theorem OutE.zero {evs : List Ev} {rs : List (List Par)} (h : OutE evs rs) : Out0 evs rs := fun R => by rw [h R []]; simp
theorem OutE.comma {evs : List Ev} {rs : List (List Par)} (h : Out0 evs rs) : OutE (.comma :: evs) rs := fun R P => by
  rw [List.foldl_cons]
  exact h _
theorem Out0.param {evs : List Ev} {rs : List (List Par)} (h : OutE evs rs) (p : Par) : Out0 (.param p :: evs) ([p] :: rs) := fun R => by
  rw [List.foldl_cons]
  show eatEnd (evs.foldl eatS (R, [] ++ [p])) = _
  rw [h]; simp
/-- what stands behind a parameter -/
noncomputable def Behind (more : List Nat) (rs : List (List Par)) : Prop := ∃ ws r evs1 evs2, more = ws ++ r ∧ Spaces ws ∧ Stop r ∧ Eats (ws ++ r) evs1 ∧ Eats r evs2 ∧ OutE evs1 rs ∧ OutE evs2 rs
theorem key_tok : ∀ k ∈ keyT, ∀ c ∈ k, isTok c = true := by decide +kernel
theorem key_ne : ∀ k ∈ keyT, k ≠ [] := by decide
theorem bare_bare : ∀ c ∈ bareL, isBare c = true := by decide +kernel
theorem bare_no34 : ∀ c ∈ bareL, c ≠ 34 := by decide
theorem sp_bare {c : Nat} (h : sp c = true) : isBare c = false := by
  unfold isBare; rw [show Unicode.isSpace c = true from h]; rfl
theorem word_eats {t : It} (ht : Good t) {ws more : List Nat} {rs : List (List Par)} (hw : Spaces ws) (hb : Behind more rs) : ∃ evs, Eats (ws ++ (t.word ++ more)) evs ∧ Out0 evs ([(t.key, t.val)] :: rs) := by
  obtain ⟨ws2, r, evs1, evs2, rfl, hws2, hr, hE1, hE2, hO1, hO2⟩ := hb
  obtain ⟨hg, hk, hd⟩ := ht
  have kt := key_tok _ hk
  have kn := key_ne _ hk
  generalize t.part = part at *
  generalize t.word = word at *
  generalize t.val = val at *
  cases hd with
  | lone => exact ⟨_, .lone hw kn kt hws2 hr hE1, Out0.param hO1 _⟩
  | eq =>
    have e : ws ++ (t.key ++ [61] ++ (ws2 ++ r)) = ws ++ (t.key ++ 61 :: (ws2 ++ ([] ++ r))) := by simp
    rw [e]
    refine ⟨_, .bare hw kn kt hws2 ⟨(fun _ h => nomatch h), by decide, ?_, fun _ => hr⟩ hE2, Out0.param hO2 _⟩
    rcases hr with rfl | ⟨r', rfl⟩
    · exact .inl rfl
    · exact .inr (show isBare 44 = false by decide +kernel)
  | @bare v hv hm =>
    have e : ws ++ (t.key ++ 61 :: v ++ (ws2 ++ r)) = ws ++ (t.key ++ 61 :: ([] ++ (v ++ (ws2 ++ r)))) := by simp
    rw [e]
    refine ⟨_, .bare hw kn kt (fun _ h => nomatch h) ⟨fun c hc => bare_bare c (hm c hc), ?_, ?_, fun h => absurd h hv⟩ hE1, Out0.param hO1 _⟩
    · cases v with
      | nil => exact absurd rfl hv
      | cons c v => exact bare_no34 c (hm c (.head _))
    · cases ws2 with
      | nil =>
        rcases hr with rfl | ⟨r', rfl⟩
        · exact .inl rfl
        · exact .inr (show isBare 44 = false by decide +kernel)
      | cons c ws2 => exact .inr (sp_bare (hws2 c (.head _)))
  | @quo v e hv hm he =>
    have e1 : ws ++ (t.key ++ 61 :: 34 :: (e ++ [34]) ++ (ws2 ++ r)) = ws ++ (t.key ++ 61 :: 34 :: (e ++ 34 :: (ws2 ++ r))) := by simp
    rw [e1]
    exact ⟨_, .quoted hw kn kt he hE1, Out0.param hO1 _⟩
theorem gap_eats : ∀ gp ∈ gapT, ∀ (more : List Nat) (rs : List (List Par)), (∀ ws, Spaces ws → ∃ evs, Eats (ws ++ more) evs ∧ Out0 evs rs) → Behind (gp ++ more) rs := by
  intro gp hg more rs k
  have s0 : Spaces [] := fun _ h => nomatch h
  have s1 : Spaces [32] := by unfold Spaces; decide +kernel
  have s2 : Spaces [9] := by unfold Spaces; decide +kernel
  have s3 : Spaces [32, 32] := by unfold Spaces; decide +kernel
  have one : ∀ a b, Spaces a → Spaces b → Behind (a ++ 44 :: (b ++ more)) rs := fun a b ha hb => by
    obtain ⟨evs, hE, hO⟩ := k b hb
    exact ⟨a, 44 :: (b ++ more), _, _, rfl, ha, .inr ⟨_, rfl⟩, .comma ha hE, .comma (ws := []) s0 hE, OutE.comma hO, OutE.comma hO⟩
  have two : ∀ b c, Spaces b → Spaces c → Behind (44 :: (b ++ 44 :: (c ++ more))) rs := fun b c hb hc => by
    obtain ⟨evs, hE, hO⟩ := k c hc
    have h1 : Eats (b ++ 44 :: (c ++ more)) _ := .comma hb hE
    exact ⟨[], 44 :: (b ++ 44 :: (c ++ more)), _, _, rfl, s0, .inr ⟨_, rfl⟩, .comma (ws := []) s0 h1, .comma (ws := []) s0 h1, OutE.comma (OutE.comma hO).zero, OutE.comma (OutE.comma hO).zero⟩
  simp only [gapT, List.mem_cons, List.not_mem_nil, or_false] at hg
  rcases hg with rfl | rfl | rfl | rfl | rfl | rfl | rfl | rfl
  · exact one [] [32] s0 s1
  · exact one [] [] s0 s0
  · exact one [32] [9] s1 s2
  · exact two [] [] s0 s0
  · exact two [32] [32] s1 s1
  · exact one [9] [] s2 s0
  · exact one [] [32, 32] s0 s3
  · exact one [32] [32] s1 s1
theorem tail_behind : ∀ tl ∈ tailT, Behind tl [] := by
  intro tl ht
  have s0 : Spaces [] := fun _ h => nomatch h
  have s2 : Spaces [9] := by unfold Spaces; decide +kernel
  simp only [tailT, List.mem_cons, List.not_mem_nil, or_false] at ht
  rcases ht with rfl | rfl | rfl | rfl
  · exact ⟨[], [], _, _, rfl, s0, .inl rfl, .nil, .nil, .nil, .nil⟩
  · exact ⟨[], [44, 32], _, _, rfl, s0, .inr ⟨_, rfl⟩, .comma (ws := []) s0 (.junk (.inl rfl)), .comma (ws := []) s0 (.junk (.inl rfl)), OutE.comma OutE.junk.zero, OutE.comma OutE.junk.zero⟩
  · exact ⟨[], [44], _, _, rfl, s0, .inr ⟨_, rfl⟩, .comma (ws := []) s0 .nil, .comma (ws := []) s0 .nil, OutE.comma OutE.nil.zero, OutE.comma OutE.nil.zero⟩
  · exact ⟨[9], [], _, _, rfl, s2, .inl rfl, .junk (.inr rfl), .nil, OutE.junk, OutE.nil⟩
theorem text_behind {tl : List Nat} (htl : tl ∈ tailT) : ∀ (l : List It), (∀ t ∈ l, Good t) → Behind (textOf l ++ tl) ((pairsOf l).map fun p => [p])
  | [], _ => tail_behind tl htl
  | t :: l, h => by
    have ih := text_behind htl l fun t ht => h t (.tail _ ht)
    have e : textOf (t :: l) ++ tl = t.gap ++ (t.word ++ (textOf l ++ tl)) := by
      unfold textOf
      rw [List.flatMap_cons]; simp
    rw [e]
    exact gap_eats _ (h t (.head _)).gap _ _ fun ws hws => word_eats (h t (.head _)) hws ih
theorem text_eats {tl : List Nat} (htl : tl ∈ tailT) (l : List It) (h : ∀ t ∈ l, Good t) : ∃ evs, Eats (textOf l ++ tl) evs ∧ eatR evs = (pairsOf l).map fun p => [p] := by
  obtain ⟨ws, r, evs1, evs2, e, _, _, hE, _, hO, _⟩ := text_behind htl l h
  refine ⟨evs1, by rw [e]; exact hE, ?_⟩
  have := hO [] []
  show eatEnd (evs1.foldl eatS ([], [])) = _
  simpa using this

/-- parse_http_list of the text -/
theorem text_phl {tl : List Nat} (htl : tl ∈ tailT) (l : List It) (h : ∀ t ∈ l, Good t) (hl : l ≠ []) : phlR (S (textOf l ++ tl)) = (row2 l tl).map S := by
  obtain ⟨res, p, rw1, x, q1, q2, q3, q4, q5⟩ := ph_items l [] [] [] [] h rfl ⟨[], rfl, (fun _ h => nomatch h), .inl rfl⟩
  have q4' : rowOf l = rw1 ++ [x] := q4
  have hp := q5 hl
  have s1 : Spaces [32] := by unfold Spaces; decide +kernel
  have s2 : Spaces [9] := by unfold Spaces; decide +kernel
  simp only [tailT, List.mem_cons, List.not_mem_nil, or_false] at htl
  rcases htl with rfl | rfl | rfl | rfl
  · rw [phl_by (res := res) (p := p) (by rw [List.append_nil]; exact q1), if_neg hp]
    unfold row2
    rw [if_neg (by decide), q4']
    simp [q2, q3.strip]
  · rw [phl_by (res := res ++ [p]) (p := [32]) (by rw [List.foldl_append, q1]; simp [phS]), if_neg (by decide)]
    unfold row2
    rw [if_neg (by decide), q4']
    simp [q2, q3.strip, strip_ws s1]
  · rw [phl_by (res := res ++ [p]) (p := []) (by rw [List.foldl_append, q1]; simp [phS]), if_pos rfl]
    unfold row2
    rw [if_pos rfl, q4']
    simp [q2, q3.strip]
  · rw [phl_by (res := res) (p := p ++ [9]) (by rw [List.foldl_append, q1]; simp [phS]), if_neg (by simp)]
    unfold row2
    rw [if_neg (by decide), q4']
    simp [q2, q3.strip2 s2]
end Mine

end

section
open PySem PySem.W PyProof.Rows PySem.Calls
set_option maxRecDepth 100000
set_option maxHeartbeats 4000000
set_option linter.unusedVariables false
set_option linter.unusedSimpArgs false
namespace Mine
/-- a pair of the law's -/
structure PGood (p : Par) : Prop where
  key : p.1 ∈ keyT
  val : ∀ v, p.2 = some v → ∀ c ∈ v, c ∈ sgnL
theorem bare_sgn : ∀ c ∈ bareL, c ∈ sgnL := by decide
theorem Good.pair {t : It} (h : Good t) : PGood (t.key, t.val) := by
  obtain ⟨hg, hk, hd⟩ := h
  refine ⟨hk, ?_⟩
  dsimp only
  generalize t.part = part at *
  generalize t.word = word at *
  generalize t.val = val at *
  cases hd with
  | lone => intro v e; cases e
  | eq => intro v e; cases e; exact fun _ h => nomatch h
  | bare hv hm => intro v e; cases e; exact fun c hc => bare_sgn c (hm c hc)
  | quo hv hm he => intro v e; cases e; exact hm
theorem wr_cln : ∀ c ∈ sgnL, isWritten c = decide (c ∈ clnL) := by decide +kernel
theorem cln_flat : ∀ c ∈ clnL, c ≠ 44 ∧ c ≠ 34 := by decide
theorem cln_nosp : ∀ c ∈ clnL, sp c = false := by decide +kernel
theorem esc_J : ∀ v : List Nat, Esc (escJ v) v
  | [] => .nil
  | c :: v => by
    have ih := esc_J v
    unfold escJ at ih ⊢
    rw [List.flatMap_cons]
    cases hc : isPlain c
    · simp only [Bool.false_eq_true, if_false]
      refine .esc ?_ ih
      rintro rfl
      exact absurd hc (by decide)
    · simp only [if_true]
      exact .plain hc ih
theorem only_iff {v sg : List Nat} : onlyB v sg = true ↔ ∀ c ∈ v, c ∈ sg := by
  unfold onlyB
  rw [List.all_eq_true]
  simp
theorem wr_only {v : List Nat} (h : ∀ c ∈ v, c ∈ sgnL) : (∀ c ∈ v, isWritten c = true) ↔ onlyB v clnL = true := by
  rw [only_iff]
  constructor
  · intro k c hc
    have := k c hc
    rw [wr_cln c (h c hc)] at this
    exact of_decide_eq_true this
  · intro k c hc
    rw [wr_cln c (h c hc)]
    exact decide_eq_true (k c hc)
theorem PGood.word {p : Par} (h : PGood p) {res : List (List Nat)} {q : List Nat} : (wordJ p).foldl phS (res, q, false, false) = (res, q ++ cleanP p, false, false) := by
  obtain ⟨k, val⟩ := p
  have kf := key_flat _ h.key
  have f61 : Flat0 [61] := by unfold Flat0; decide
  unfold wordJ cleanP
  cases val with
  | none => exact ph_flat kf
  | some v =>
    have hs := h.val v rfl
    dsimp only at kf ⊢
    by_cases hw : v ≠ [] ∧ ∀ c ∈ v, isWritten c = true
    · have ho : v ≠ [] ∧ onlyB v clnL = true := ⟨hw.1, (wr_only hs).mp hw.2⟩
      rw [if_pos hw, if_pos ho]
      exact ph_flat (flat_append kf (flat_append (a := [61]) f61 fun c hc => cln_flat c (only_iff.mp ho.2 c hc)))
    · have ho : ¬ (v ≠ [] ∧ onlyB v clnL = true) := fun h => hw ⟨h.1, (wr_only hs).mpr h.2⟩
      rw [if_neg hw, if_neg ho]
      have e1 : k ++ 61 :: 34 :: (escJ v ++ [34]) = (k ++ [61]) ++ (34 :: (escJ v ++ [34])) := by simp
      rw [e1, List.foldl_append, ph_flat (flat_append kf f61), ph_quo (esc_J v)]
      simp
theorem PGood.solid {p : Par} (h : PGood p) : Solid (cleanP p) := by
  obtain ⟨k, val⟩ := p
  have hk := h.key
  unfold cleanP
  cases val with
  | none => exact ⟨key_solid_hd _ hk, key_solid_la _ hk⟩
  | some v =>
    dsimp only at hk ⊢
    split
    · rename_i ho
      refine solid_key hk ⟨61 :: v.dropLast, v.getLast ho.1, ?_, cln_nosp _ (only_iff.mp ho.2 _ (List.getLast_mem ho.1))⟩
      rw [List.cons_append, List.dropLast_concat_getLast ho.1]
    · exact solid_key hk ⟨61 :: 34 :: v, 34, by simp, by decide +kernel⟩
theorem ph_join : ∀ (ps : List Par) (rw0 res : List (List Nat)) (ws : List Nat), (∀ p ∈ ps, PGood p) → ps ≠ [] → (res.map S).map Txt.strip = rw0.map S → Spaces ws →
    ∃ res' p', (joinL [44, 32] (ps.map wordJ)).foldl phS (res, ws, false, false) = (res', p', false, false) ∧ ((res' ++ [p']).map S).map Txt.strip = (rw0 ++ ps.map cleanP).map S ∧ p' ≠ []
  | [], _, _, _, _, h, _, _ => absurd rfl h
  | [p], rw0, res, ws, hg, _, h1, hw => by
    have hp := hg p (.head _)
    refine ⟨res, ws ++ cleanP p, hp.word, ?_, ?_⟩
    · have hL : Lies (ws ++ cleanP p) (cleanP p) := ⟨ws, rfl, hw, .inr hp.solid⟩
      simp only [List.map_append, List.map_cons, List.map_nil, h1, hL.strip]
    · obtain ⟨c, r, e, _⟩ := hp.solid.hd
      rw [e]; simp
  | p :: p2 :: ps, rw0, res, ws, hg, _, h1, hw => by
    have hp := hg p (.head _)
    have hL : Lies (ws ++ cleanP p) (cleanP p) := ⟨ws, rfl, hw, .inr hp.solid⟩
    have s1 : Spaces [32] := by unfold Spaces; decide +kernel
    obtain ⟨res', p', q1, q2, q3⟩ := ph_join (p2 :: ps) (rw0 ++ [cleanP p]) (res ++ [ws ++ cleanP p]) [32] (fun q hq => hg q (.tail _ hq)) (by simp) (by simp only [List.map_append, List.map_cons, List.map_nil, h1, hL.strip]) s1
    refine ⟨res', p', ?_, ?_, q3⟩
    · show (wordJ p ++ ([44, 32] ++ joinL [44, 32] ((p2 :: ps).map wordJ))).foldl phS _ = _
      rw [List.foldl_append, hp.word, List.foldl_append]
      have e : [44, 32].foldl phS (res, ws ++ cleanP p, false, false) = (res ++ [ws ++ cleanP p], [32], false, false) := by simp [phS]
      rw [e]
      exact q1
    · rw [q2]; simp
theorem join_phl {ps : List Par} (hg : ∀ p ∈ ps, PGood p) (hne : ps ≠ []) : phlR (S (joinL [44, 32] (ps.map wordJ))) = (ps.map cleanP).map S := by
  obtain ⟨res, p, q1, q2, q3⟩ := ph_join ps [] [] [] hg hne rfl (fun _ h => nomatch h)
  rw [phl_by q1, if_neg q3, q2]
  rfl

/-- the rows' elements, for parse_keqv_list -/
noncomputable def raw1 (t : It) : Par := (t.key, t.val.map fun _ => t.part.drop (t.key.length + 1))
noncomputable def raw2 (p : Par) : Par := (p.1, p.2.map fun v => if v ≠ [] ∧ onlyB v clnL = true then v else 34 :: (v ++ [34]))
theorem unq_bare {v : List Nat} (h : v.getD 0 0 ≠ 34) : unq v = v := by
  unfold unq
  rw [if_neg fun k => h k.1]
theorem unq_quo (v : List Nat) : unq (34 :: (v ++ [34])) = v := by
  unfold unq
  rw [if_pos]
  · simp
  · constructor
    · rfl
    · have : (34 :: (v ++ [34])).length - 1 = v.length + 1 := by simp
      rw [this]
      simp [List.getD_eq_getElem?_getD]
theorem drop_key (k x : List Nat) : (k ++ 61 :: x).drop (k.length + 1) = x := by
  rw [← List.drop_drop, List.drop_left]; rfl
theorem hd_ne {v sg : List Nat} (hv : v ≠ []) (hm : ∀ c ∈ v, c ∈ sg) (h34 : ∀ c ∈ sg, c ≠ 34) : v.getD 0 0 ≠ 34 := by
  cases v with
  | nil => exact absurd rfl hv
  | cons c v => exact h34 c (hm c (.head _))
theorem Good.raw {t : It} (h : Good t) : eltOf (raw1 t) = t.part := by
  obtain ⟨hg, hk, hd⟩ := h
  unfold raw1 eltOf
  generalize t.part = part at *
  generalize t.word = word at *
  generalize t.val = val at *
  cases hd with
  | lone => rfl
  | eq =>
    show t.key ++ 61 :: (t.key ++ 61 :: []).drop (t.key.length + 1) = _
    rw [drop_key]
  | bare hv hm =>
    show t.key ++ 61 :: (t.key ++ 61 :: _).drop (t.key.length + 1) = _
    rw [drop_key]
  | quo hv hm he =>
    show t.key ++ 61 :: (t.key ++ 61 :: _).drop (t.key.length + 1) = _
    rw [drop_key]
theorem read_due1 : ∀ (l : List It) (es : List Pr), (∀ t ∈ l, Good t) → readF es (l.map raw1) = dueF true es (pairsOf l)
  | [], _, _ => rfl
  | t :: l, es, h => by
    obtain ⟨hg, hk, hd⟩ := h t (.head _)
    have ih := fun es => read_due1 l es fun t ht => h t (.tail _ ht)
    show readF es (raw1 t :: l.map raw1) = dueF true es ((t.key, t.val) :: pairsOf l)
    unfold raw1
    generalize t.part = part at *
    generalize t.word = word at *
    generalize t.val = val at *
    cases hd with
    | lone => rfl
    | eq =>
      show readF es ((t.key, some ((t.key ++ 61 :: []).drop (t.key.length + 1))) :: l.map raw1) = _
      rw [drop_key, readF, dueF, if_pos rfl, if_pos ⟨rfl, rfl⟩]
    | @bare v hv hm =>
      show readF es ((t.key, some ((t.key ++ 61 :: v).drop (t.key.length + 1))) :: l.map raw1) = _
      rw [drop_key, readF, dueF, if_neg hv, if_neg fun k => hv k.1, unq_bare (hd_ne hv hm bare_no34), ih]
    | @quo v e hv hm he =>
      show readF es ((t.key, some ((t.key ++ 61 :: (34 :: (v ++ [34]))).drop (t.key.length + 1))) :: l.map raw1) = _
      rw [drop_key, readF, dueF, if_neg (by simp), if_neg fun k => hv k.1, unq_quo, ih]
theorem cln_no34 : ∀ c ∈ clnL, c ≠ 34 := by decide
theorem raw2_elt (p : Par) : eltOf (raw2 p) = cleanP p := by
  obtain ⟨k, val⟩ := p
  unfold raw2 eltOf cleanP
  cases val with
  | none => rfl
  | some v =>
    dsimp only [Option.map]
    split
    · rfl
    · rfl
theorem read_due2 : ∀ (ps : List Par) (es : List Pr), readF es (ps.map raw2) = dueF false es ps
  | [], _ => rfl
  | (k, none) :: ps, es => rfl
  | (k, some v) :: ps, es => by
    show readF es ((k, some (if v ≠ [] ∧ onlyB v clnL = true then v else 34 :: (v ++ [34]))) :: ps.map raw2) = _
    rw [readF, dueF, if_neg (by simp : ¬ (v = [] ∧ false = true))]
    by_cases ho : v ≠ [] ∧ onlyB v clnL = true
    · rw [if_pos ho, if_neg ho.1, unq_bare (hd_ne ho.1 (only_iff.mp ho.2) cln_no34), read_due2 ps]
    · rw [if_neg ho, if_neg (by simp), unq_quo, read_due2 ps]
theorem key_no61 : ∀ k ∈ keyT, 61 ∉ k ∧ k.length ≤ 5 := by decide
theorem key_ok : ∀ k ∈ keyT, okC k := by unfold okC; decide
theorem sgn_ok : ∀ c ∈ sgnL, c < 1114112 := by decide
theorem PGood.ok {p : Par} (h : PGood p) : ParOk p := ⟨key_ok _ h.key, fun v e c hc => sgn_ok c (h.val v e c hc)⟩
theorem put_ok {es : List Pr} {k v : List Nat} (h : ∀ e ∈ es, okC e.1 ∧ okC e.2) (hk : okC k) (hv : okC v) : ∀ e ∈ put es k v, okC e.1 ∧ okC e.2 := by
  intro e he
  unfold put at he
  split at he
  · obtain ⟨e', he', rfl⟩ := List.mem_map.mp he
    split
    · exact ⟨(h e' he').1, hv⟩
    · exact h e' he'
  · rcases List.mem_append.mp he with he | he
    · exact h e he
    · rw [List.mem_singleton.mp he]; exact ⟨hk, hv⟩
theorem due_ok (b : Bool) : ∀ (ps : List Par) (es : List Pr), (∀ p ∈ ps, ParOk p) → (∀ e ∈ es, okC e.1 ∧ okC e.2) → OutOk (dueF b es ps)
  | [], es, _, h => h
  | (k, none) :: ps, es, _, _ => trivial
  | (k, some v) :: ps, es, hp, h => by
    rw [dueF]
    split
    · trivial
    · exact due_ok b ps _ (fun p hq => hp p (.tail _ hq)) (put_ok h (hp _ (.head _)).1 ((hp _ (.head _)).2 v rfl))
theorem row_filter : ∀ (l : List It) (r : List (List Nat)), (∀ t ∈ l, Good t) → (l.foldl rowS r).filter (fun x => decide (x ≠ [])) = r.filter (fun x => decide (x ≠ [])) ++ l.map (·.part)
  | [], r, _ => by simp
  | t :: l, r, h => by
    have ht := h t (.head _)
    rw [List.foldl_cons, row_filter l _ fun t ht => h t (.tail _ ht)]
    obtain ⟨a, mids, ws, _, _, _, _, hc⟩ := gap_ph t.gap ht.gap [] []
    have hp : t.part ≠ [] := by
      obtain ⟨c, r, e, _⟩ := ht.solid.hd
      rw [e]; simp
    have e : rowS r t = r ++ List.replicate mids.length [] ++ [t.part] := by
      unfold rowS
      rw [← hc, List.replicate_succ', ← List.append_assoc, List.dropLast_concat]
    rw [e, List.filter_append, List.filter_append, List.map_cons]
    have e2 : (List.replicate mids.length ([] : List Nat)).filter (fun x => decide (x ≠ [])) = [] := by
      rw [List.filter_eq_nil_iff]
      intro x hx
      rw [List.eq_of_mem_replicate hx]; simp
    have e3 : [t.part].filter (fun x => decide (x ≠ [])) = [t.part] := by simp [hp]
    rw [e2, e3]
    simp
theorem row2_filter {l : List It} (h : ∀ t ∈ l, Good t) (tl : List Nat) : (row2 l tl).filter (fun x => decide (x ≠ [])) = l.map (·.part) := by
  have h1 : (rowOf l).filter (fun x => decide (x ≠ [])) = l.map (·.part) := by
    have := row_filter l [[]] h
    simpa [rowOf] using this
  have e2 : ∀ n, (List.replicate n ([] : List Nat)).filter (fun x => decide (x ≠ [])) = [] := fun n => by
    rw [List.filter_eq_nil_iff]
    intro x hx
    rw [List.eq_of_mem_replicate hx]; simp
  unfold row2
  split
  · rename_i e
    rw [e, show List.count 44 [44] = 0 + 1 from rfl, List.replicate_succ', ← List.append_assoc, List.dropLast_concat, List.filter_append, e2, List.append_nil, h1]
  · rw [List.filter_append, e2, List.append_nil, h1]
theorem row2_len {l : List It} (h : ∀ t ∈ l, ∃ i n, t = itOf i n) (hl : l.length ≤ 9) {tl : List Nat} (ht : tl.count 44 ≤ 1) : (row2 l tl).length ≤ 100 := by
  have h1 := row_len l [[]] h
  simp only [List.length_cons, List.length_nil] at h1
  have h2 : (rowOf l).length ≤ 28 := by unfold rowOf; (first | lia | omega)
  unfold row2
  split
  · simp only [List.length_dropLast, List.length_append, List.length_replicate]; (first | lia | omega)
  · simp only [List.length_append, List.length_replicate]; (first | lia | omega)
theorem Good.part_ok {t : It} (h : Good t) : okC t.part := by
  have hp := h.pair.ok
  rw [← h.raw]
  obtain ⟨hg, hk, hd⟩ := h
  have k1 : okC t.key := hp.1
  have k2 := hp.2
  unfold raw1
  dsimp only at k2
  generalize t.part = part at *
  generalize t.word = word at *
  generalize t.val = val at *
  cases hd with
  | lone => exact k1
  | eq =>
    show okC (t.key ++ 61 :: (t.key ++ 61 :: []).drop (t.key.length + 1))
    rw [drop_key]
    exact ok_append k1 (ok_cons (by decide) fun _ h => nomatch h)
  | @bare v hv hm =>
    show okC (t.key ++ 61 :: (t.key ++ 61 :: v).drop (t.key.length + 1))
    rw [drop_key]
    exact ok_append k1 (ok_cons (by decide) (k2 v rfl))
  | @quo v e hv hm he =>
    show okC (t.key ++ 61 :: (t.key ++ 61 :: (34 :: (v ++ [34]))).drop (t.key.length + 1))
    rw [drop_key]
    exact ok_append k1 (ok_cons (by decide) (ok_cons (by decide) (ok_append (k2 v rfl) (ok_cons (by decide) fun _ h => nomatch h))))
theorem row2_ok {l : List It} (h : ∀ t ∈ l, Good t) (tl : List Nat) : ∀ r ∈ row2 l tl, okC r := by
  intro r hr
  by_cases h0 : r = []
  · rw [h0]; exact fun _ h => nomatch h
  · have : r ∈ (row2 l tl).filter (fun x => decide (x ≠ [])) := List.mem_filter.mpr ⟨hr, decide_eq_true h0⟩
    rw [row2_filter h tl] at this
    obtain ⟨t, ht, rfl⟩ := List.mem_map.mp this
    exact (h t ht).part_ok
theorem raw1_ok {t : It} (h : Good t) (hb : ∀ v, t.val = some v → v.length ≤ 5) : 61 ∉ (raw1 t).1 ∧ (raw1 t).1.length ≤ 100 ∧ ∀ v, (raw1 t).2 = some v → v.length ≤ 100 ∧ v ≠ [34] := by
  obtain ⟨hg, hk, hd⟩ := h
  have k := key_no61 _ hk
  refine ⟨k.1, Nat.le_trans k.2 (by decide), ?_⟩
  unfold raw1
  generalize t.part = part at *
  generalize t.word = word at *
  generalize t.val = val at *
  cases hd with
  | lone => intro v e; cases e
  | eq =>
    intro v e
    have e' : (t.key ++ 61 :: []).drop (t.key.length + 1) = v := Option.some.inj e
    rw [drop_key] at e'
    subst e'
    simp
  | @bare v0 hv hm =>
    intro v e
    have e' : (t.key ++ 61 :: v0).drop (t.key.length + 1) = v := Option.some.inj e
    rw [drop_key] at e'
    subst e'
    refine ⟨Nat.le_trans (hb _ rfl) (by decide), ?_⟩
    rintro rfl
    exact bare_no34 34 (hm 34 (.head _)) rfl
  | @quo v0 e0 hv hm he =>
    intro v e
    have e' : (t.key ++ 61 :: (34 :: (v0 ++ [34]))).drop (t.key.length + 1) = v := Option.some.inj e
    rw [drop_key] at e'
    subst e'
    have := hb _ rfl
    refine ⟨?_, by simp⟩
    simp only [List.length_cons, List.length_append, List.length_nil]; (first | lia | omega)
theorem raw2_ok {p : Par} (h : PGood p) (hb : ∀ v, p.2 = some v → v.length ≤ 5) : 61 ∉ (raw2 p).1 ∧ (raw2 p).1.length ≤ 100 ∧ ∀ v, (raw2 p).2 = some v → v.length ≤ 100 ∧ v ≠ [34] := by
  have k := key_no61 _ h.key
  refine ⟨k.1, Nat.le_trans k.2 (by decide), ?_⟩
  obtain ⟨key, val⟩ := p
  unfold raw2
  cases val with
  | none => intro v e; cases e
  | some v0 =>
    intro v e
    have hb0 := hb v0 rfl
    have e' : (if v0 ≠ [] ∧ onlyB v0 clnL = true then v0 else 34 :: (v0 ++ [34])) = v := Option.some.inj e
    subst e'
    split
    · rename_i ho
      refine ⟨Nat.le_trans hb0 (by decide), ?_⟩
      rintro rfl
      exact cln_no34 34 (only_iff.mp ho.2 34 (.head _)) rfl
    · refine ⟨?_, by simp⟩
      simp only [List.length_cons, List.length_append, List.length_nil]; (first | lia | omega)
theorem clean_61 {p : Par} (h : PGood p) : decide (61 ∈ cleanP p) = p.2.isSome := by
  have k := (key_no61 _ h.key).1
  obtain ⟨key, val⟩ := p
  unfold cleanP
  cases val with
  | none => exact decide_eq_false k
  | some v =>
    dsimp only
    split <;> exact decide_eq_true (List.mem_append_right _ (.head _))
theorem filter_clean {ps : List Par} (h : ∀ p ∈ ps, PGood p) : (ps.map cleanP).filter (fun r => decide (61 ∈ r)) = ((ps.filter fun p => p.2.isSome).map raw2).map eltOf := by
  induction ps with
  | nil => rfl
  | cons p ps ih =>
    have ih' := ih fun q hq => h q (.tail _ hq)
    rw [List.map_cons, List.filter_cons, List.filter_cons, clean_61 (h p (.head _))]
    cases hp : p.2.isSome
    · simpa using ih'
    · simp only [if_true, List.map_cons, raw2_elt]
      rw [ih']
theorem join_len : ∀ (ps : List Par), (∀ p ∈ ps, (wordJ p).length ≤ 400) → (joinL [44, 32] (ps.map wordJ)).length ≤ 402 * ps.length
  | [], _ => Nat.le_refl _
  | [p], h => by
    have := h p (.head _)
    show (wordJ p).length ≤ _
    simp only [List.length_cons, List.length_nil]; (first | lia | omega)
  | p :: p2 :: ps, h => by
    have h1 := h p (.head _)
    have ih := join_len (p2 :: ps) fun q hq => h q (.tail _ hq)
    show (wordJ p ++ ([44, 32] ++ joinL [44, 32] ((p2 :: ps).map wordJ))).length ≤ _
    simp only [List.length_append, List.length_cons, List.length_nil] at ih ⊢
    (first | lia | omega)
theorem plain (ns : List Int) (k : Nat) (hn : ns.length ≤ 8) (hk : k < 4) : LawP (textOf (its (165520 :: ns)) ++ tailT.getD k []) (row2 (its (165520 :: ns)) (tailT.getD k [])) (pairsOf (its (165520 :: ns))) := by
  have htl : tailT.getD k [] ∈ tailT := getD_mem hk
  have htc := (tail_len k hk).2
  generalize tailT.getD k [] = tl at *
  have hmem : ∀ t ∈ its (165520 :: ns), ∃ i n, t = itOf i n := fun t ht => itsF_mem _ 0 t ht
  have hlen : (its (165520 :: ns)).length ≤ 9 := by rw [its_len, List.length_cons]; (first | lia | omega)
  have hne : its (165520 :: ns) ≠ [] := by
    intro e
    have := congrArg List.length e
    rw [its_len] at this
    simp at this
  generalize its (165520 :: ns) = l at *
  have hg : ∀ t ∈ l, Good t := fun t ht => by
    obtain ⟨i, n, rfl⟩ := hmem t ht
    exact it_good i n
  have hb : ∀ t ∈ l, ∀ v, t.val = some v → v.length ≤ 5 := fun t ht => by
    obtain ⟨i, n, rfl⟩ := hmem t ht
    exact (it_bounds i n).2.2.2.2.2
  have hpg : ∀ p ∈ pairsOf l, PGood p := fun p hp => by
    obtain ⟨t, ht, rfl⟩ := List.mem_map.mp hp
    exact (hg t ht).pair
  have hpb : ∀ p ∈ pairsOf l, ∀ v, p.2 = some v → v.length ≤ 5 := fun p hp => by
    obtain ⟨t, ht, rfl⟩ := List.mem_map.mp hp
    exact hb t ht
  have hpl : (pairsOf l).length = l.length := List.length_map ..
  have hpne : pairsOf l ≠ [] := by
    intro e
    rw [e] at hpl
    exact hne (List.length_eq_zero_iff.mp hpl.symm)
  have hpok : ∀ p ∈ pairsOf l, ParOk p := fun p hp => (hpg p hp).ok
  have hpp : ∀ p ∈ pairsOf l, p.1.length ≤ 100 ∧ ∀ v, p.2 = some v → v.length ≤ 100 := fun p hp => ⟨Nat.le_trans (key_no61 _ (hpg p hp).key).2 (by decide), fun v e => Nat.le_trans (hpb p hp v e) (by decide)⟩
  obtain ⟨evs, hE, hev⟩ := text_eats htl l hg
  have e0 : ∀ e ∈ ([] : List Pr), okC e.1 ∧ okC e.2 := fun _ h => nomatch h
  have r1 : readR (l.map raw1) = dueR true (pairsOf l) := read_due1 l [] hg
  have r2 : readR ((pairsOf l).map raw2) = dueR false (pairsOf l) := read_due2 _ []
  have r3 : readR (((pairsOf l).filter fun p => p.2.isSome).map raw2) = dueR false ((pairsOf l).filter fun p => p.2.isSome) := read_due2 _ []
  refine ⟨evs, l.map raw1, (pairsOf l).map raw2, ((pairsOf l).filter fun p => p.2.isSome).map raw2, row2_len hmem hlen htc, row2_ok hg tl, by (first | lia | omega), hpp, hpok, text_phl htl l hg hne, hE, hev, ?_, by rw [List.length_map]; (first | lia | omega), ?_, r1, ?_, ?_, join_phl hpg hpne, ?_, ?_, r2, ?_, filter_clean hpg, ?_, r3, ?_⟩
  · rw [row2_filter hg tl, List.map_map]
    exact List.map_congr_left fun t ht => (hg t ht).raw.symm
  · intro r hr
    obtain ⟨t, ht, rfl⟩ := List.mem_map.mp hr
    exact raw1_ok (hg t ht) (hb t ht)
  · rw [r1]; exact due_ok true _ [] hpok e0
  · have := join_len (pairsOf l) fun p hp => wordJ_len (hpp p hp)
    (first | lia | omega)
  · rw [List.map_map]
    exact List.map_congr_left fun p _ => (raw2_elt p).symm
  · intro r hr
    obtain ⟨p, hp, rfl⟩ := List.mem_map.mp hr
    exact raw2_ok (hpg p hp) (hpb p hp)
  · rw [r2]; exact due_ok false _ [] hpok e0
  · intro r hr
    obtain ⟨p, hp, rfl⟩ := List.mem_map.mp hr
    have hp' := (List.mem_filter.mp hp).1
    exact raw2_ok (hpg p hp') (hpb p hp')
  · rw [r3]; exact due_ok false _ [] (fun p hp => hpok p (List.mem_filter.mp hp).1) e0
end Mine

end

section
open PySem PySem.W PyProof.Rows PySem.Calls
set_option maxRecDepth 100000
set_option maxHeartbeats 40000000
set_option linter.unusedVariables false
namespace Mine
theorem law_run {prog : Program} {w : World} {g : Heap} {L fa : Addr} {cd : Value} {p : Program} {loose : List PySem.Str} {mean : ExcName → Option Value} {mg mb : PySem.Str → Option Value} {Qx Qf : Flow → Shared → Prop} {E : Value → Shared → Prop} {s : Shared}
    {sc : List Int} {ws ss : List Value} {Lr Lp D l0 r : Addr} {m : PySem.Str → Option Value} {nw : List (Addr × Obj)} {b : Int} {t u v t0 tt : Tok} {oc : Obj} {vo : Option Value} {nr np : Nat}
    (B : Below callerA g [] g) (X : (hd.heap_39 w.params).In g) (T : Top p loose mean mg mb g) (hI : IntsAre ss sc) (hsl : g.IsList l0 ss.toArray) (h63 : ¬ (63 : Int) < (sc.length : Int)) (hIn : IntsAre ws ([165520] ++ sc.take 8))
    (hR : IsRange s.heap r 0 b 1 t u v) (hb : b = ((1 + (sc.take 8).length : Nat) : Int)) (F : Fr g L s.heap m) (N : News g L s.heap nw)
    (n1 : (Lr, listOf (List.toArray [Value.str (PySem.Str.ofString "") t0]) nr) ∈ nw) (n2 : (Lp, listOf (List.toArray []) np) ∈ nw) (n3 : (L + 1, oc) ∈ nw) (n4 : (94, tabObj #[]) ∈ nw) (n5 : (77, tabObj #[]) ∈ nw) (n6 : (D, listOf ws.toArray 0) ∈ nw) (hcell : oc.data = .cell vo)
    (ord : @LT.lt Nat _ 94 L ∧ @LT.lt Nat _ (L + 1) Lp ∧ @LT.lt Nat _ Lp Lr ∧ @LT.lt Nat _ Lr D)
    (mt : m (PySem.Str.ofString "text") = some (.str (PySem.Str.ofString "") tt)) (mr : m (PySem.Str.ofString "row") = some (.ref Lr)) (mp : m (PySem.Str.ofString "pairs") = some (.ref Lp)) (mn : m (PySem.Str.ofString "numbers") = some (.ref D)) (ms : m (PySem.Str.ofString "script") = some (.ref l0))
    (hnext : ∀ s', wpAny (model prog w) (callerA.deeper (lawE L fa cd)) (execs rest1 (lawE L fa cd)) Qf (fun _ _ => False) s' → Qx .next s')
    (hQ : ∀ m' nw tabA tabB h' tk', Fr g L h' m' → News g L h' nw → (94, tabObj tabA) ∈ nw → (77, tabObj tabB) ∈ nw → Qf (.ret (.bool true)) { s with heap := h', toks := tk' }) :
    wpAny (model prog w) (callerA.deeper (lawE L fa cd)) (pyIter (.ref r)) (fun it s₂ => LoopAtV prog w (callerA.deeper (lawE L fa cd)) g (lawE L fa cd) (PySem.Str.ofString "step") turn1 Qx E it s₂) E s := by
  have hl8 : (sc.take 8).length ≤ 8 := by rw [List.length_take]; (first | lia | omega)
  have hmem : ∀ t ∈ its ([165520] ++ sc.take 8), ∃ i n, t = itOf i n := fun t ht => itsF_mem _ 0 t ht
  have hlen : (its ([165520] ++ sc.take 8)).length ≤ 9 := by rw [its_len, List.length_append, List.length_cons, List.length_nil]; (first | lia | omega)
  refine iter_range (n := ([165520] ++ sc.take 8).length) (LawJ ([165520] ++ sc.take 8) ws Lr Lp L D l0) rfl hR (by rw [hb, List.length_append, List.length_cons, List.length_nil]) (by rw [List.length_append, List.length_cons, List.length_nil]; (first | lia | omega)) F
    (news_sub (news' := (Lr, listOf (List.toArray [Value.str (PySem.Str.ofString "") t0]) nr) :: (Lp, listOf (List.toArray []) np) :: (L + 1, oc) :: (94, tabObj #[]) :: (77, tabObj #[]) :: (D, listOf ws.toArray 0) :: []) N ?_)
    ⟨_, _, _, _, oc, vo, [], tt, rfl, hcell, ?_, .nil, (fun _ h => nomatch h), (fun _ h => nomatch h), (fun _ h => nomatch h), (fun _ h => nomatch h), (fun _ h => nomatch h), (fun _ h => nomatch h), ord, ?_, mr, mp, mn, ms⟩ ?turn ?done
  · intro p hp
    simp only [List.mem_cons, List.not_mem_nil, or_false] at hp
    rcases hp with rfl | rfl | rfl | rfl | rfl | rfl <;> assumption
  · rw [ofStr_nil]
    exact .cons _ _ .nil
  · rw [mt, ofStr_nil]; rfl
  case turn =>
    intro i t m₁ news₁ I oI h tk hi hJ hoff F₁ N₁
    exact law_turn B X T hIn (by rw [List.length_append, List.length_cons, List.length_nil]; (first | lia | omega)) hi hJ hoff F₁ N₁
  case done =>
    intro m₁ news₁ h tk hJ F₁ N₁
    refine hnext _ (law_mid (T0 := its ([165520] ++ sc.take 8)) B X T hI hsl (by (first | lia | omega)) (by rw [List.length_append, List.length_cons, List.length_nil]; (first | lia | omega)) rfl ?_ ?_ (plain (sc.take 8) (sc.length % 4) hl8 (Nat.mod_lt _ (by decide))) hJ F₁ N₁ hQ)
    · have := text_len _ hmem
      (first | lia | omega)
    · have := row_len _ [[]] hmem
      simp only [List.length_cons, List.length_nil] at this
      unfold rowOf
      (first | lia | omega)
theorem t : PySem.Challenge.rw_nb0191_01.Holds := hd (by
  (k_go0; (all_goals try k_fold))
  (repeat' ((fail_if_success ((first | (with_reducible show wpAny _ _ (exec (Stmt.For _ _ _ _ _) _) _ _ _) | (with_reducible show wpAny _ _ (pyIter (Value.ref _)) _ _ _)))); first | (k_unfold; (try dsimp only)) | walk1 | (dsimp only; walk1)))
  rename Fr _ _ _ _ => F1
  rename Below _ _ _ _ => B
  rename Frag.In _ (ghostOf _ _) => X
  rename Top _ _ _ _ _ (ghostOf _ _) => T
  rename IntsAre _ ([165520] ++ _) => hIn
  rename Heap.IsList (ghostOf _ _) _ _ => hsl
  rename ¬ (_ < (List.length _ : Int)) => h63
  rename Obj.data _ = Data.cell _ => hcell
  refine For_invVF F1 rfl rfl ?_
  (repeat' ((fail_if_success ((first | (with_reducible show wpAny _ _ (exec (Stmt.For _ _ _ _ _) _) _ _ _) | (with_reducible show wpAny _ _ (pyIter (Value.ref _)) _ _ _)))); first | (k_unfold; (try dsimp only)) | walk1 | (dsimp only; walk1)))
  rename Fr _ _ _ _ => F2
  rename News _ _ _ _ => N2
  rename IsRange _ _ _ _ _ _ _ _ => hR
  refine law_run B X T (by assumption) hsl h63 hIn hR rfl F2 N2 (.tail _ (.tail _ (.tail _ (.head _)))) (.tail _ (.tail _ (.tail _ (.tail _ (.head _))))) (.tail _ (.tail _ (.tail _ (.tail _ (.tail _ (.head _)))))) (.tail _ (.tail _ (.tail _ (.tail _ (.tail _ (.tail _ (.head _))))))) (.tail _ (.tail _ (.tail _ (.tail _ (.tail _ (.tail _ (.tail _ (.head _)))))))) (.head _) hcell ⟨by (first | lia | omega), by (first | lia | omega), by (first | lia | omega), by (first | lia | omega)⟩ rfl rfl rfl rfl rfl (fun s' h => wpAny_mono h (fun _ _ q => q) (fun _ _ h => h.elim)) ?_
  intro m' nw tabA tabB h' tk' F' N' hA hB
  refine ⟨?_, GrownAt.of N' hA, GrownAt.of N' hB, True.intro⟩
  dsimp only
  clear hA hB
  first | (k_end; kc_close) | walk1)
end Mine

end

theorem PySem.Challenge.cw_nb0191_01_holds : PySem.Challenge.rw_nb0191_01.Holds :=
  Mine.t
