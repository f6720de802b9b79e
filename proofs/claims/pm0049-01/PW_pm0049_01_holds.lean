import PyProof.Rows.All
import Wide.All
import OpenK.AllK
import Wide.FinOn
import Lean
import PySem.Challenge.RW_pm0049_01
open PySem PySem.W PyProof.Rows
set_option Elab.async false
set_option maxRecDepth 100000
set_option maxHeartbeats 8000000
set_option compiler.extract_closed false
namespace Mine
/-- the text's program without the four statements whose names the top binds otherwise -/
def view : Program :=
  { Challenge.rw_pm0049_01.row.toRowW.1 with main := { Challenge.rw_pm0049_01.row.toRowW.1.main with body := [0, 1, 3, 4, 6, 7, 8, 10, 12, 13, 14, 15, 16, 17, 18, 19, 20].filterMap fun i => Challenge.rw_pm0049_01.row.toRowW.1.main.body[i]? } }
section
local macro_rules | `(tactic| o_head $_) => `(tactic| assumption)
/-- says nothing; its proof writes the heap's part out (kk.heap_1) -/
theorem kk (h0 : Challenge.rw_pm0049_01.row.Holds) : Challenge.rw_pm0049_01.row.Holds := by k_head
end
end Mine
namespace Mine
abbrev TopAt (mean : ExcName → Option Value) (mg mb : Str → Option Value) (h₀ : Heap) : Prop := Top view
      (looseW view
        [Str.ofString "COMPILER_FLAG_NAMES", Str.ofString "tspecials", Str.ofString "_name_disallowed_re",
          Str.ofString "_value_disallowed_re", Str.ofString "_formatparam"]) mean mg mb h₀
/-- what a call of the def at f with these arguments gives back, from any caller of the text -/
def Spec (w : World) (f : Addr) (args : List Value) (pre : List (Addr × Obj) → Prop) (post : List (Addr × Obj) → Value → Prop) : Prop :=
  ∀ (mean : ExcName → Option Value) (mg mb : Str → Option Value) (dp un : Nat) (gd : Option (List Code)) (cn : Str) (cs : Scope) (a : Addr) (ccd : Value) (cl : List (Str × Addr)) (outer : List Env) (A₀ : Around) (base h₀ : Heap) (L : Addr) (m : Str → Option Value) (news : List (Addr × Obj)) (s : Shared)
    (Q E : Value → Shared → Prop), Below A₀ base outer h₀ → Fr h₀ L s.heap m → (kk.heap_1 w.params).In h₀ → News h₀ L s.heap news → TopAt mean mg mb h₀ → cs.kind = .function → dp + 20 < recursionLimit → un + 200 < cLine →
    pre news → (∀ r tl h' tk', Fr h₀ L h' m → News h₀ L h' (tl ++ news) → (∀ p ∈ news, ∀ q ∈ tl, p.1 < q.1) → post tl r → Q r { s with heap := h', toks := tk' }) →
    wpAny (model Challenge.rw_pm0049_01.row.prog w) (ktrTop dp un gd cn cs L a ccd cl outer) (call (.ref f) args) Q E s
/-- a goal that the walk leaves alone -/
def Hold (P : Prop) : Prop := P
theorem Hold.of {P : Prop} (h : Hold P) : P := h
theorem Hold.out {P : Prop} (h : P) : Hold P := h
theorem cut_str {M : Model} {A : Around} {E : Value → Shared → Prop} {s : Shared} {c : Sem Value} {Q : Value → Shared → Prop} (y : Str) (h : wpAny M A c (fun v s' => Hold (∃ t tk', v = .str y t ∧ s' = { s with toks := tk' })) E s)
    (k : ∀ t tk', Q (.str y t) { s with toks := tk' }) : wpAny M A c Q E s :=
  wpAny_mono h (fun v s' ⟨t, tk', e1, e2⟩ => by subst e1; subst e2; exact k t tk') fun _ _ x => x
theorem allLt_mem {d : Addr} {l : List (Addr × Obj)} (h : AllLt d l) : ∀ p ∈ l, p.1 < d := by
  induction l with
  | nil => intro p hp; cases hp
  | cons a r ih =>
    intro p hp
    have h' : a.1 < d ∧ AllLt d r := h
    rcases List.mem_cons.mp hp with e | hp
    · rw [e]; exact h'.1
    · exact ih h'.2 p hp
theorem lookup_ite {n : Str} {v : Value} {r : List (Str × Value)} {y : Str} : List.lookup y ((n, v) :: r) = if y = n then some v else List.lookup y r := by
  rw [List.lookup_cons]
  by_cases h : y = n
  · rw [if_pos h]; subst h; simp
  · rw [if_neg h, show (y == n) = false from by simpa using h]
theorem lookup_ite_nil {y : Str} : List.lookup y ([] : List (Str × Value)) = none := rfl
theorem all_ne_of_lt {news : List (Addr × Obj)} {d a : Addr} (h : ∀ p ∈ news, p.1 < d) (hd : @LE.le Nat _ d a) : ∀ p ∈ news, p.1 ≠ a := fun p hp => Nat.ne_of_lt (Nat.lt_of_lt_of_le (h p hp) hd)
theorem push_strs {yl : List (Str × Tok)} {y : Str} {t : Tok} : (strValues yl).toArray.push (.str y t) = (strValues (yl ++ [(y, t)])).toArray := by simp [strValues]
theorem item_at {prog : Program} {w : World} {A : Around} {E : Value → Shared → Prop} {s : Shared} {value slice : PySem.Expr} {l : Addr} {vs : List Value} {k : Int} {u : Tok} {v : Value} {Q : Value → Shared → Prop}
    (hl : s.heap.IsList l vs.toArray) (h0 : 0 ≤ k) (hhi : k < 2 ^ 63) (hx : vs[k.toNat]? = some v) (h : Q v s)
    (hs : subscripted slice false (.ref l) (.int k u) = operate [.ref l, .int k u] (getItem (.ref l) (.int k u)) := by with_unfolding_all rfl) :
    wpAny (model prog w) A (subscriptTail value slice (.ref l) (.int k u)) Q E s :=
  tail_any hl.typeIs slot_list_getitem.lookup (wpAny_getItem_list hl h0 hhi (by simpa using hx) h) hs
theorem led_list {h₀ h : Heap} {L l : Addr} {vs : List Value} {n : Nat} {news : List (Addr × Obj)} (N : News h₀ L h news) (hm : (l, listOf vs.toArray n) ∈ news) : h.IsList l vs.toArray := ⟨_, (N _ hm).1, rfl, n, rfl⟩
theorem strValues_get {nl : List (Str × Tok)} {i : Nat} (hi : i < nl.length) : (strValues nl)[i]? = some (.str nl[i].1 nl[i].2) := by
  simp [strValues, hi]
theorem carried_strs : ∀ (l : List (Str × Tok)), CarriedAll (strValues l) (l.map fun p => PyData.str p.1)
  | [] => .nil
  | (x, t) :: r => .cons (.str x t) (carried_strs r)
theorem canLay_strs : ∀ (l : List Str), (∀ x ∈ l, PyData.strOk x = true) → PyData.canLayAll0 (l.map PyData.str) = true
  | [], _ => rfl
  | x :: r, h => by
    have h1 := h x (.head _)
    have h2 := canLay_strs r fun y hy => h y (.tail _ hy)
    simp only [List.map_cons, PyData.canLayAll0, PyData.canLay0, h1, h2, Bool.and_true]
theorem shaped_strs {l : List (Str × Tok)} (h : ∀ p ∈ l, PyData.strOk p.1 = true) : PySem.SeqAt.shaped (.list (l.map fun p => PyData.str p.1)) = true := by
  have h1 := canLay_strs (l.map (·.1)) (by intro x hx; obtain ⟨p, hp, rfl⟩ := List.mem_map.mp hx; exact h p hp)
  have h2 : ∀ r : List (Str × Tok), PyData.depthAll (r.map fun p => PyData.str p.1) = 0 := by
    intro r; induction r with
    | nil => rfl
    | cons a r ih => simp only [List.map_cons, PyData.depthAll, PyData.depth, ih, Nat.max_self]
  rw [List.map_map] at h1
  simp only [SeqAt.shaped, PyData.canLay0, PyData.depth, h2, Bool.and_eq_true, decide_eq_true_eq]
  exact ⟨h1, by omega⟩
theorem eq_strs_nil {prog : Program} {w : World} {A : Around} {E : Value → Shared → Prop} {s : Shared} {D D' : Addr} {l : List (Str × Tok)} {Q : Value → Shared → Prop}
    (h1 : s.heap.IsList D (strValues l).toArray) (h2 : s.heap.IsList D' #[]) (hok : ∀ p ∈ l, PyData.strOk p.1 = true) (hu : A.units + 64 < cLine) (h : Q (.bool l.isEmpty) s) :
    wpAny (model prog w) A (compareOp .Eq (.ref D) (.ref D')) Q E s := by
  refine eq_dataH (reads_newData h1 (carried_strs l)) (reads_newData (ys := []) h2 .nil) (shaped_strs hok) rfl hu ?_
  cases l with
  | nil => exact h
  | cons p r => exact h
theorem leave_with {h₀ g : Heap} {L L' : Addr} {m m' : Str → Option Value} {all keep : List (Addr × Obj)} {R : Result → Shared → Prop} {v : Value} {s' : Shared} (F' : Fr g L' s'.heap m') (N' : News g L' s'.heap all) (sub : ∀ p ∈ keep, p ∈ all)
    (k : Fr h₀ L s'.heap m → News h₀ L s'.heap keep → R (.ok (.ret v)) s') : LeaveK h₀ L m g R v s' := leaveK_ F' (fun p hp => N' p (sub p hp)) k
theorem bit_iff {b i : Nat} : ((b : Int).fdiv (2 ^ (i : Int).toNat)).fmod 2 = 1 ↔ b.testBit i = true := by
  rw [Int.toNat_natCast, Int.fdiv_eq_ediv_of_nonneg _ (Int.le_of_lt (Int.pow_pos (by decide))), Int.fmod_eq_emod_of_nonneg _ (by decide), Nat.testBit_eq_decide_div_mod_eq, decide_eq_true_eq]
  have : ((b : Int) / 2 ^ i) % 2 = ((b / 2 ^ i % 2 : Nat) : Int) := by push_cast; rfl
  rw [this]; omega
section
open LCt LCg
variable {prog : Program} {w : World} {A : Around} {s : Shared} {h₀ : Heap} {L : Addr} {m : Str → Option Value} {env : Env}
theorem compT_ind {ct elt : Expr} {x : Str} {scope : Scope} {cl : List (Str × Addr)} {S : List (Addr × Obj) → Prop} {P : Nat → Value → Prop} {Fin : List Value → List (Addr × Obj) → Prop} {n : Nat} {news : List (Addr × Obj)}
    (Good : Nat → List Value → List (Addr × Obj) → Prop)
    (step : ∀ i ys nw, i < n → Good i ys nw → ∀ v I oI C oC D m₂ h tk (E' : Value → Shared → Prop), P i v → NsObj oC m₂ → m₂ x = some v → Fr h₀ L h m → News h₀ L h ((I, oI) :: (C, oC) :: (D, lst ys) :: nw) → Off3 I C D nw → ((@Ne Nat I C) ∧ (@Ne Nat I D) ∧ (@Ne Nat C D)) →
      wpAny (model prog w) A (isTrue ct (compEnvC scope cl C env) (eval ct (compEnvC scope cl C env))) (fun ok s' => if ok = true then
        wpAny (model prog w) A (eval elt (compEnvC scope cl C env)) (CompEnd h₀ L m { s with heap := h, toks := tk } I oI C oC D (lst ys) S (fun y news' => Good (i + 1) (ys ++ [y]) news')) E' s'
        else CompEnd h₀ L m { s with heap := h, toks := tk } I oI C oC D (lst ys) S (fun _ news' => Good (i + 1) ys news') Value.none s') E' { s with heap := h, toks := tk })
    (fin : ∀ ys nw, Good n ys nw → Fin ys nw) (h0 : Good 0 [] news) : CompRestT prog w A h₀ L m env ct elt x scope cl s S P Fin n 0 [] news := by
  have key : ∀ k i ys nw, i + k = n → Good i ys nw → CompRestT prog w A h₀ L m env ct elt x scope cl s S P Fin k i ys nw := by
    intro k
    induction k with
    | zero => intro i ys nw e g; exact CompRestT.zero (fin _ _ ((show i = n by omega) ▸ g))
    | succ k ih =>
      intro i ys nw e g
      refine CompRestT.succ fun v I oI C oC D m₂ h tk E' hv hC hx F N off ne => ?_
      refine wpAny_mono (step i ys nw (by omega) g v I oI C oC D m₂ h tk E' hv hC hx F N off ne) (fun ok s' q => ?_) fun _ _ x => x
      have e' : i + 1 + k = n := by omega
      cases ok with
      | true =>
        simp only [if_true] at q ⊢
        refine wpAny_mono q (fun y s'' z => ?_) fun _ _ x => x
        obtain ⟨h', tk', nw', e1, F1, N1, o1, S1, g1⟩ := z
        exact ⟨h', tk', nw', e1, F1, N1, o1, S1, ih _ _ _ e' g1⟩
      | false =>
        simp only [Bool.false_eq_true, if_false] at q ⊢
        obtain ⟨h', tk', nw', e1, F1, N1, o1, S1, g1⟩ := q
        exact ⟨h', tk', nw', e1, F1, N1, o1, S1, ih _ _ _ e' g1⟩
  exact key n 0 [] news (Nat.zero_add n) h0
theorem comp_ind {elt : Expr} {x : Str} {scope : Scope} {cl : List (Str × Addr)} {S : List (Addr × Obj) → Prop} {P : Nat → Value → Prop} {Fin : List Value → List (Addr × Obj) → Prop} {n : Nat} {news : List (Addr × Obj)}
    (Good : Nat → List Value → List (Addr × Obj) → Prop)
    (step : ∀ i ys nw, i < n → Good i ys nw → ∀ v I oI C oC D m₂ h tk (E' : Value → Shared → Prop), P i v → NsObj oC m₂ → m₂ x = some v → Fr h₀ L h m → News h₀ L h ((I, oI) :: (C, oC) :: (D, lst ys) :: nw) → Off3 I C D nw → ((@Ne Nat I C) ∧ (@Ne Nat I D) ∧ (@Ne Nat C D)) →
      wpAny (model prog w) A (eval elt (compEnvC scope cl C env)) (CompEnd h₀ L m { s with heap := h, toks := tk } I oI C oC D (lst ys) S (fun y news' => Good (i + 1) (ys ++ [y]) news')) E' { s with heap := h, toks := tk })
    (fin : ∀ ys nw, Good n ys nw → Fin ys nw) (h0 : Good 0 [] news) : CompRest prog w A h₀ L m env elt x scope cl s S P Fin n 0 [] news := by
  have key : ∀ k i ys nw, i + k = n → Good i ys nw → CompRest prog w A h₀ L m env elt x scope cl s S P Fin k i ys nw := by
    intro k
    induction k with
    | zero => intro i ys nw e g; exact CompRest.zero (fin _ _ ((show i = n by omega) ▸ g))
    | succ k ih =>
      intro i ys nw e g
      refine CompRest.succ fun v I oI C oC D m₂ h tk E' hv hC hx F N off ne => ?_
      refine wpAny_mono (step i ys nw (by omega) g v I oI C oC D m₂ h tk E' hv hC hx F N off ne) (fun y s'' z => ?_) fun _ _ x => x
      obtain ⟨h', tk', nw', e1, F1, N1, o1, S1, g1⟩ := z
      exact ⟨h', tk', nw', e1, F1, N1, o1, S1, ih _ _ _ (by omega) g1⟩
  exact key n 0 [] news (Nat.zero_add n) h0
end
end Mine
namespace Mine
open LCg PySem.Calls PySem.Spec
section
variable {prog : Program} {w : World} {A : Around} {s : Shared} {h₀ : Heap} {env : Env}
/-- the end of a turn of a for loop -/
def TurnPost (h₀ : Heap) (L I : Addr) (oI : Obj) (S : List (Addr × Obj) → Prop) (s : Shared) (Q : Flow → Shared → Prop) (Jn : (Str → Option Value) → List (Addr × Obj) → Prop) (f : Flow) (s' : Shared) : Prop :=
  match f with
  | .ret v => Q (.ret v) s'
  | .brk => Q .next s'
  | _ => ∃ h' tk' m' nw', s' = { s with heap := h', toks := tk' } ∧ Fr h₀ L h' m' ∧ News h₀ L h' ((I, oI) :: nw') ∧ (∀ p ∈ nw', p.1 ≠ I) ∧ S nw' ∧ Jn m' nw'
theorem TurnPost.next {h₀ : Heap} {L I : Addr} {oI : Obj} {S : List (Addr × Obj) → Prop} {s : Shared} {Q : Flow → Shared → Prop} {Jn : (Str → Option Value) → List (Addr × Obj) → Prop} {h' : Heap} {tk' : Nat} {m' : Str → Option Value} {nw' : List (Addr × Obj)}
    (F : Fr h₀ L h' m') (N : News h₀ L h' ((I, oI) :: nw')) (off : ∀ p ∈ nw', p.1 ≠ I) (hS : S nw') (hj : Jn m' nw') : TurnPost h₀ L I oI S s Q Jn .next { s with heap := h', toks := tk' } := ⟨h', tk', m', nw', rfl, F, N, off, hS, hj⟩
theorem for_block {target : Expr} {body orelse : List Stmt} {I : Addr} {fp : List Addr} {n : Nat} {P : Nat → Value → Prop} {St : Nat → Heap → Prop} {S : List (Addr × Obj) → Prop} {m : Str → Option Value} {news : List (Addr × Obj)} {R : Result → Shared → Prop}
    (W : Walks prog w A I fp [I] n P St) (hIo : ∀ i h, St i h → ∃ o, h.get? I = some o)
    (hSt : ∀ i h h' o nw, St i h → h.get? I = some o → h'.get? I = some o → (∀ b o, h₀.get? b = some o → h'.get? b = some o) → News h₀ env.locals h' nw → S nw → St i h')
    (hst : St 0 s.heap) (F : Fr h₀ env.locals s.heap m) (N : News h₀ env.locals s.heap news) (hIL : env.locals ≠ I) (hI₀ : h₀.get? I = none) (off : ∀ p ∈ news, p.1 ≠ I) (hS : S news)
    (hgo : ∀ v, letOwnedTupleGo target (.ref I) v = pure ())
    (J : Nat → (Str → Option Value) → List (Addr × Obj) → Prop) (h0 : J 0 m news)
    (step : ∀ i v m₁ nw h tk oI (E' : Value → Shared → Prop), i < n → P i v → J i m₁ nw → S nw → Fr h₀ env.locals h m₁ → News h₀ env.locals h ((I, oI) :: nw) → (∀ p ∈ nw, p.1 ≠ I) →
      wpAny (model prog w) A (assign target env v) (fun _ s₂ => wpAny (model prog w) A (execs body env) (TurnPost h₀ env.locals I oI S { s with heap := h, toks := tk } (fun f s' => R (.ok f) s') (J (i + 1))) E' s₂) E' { s with heap := h, toks := tk })
    (fin : ∀ m' nw h tk (E' : Value → Shared → Prop), J n m' nw → Fr h₀ env.locals h m' → News h₀ env.locals h nw → wpAny (model prog w) A (execs orelse env) (fun f s' => R (.ok f) s') E' { s with heap := h, toks := tk }) :
    codeAny (model prog w) A (.forLoop target (.ref I) body orelse env) R s := by
  refine codeAny_forLoop_any
    (fun k s' => ∃ h' tk m' nw i, s' = { s with heap := h', toks := tk } ∧ St i h' ∧ Fr h₀ env.locals h' m' ∧ News h₀ env.locals h' nw ∧ (∀ p ∈ nw, p.1 ≠ I) ∧ S nw ∧ J i m' nw ∧ i ≤ n ∧ k = n + 1 - i) ?_ (n + 1)
    ⟨s.heap, s.toks, m, news, 0, rfl, hst, F, N, off, hS, h0, Nat.zero_le _, rfl⟩
  rintro k s' ⟨h', tk, m', nw, i, rfl, hst', F', N', off', hS', hJ, hi, rfl⟩
  by_cases hlt : i < n
  · refine W.item i _ _ _ hlt hst' fun v h₁ tk₁ hP hst₁ hk₁ => ?_
    have F₁ := fr_but F' hk₁ hIL hI₀
    have N₁ := news_but N' hk₁ off'
    obtain ⟨oI, heI⟩ := hIo _ _ hst₁
    have N₁' : News h₀ env.locals h₁ ((I, oI) :: nw) := fun p hp => by
      rcases List.mem_cons.mp hp with rfl | hp
      · exact ⟨heI, Ne.symm hIL, hI₀⟩
      · exact N₁ p hp
    dsimp only
    rw [hgo v]
    refine wpAny_pure ?_
    refine wpAny_mono (step i v m' nw h₁ tk₁ oI _ hlt hP hJ hS' F₁ N₁' off') (fun _ s₂ h₂ => wpAny_mono h₂ (fun f s₃ h₃ => ?_) fun _ _ e => e) fun _ _ e => e
    have go : (∃ h₃' tk₃ m₃ nw₃, s₃ = { s with heap := h₃', toks := tk₃ } ∧ Fr h₀ env.locals h₃' m₃ ∧ News h₀ env.locals h₃' ((I, oI) :: nw₃) ∧ (∀ p ∈ nw₃, p.1 ≠ I) ∧ S nw₃ ∧ J (i + 1) m₃ nw₃) →
        ∃ m, m < n + 1 - i ∧ ∃ h' tk m' nw i, s₃ = { s with heap := h', toks := tk } ∧ St i h' ∧ Fr h₀ env.locals h' m' ∧ News h₀ env.locals h' nw ∧ (∀ p ∈ nw, p.1 ≠ I) ∧ S nw ∧ J i m' nw ∧ i ≤ n ∧ m = n + 1 - i := by
      rintro ⟨h₃', tk₃, m₃, nw₃, rfl, F₃, N₃, off₃, hS₃, hJ₃⟩
      have N₃' : News h₀ env.locals h₃' nw₃ := fun p hp => N₃ p (List.mem_cons_of_mem _ hp)
      exact ⟨n + 1 - (i + 1), by omega, h₃', tk₃, m₃, nw₃, i + 1, rfl, hSt _ _ _ _ _ hst₁ heI (N₃ (I, oI) List.mem_cons_self).1 F₃.keep N₃' hS₃, F₃, N₃', off₃, hS₃, hJ₃, hlt, rfl⟩
    cases f with
    | ret v => exact h₃
    | brk => exact h₃
    | cont => exact go h₃
    | next => exact go h₃
  · have hin : i = n := by omega
    subst hin
    refine W.done _ _ _ hst' fun h₁ tk₁ hk₁ => ?_
    exact fin m' nw h₁ tk₁ _ hJ (fr_but F' hk₁ hIL hI₀) (news_but N' hk₁ off')
/-- where a for loop stands when its iterable is known -/
def ForSrc (prog : Program) (w : World) (A : Around) (env : Env) (target : Expr) (body orelse : List Stmt) (Q : Flow → Shared → Prop) (E : Value → Shared → Prop) (xv : Value) (s₁ : Shared) : Prop :=
  wpAny (model prog w) A (pyIter xv) (fun it s₂ => codeAny (model prog w) A (.forLoop target it body orelse env) (fun r s' => match r with | .ok f => Q f s' | .error e => cameBackBy (model prog w) A env E e s') s₂) E s₁
theorem for_src {E : Value → Shared → Prop} {Q : Flow → Shared → Prop} {target iter : Expr} {pos : Pos} {body orelse : List Stmt}
    (h : wpAny (model prog w) A (eval iter env) (ForSrc prog w A env target body orelse Q E) E s)
    (hs : ∀ x, foldedSetIterable iter env x = pure x := by intro _; rfl) :
    wpAny (model prog w) A (exec (.For target iter body orelse pos) env) Q E s := wpAny_For h hs
theorem for_range {E : Value → Shared → Prop} {Q : Flow → Shared → Prop} {target : Expr} {body orelse : List Stmt} {r : Addr} {a b : Int} {t u v : Tok} {n : Nat} {m : Str → Option Value} {news : List (Addr × Obj)}
    (J : Nat → (Str → Option Value) → List (Addr × Obj) → Prop) (hh : A.handled = none) (hr : IsRange s.heap r a b 1 t u v) (hsm : Builtin.Range.small a b 1 = true) (hn : Builtin.Range.rangeSize a b 1 = ((n : Nat) : Int))
    (F : Fr h₀ env.locals s.heap m) (N : News h₀ env.locals s.heap news) (h0 : J 0 m news)
    (step : ∀ i t m₁ nw h tk I oI (E' : Value → Shared → Prop), i < n → J i m₁ nw → Fr h₀ env.locals h m₁ → News h₀ env.locals h ((I, oI) :: nw) → (∀ p ∈ nw, p.1 ≠ I) →
      wpAny (model prog w) A (assign target env (.int (a + (i : Int)) t)) (fun _ s₂ => wpAny (model prog w) A (execs body env) (TurnPost h₀ env.locals I oI (fun _ => True) { s with heap := h, toks := tk } Q (J (i + 1))) E' s₂) E' { s with heap := h, toks := tk })
    (fin : ∀ m' nw h tk (E' : Value → Shared → Prop), J n m' nw → Fr h₀ env.locals h m' → News h₀ env.locals h nw → wpAny (model prog w) A (execs orelse env) Q E' { s with heap := h, toks := tk })
    (hgo : ∀ I v, letOwnedTupleGo target (.ref I) v = pure () := by intro _ _; rfl) :
    ForSrc prog w A env target body orelse Q E (.ref r) s := by
  refine wpAny_pyIter_range hr hsm ?_
  refine for_block (range_walks hh a n) (fun i h st => ⟨_, st⟩) range_st (by show IsRangeIter _ _ _ _ _; rw [hn]; simpa using Heap.get?_push_size _ rfl)
    (F.keeps fun _ _ e => Heap.get?_push_of_some _ e) (N.grown fun _ _ e => Heap.get?_push_of_some _ e) (Nat.ne_of_lt F.ns.lt) (next_is_new F) (fun p hp => Nat.ne_of_lt (Heap.lt_size (N p hp).1)) trivial (hgo _) J h0 ?_ ?_
  · rintro i _ m₁ nw h tk oI E' hi ⟨t, rfl⟩ hJ _ F' N' off
    exact step i t m₁ nw h tk _ oI E' hi hJ F' N' off
  · intro m' nw h tk E' hJ F' N'
    exact fin m' nw h tk E' hJ F' N'
theorem for_list {E : Value → Shared → Prop} {Q : Flow → Shared → Prop} {target : Expr} {body orelse : List Stmt} {ax : Addr} {its : Array Value} {m : Str → Option Value} {news : List (Addr × Obj)}
    (J : Nat → (Str → Option Value) → List (Addr × Obj) → Prop) (hh : A.handled = none) (hs : SrcAt h₀ ax its news)
    (F : Fr h₀ env.locals s.heap m) (N : News h₀ env.locals s.heap news) (h0 : J 0 m news)
    (step : ∀ i v m₁ nw h tk I oI (E' : Value → Shared → Prop), its[i]? = some v → J i m₁ nw → SrcAt h₀ ax its nw → Fr h₀ env.locals h m₁ → News h₀ env.locals h ((I, oI) :: nw) → (∀ p ∈ nw, p.1 ≠ I) →
      wpAny (model prog w) A (assign target env v) (fun _ s₂ => wpAny (model prog w) A (execs body env) (TurnPost h₀ env.locals I oI (SrcAt h₀ ax its) { s with heap := h, toks := tk } Q (J (i + 1))) E' s₂) E' { s with heap := h, toks := tk })
    (fin : ∀ m' nw h tk (E' : Value → Shared → Prop), J its.size m' nw → Fr h₀ env.locals h m' → News h₀ env.locals h nw → wpAny (model prog w) A (execs orelse env) Q E' { s with heap := h, toks := tk })
    (hgo : ∀ I v, letOwnedTupleGo target (.ref I) v = pure () := by intro _ _; rfl) :
    ForSrc prog w A env target body orelse Q E (.ref ax) s := by
  have hl := hs.list F.keep N
  have hlt : ax < s.heap.objs.size := by obtain ⟨_, e, _⟩ := hl; exact Heap.lt_size e
  refine wpAny_pyIter_list hl ?_
  refine for_block (Walks.list hh s.heap.objs.size ax (Nat.ne_of_lt hlt) its) (fun i h st => by obtain ⟨o, e, _⟩ := st.1; exact ⟨o, e⟩) list_st ⟨⟨_, Heap.get?_push_size _ rfl, rfl, rfl⟩, hl.push _⟩
    (F.keeps fun _ _ e => Heap.get?_push_of_some _ e) (N.grown fun _ _ e => Heap.get?_push_of_some _ e) (Nat.ne_of_lt F.ns.lt) (next_is_new F) (fun p hp => Nat.ne_of_lt (Heap.lt_size (N p hp).1)) hs (hgo _) J h0 ?_ ?_
  · intro i v m₁ nw h tk oI E' hi hv hJ hS F' N' off
    exact step i v m₁ nw h tk _ oI E' hv hJ hS F' N' off
  · intro m' nw h tk E' hJ F' N'
    exact fin m' nw h tk E' hJ F' N'
end
end Mine
namespace Mine
open LCg PySem.Calls PySem.Spec
section
variable {prog : Program} {w : World} {A : Around} {E : Value → Shared → Prop} {s : Shared} {h₀ : Heap} {L : Addr} {m : Str → Option Value} {env : Env}
theorem pair_block {ct elt iter : Expr} {x y : Str} {px py tp : Pos} {kk : Nat} {scope : Scope} {cl : List (Str × Addr)} {pos : Pos} {s₂ : Shared} {I ax : Addr} {its : Array Value} {S : List (Addr × Obj) → Prop} {news : List (Addr × Obj)}
    {RR : Value → Addr → Result → Shared → Prop} {P : Nat → Value → Value → Prop}
    (Good : Nat → List Value → List (Addr × Obj) → Prop)
    (hh : A.handled = none) (hsz : its.size ≤ sizeLine) (hit : s₂.heap.IsListIter I ax 0) (hil : I < s₂.heap.objs.size)
    (hS1 : ∀ nw, S nw → SrcAt h₀ ax its nw)
    (hS2 : ∀ i v h nw, its[i]? = some v → (∀ b o, h₀.get? b = some o → h.get? b = some o) → News h₀ L h nw → S nw → ∃ T a b, v = .ref T ∧ h.IsTuple T #[a, b] ∧ P i a b)
    (hcell : ∀ z ∈ scope.names, z.2 ≠ .cell) (hkind : scope.kind = .function) (hx : scope.names.lookup x = some .local) (hy : scope.names.lookup y = some .local) (hxy : ¬ x = y)
    (F : Fr h₀ L s₂.heap m) (N : News h₀ L s₂.heap news) (hIL : L ≠ I) (hI₀ : h₀.get? I = none) (off : ∀ p ∈ news, p.1 ≠ I) (hS : S news)
    (g0 : Good 0 [] news)
    (step : ∀ i ys nw, i < its.size → Good i ys nw → ∀ a b I oI C oC D m₂ h tk (E' : Value → Shared → Prop), P i a b → NsObj oC m₂ → m₂ x = some a → m₂ y = some b → Fr h₀ L h m → News h₀ L h ((I, oI) :: (C, oC) :: (D, lst ys) :: nw) → Off3 I C D nw → ((@Ne Nat I C) ∧ (@Ne Nat I D) ∧ (@Ne Nat C D)) →
      wpAny (model prog w) A (isTrue ct (compEnvC scope cl C env) (eval ct (compEnvC scope cl C env))) (fun ok s' => if ok = true then
        wpAny (model prog w) A (eval elt (compEnvC scope cl C env)) (CompEnd h₀ L m { s₂ with heap := h, toks := tk } I oI C oC D (lst ys) S (fun z news' => Good (i + 1) (ys ++ [z]) news')) E' s'
        else CompEnd h₀ L m { s₂ with heap := h, toks := tk } I oI C oC D (lst ys) S (fun _ news' => Good (i + 1) ys news') Value.none s') E' { s₂ with heap := h, toks := tk })
    (hRR : ∀ D C h tk m' ys news', Fr h₀ L h m → News h₀ L h ((D, lst ys) :: news') → Off1 D news' → h.Ns C m' → h₀.get? C = none → h₀.get? D = none → C ≠ L → D ≠ L → C ≠ D → (∀ p ∈ news', p.1 ≠ C) → Good its.size ys news' → RR (.ref D) C (.ok .next) { s₂ with heap := h, toks := tk }) :
    wpAny (model prog w) A (newList []) (fun acc s₃ => wpAny (model prog w) A (newFunctionEnv scope env.globals cl [] env.qual none .none (some env)) (fun cenv s₄ =>
      codeAny (model prog w) A (.compStart (.ListComp elt [⟨.Tuple [.Name x px, .Name y py] kk tp, iter, [ct], 0⟩] scope pos) 0 (.ref I) acc { cenv with scope := relabel scope env }) (RR acc cenv.locals) s₄) E s₃) E s₂ := by
  refine wpAny_newObj_type (wpAny_newFunctionEnv hcell (by intro y hy; simp at hy) (fun h₁ hns₁ hsb₁ => ?_) hkind)
  dsimp only at hns₁ hsb₁ ⊢
  generalize hH2 : s₂.heap.push { cls := .type "list", dict := none, data := .seq ([] : List Value).toArray } = H2 at hns₁ hsb₁ ⊢
  have hC : H2.objs.size = s₂.heap.objs.size + 1 := by rw [← hH2, Heap.size_push]
  have hDC : s₂.heap.objs.size ≠ H2.objs.size := by rw [hC]; exact Nat.ne_of_lt (Nat.lt_succ_self _)
  have below : ∀ b, b < s₂.heap.objs.size → b ≠ H2.objs.size ∧ b ≠ s₂.heap.objs.size := fun b hb => ⟨by rw [hC]; exact Nat.ne_of_lt (Nat.lt_succ_of_lt hb), Nat.ne_of_lt hb⟩
  have old : ∀ b o, s₂.heap.get? b = some o → h₁.get? b = some o := fun b o e => hsb₁.extBut b o (below b (Heap.lt_size e)).1 (Heap.get?_push_of_some _ (hH2 ▸ Heap.get?_push_of_some _ e))
  have hacc : h₁.get? s₂.heap.objs.size = some (lst []) := hsb₁.extBut _ _ hDC (Heap.get?_push_of_some _ (hH2 ▸ Heap.get?_push_size _ rfl))
  have fresh : ∀ a, s₂.heap.objs.size ≤ a → s₂.heap.get? a = none := fun a ha => by
    cases e : s₂.heap.get? a with
    | none => rfl
    | some o' => exact absurd (Heap.lt_size e) (Nat.not_lt.mpr ha)
  have fresh₀ : ∀ a, s₂.heap.objs.size ≤ a → h₀.get? a = none := fun a ha => by
    cases e : h₀.get? a with
    | none => rfl
    | some o' => have := F.keep a o' e; rw [fresh a ha] at this; cases this
  have hD₀ : h₀.get? s₂.heap.objs.size = none := fresh₀ _ (Nat.le_refl _)
  have hC₀ : h₀.get? H2.objs.size = none := fresh₀ _ (by rw [hC]; exact Nat.le_succ _)
  have hLlt : L < s₂.heap.objs.size := F.ns.lt
  have hDL : s₂.heap.objs.size ≠ L := Ne.symm (below L hLlt).2
  have hCL : H2.objs.size ≠ L := Ne.symm (below L hLlt).1
  have hCI : I ≠ H2.objs.size := (below I hil).1
  have hDI : I ≠ s₂.heap.objs.size := (below I hil).2
  have off₀ : Off3 I H2.objs.size s₂.heap.objs.size news := Off3.of fun p hp => ⟨off p hp, (below _ (Heap.lt_size (N p hp).1)).1, (below _ (Heap.lt_size (N p hp).1)).2⟩
  have itOf : ∀ {h h' : Heap} {i : Nat} {o : Obj}, h.IsListIter I ax i → h.get? I = some o → h'.get? I = some o → h'.IsListIter I ax i := fun st e e' => by
    obtain ⟨o', q, r⟩ := st; rw [e] at q; cases q; exact ⟨_, e', r⟩
  have loop : ∀ s₃ : Shared, s₃ = { s₂ with heap := h₁, toks := s₂.toks + ([] : List (Str × Value)).length } →
      codeAny (model prog w) A (.compLoop (.ListComp elt [⟨.Tuple [.Name x px, .Name y py] kk tp, iter, [ct], 0⟩] scope pos) 0 (.ref I) (.ref s₂.heap.objs.size) (compEnvC scope cl H2.objs.size env))
        (RR (.ref s₂.heap.objs.size) H2.objs.size) s₃ := by
    rintro s₃ rfl
    refine kct_loop
      (fun k s' => ∃ h' tk i ys m' nw, s' = { s₂ with heap := h', toks := tk } ∧ i ≤ its.size ∧ k = its.size + 1 - i ∧ ys.length ≤ i ∧ h'.IsListIter I ax i ∧ Fr h₀ L h' m ∧ h'.Ns H2.objs.size m' ∧ News h₀ L h' ((s₂.heap.objs.size, lst ys) :: nw) ∧
        Off3 I H2.objs.size s₂.heap.objs.size nw ∧ S nw ∧ Good i ys nw) ?_ (its.size + 1)
      ⟨h₁, _, 0, [], _, news, rfl, Nat.zero_le _, rfl, Nat.le_refl _, hit.at fun o e => old _ o e, F.keeps old, hns₁, fun p hp => ?_, off₀, hS, g0⟩
    · rintro k s' ⟨h', tk, i, ys, m', nw, rfl, hi, rfl, hyl, hst', F', hn', N', off', hS', g'⟩
      have off3 := off'.mem
      have Nnw : News h₀ L h' nw := fun p hp => N' p (List.mem_cons_of_mem _ hp)
      have hlist : h'.IsList ax its := (hS1 _ hS').list F'.keep Nnw
      by_cases hlt : i < its.size
      · refine wpAny_pyNext_list_item hst' hlist (x := its[i]) (by simp [hlt]) fun h₂ hit₂ hsb₂ => ?_
        have hk₂ : ∀ b o, b ∉ [I] → h'.get? b = some o → h₂.get? b = some o := fun b o hb e => hsb₂.extBut b o (by simpa using hb) e
        have F₂ := fr_but F' hk₂ hIL hI₀
        have N₂ : News h₀ L h₂ ((s₂.heap.objs.size, lst ys) :: nw) := news_but N' hk₂ fun p hp => by
          rcases List.mem_cons.mp hp with rfl | hp
          · exact Ne.symm hDI
          · exact (off3 p hp).1
        obtain ⟨T, va, vb, hv, ht, hP⟩ := hS2 i its[i] h₂ nw (by simp [hlt]) F₂.keep (fun p hp => N₂ p (List.mem_cons_of_mem _ hp)) hS'
        dsimp only
        rw [hv]
        obtain ⟨oI₂, heI₂, hcI₂, hdI₂⟩ := id hit₂
        have hgo : ∀ (Q' : Unit → Shared → Prop) (E' : Value → Shared → Prop) (st : Shared), st.heap = h₂ → Q' () st → wpAny (model prog w) A (letOwnedTupleGo (.Tuple [.Name x px, .Name y py] kk tp) (.ref I) (.ref T)) Q' E' st := fun Q' E' st e q => by
          subst e
          show wpAny _ _ (do
            let o ← load I
            match o.cls, o.data with
            | .type n, .fields vs =>
              if ["enumerate", "zip", "dict_itemiterator", "dict_reverseitemiterator", "odict_iterator", "itertools.zip_longest", "itertools.pairwise"].contains n && vs[0]? == some (rawInt T) then
                rule "for.unpacks-the-owned-tuple"
                updateField I 0 .none
            | _, _ => pure ()) Q' E' st
          refine wpAny_bind (wpAny_load heI₂ ?_)
          rw [hcI₂, hdI₂]
          dsimp only
          rw [if_neg (by
            rw [show (["enumerate", "zip", "dict_itemiterator", "dict_reverseitemiterator", "odict_iterator", "itertools.zip_longest", "itertools.pairwise"].contains "list_iterator") = false from by decide]
            exact Bool.false_ne_true)]
          exact wpAny_pure q
        refine hgo _ _ _ rfl ?_
        refine kcp_assign hh ht (lookup_relabel_local hx) (lookup_relabel_local hy) (by simp [compEnvC, relabel, hkind]) (hn'.at' fun o e => hk₂ _ o (by simpa using Ne.symm hCI) e) fun h₃ tk₃ hn₃ hk₃ => ?_
        have hk₃' : ∀ c o, c ≠ H2.objs.size → h₂.get? c = some o → h₃.get? c = some o := fun c o hc e => hk₃ c o hc e
        obtain ⟨oC, heC, hoC⟩ := ns_obj hn₃
        have heI₃ : h₃.get? I = some oI₂ := hk₃' I _ hCI heI₂
        have F₃ : Fr h₀ L h₃ m := ⟨F₂.ns.at' fun o e => hk₃' L o (Ne.symm hCL) e, fun b o e => hk₃' b o (fun q => by rw [q, hC₀] at e; cases e) (F₂.keep b o e), F₂.above⟩
        have N₃ : News h₀ L h₃ ((I, oI₂) :: (H2.objs.size, oC) :: (s₂.heap.objs.size, lst ys) :: nw) := fun p hp => by
          rcases List.mem_cons.mp hp with rfl | hp
          · exact ⟨heI₃, Ne.symm hIL, hI₀⟩
          · rcases List.mem_cons.mp hp with rfl | hp
            · exact ⟨heC, hCL, hC₀⟩
            · have z := N₂ p hp
              refine ⟨hk₃' _ _ ?_ z.1, z.2⟩
              rcases List.mem_cons.mp hp with rfl | hp
              · exact hDC
              · exact (off3 p hp).2.1
        refine wpAny_mono (step i ys nw hlt g' va vb I oI₂ H2.objs.size oC s₂.heap.objs.size _ h₃ _ _ hP hoC (by rw [if_neg hxy]; simp) (by simp) F₃ N₃ off' ⟨hCI, hDI, Ne.symm hDC⟩) (fun ok s₄ h₄ => ?_) fun _ _ e => e
        cases ok with
        | true =>
          simp only [if_true] at h₄ ⊢
          refine wpAny_mono h₄ (fun z s₅ h₅ => ?_) fun _ _ e => e
          obtain ⟨h₄, tk₄, news₄, rfl, F₄, N₄, off₄, hS₄, R₄⟩ := h₅
          have zI := (N₄ (I, oI₂) List.mem_cons_self).1
          have zC := (N₄ (H2.objs.size, oC) (List.mem_cons_of_mem _ List.mem_cons_self)).1
          have zD := (N₄ (s₂.heap.objs.size, lst ys) (List.mem_cons_of_mem _ (List.mem_cons_of_mem _ List.mem_cons_self))).1
          have N₄' : News h₀ L h₄ news₄ := fun p hp => N₄ p (List.mem_cons_of_mem _ (List.mem_cons_of_mem _ (List.mem_cons_of_mem _ hp)))
          have off4 := off₄.mem
          refine append_at (hsz := by show ys.toArray.size ≤ sizeLine; rw [List.size_toArray]; exact Nat.le_trans (Nat.le_trans hyl hi) hsz) zD fun h₅ hs₅ hD₅ => ?_
          refine ⟨its.size + 1 - (i + 1), by omega, h₅, tk₄, i + 1, ys ++ [z], _, news₄, rfl, hlt, rfl, by rw [List.length_append, List.length_singleton]; exact Nat.succ_le_succ hyl, (itOf hit₂ heI₂ zI).at fun o e => hs₅.extBut _ o hDI e, F₄.change hs₅ hDL hD₀,
            (hoC.ns zC).sameBut hs₅ (Ne.symm hDC), fun p hp => ?_, off₄, hS₄, R₄⟩
          rcases List.mem_cons.mp hp with rfl | hp
          · exact ⟨hD₅.trans (congrArg some (lst_snoc ys z)), hDL, hD₀⟩
          · exact ⟨hs₅.extBut _ _ (off4 p hp).2.2 (N₄' p hp).1, (N₄' p hp).2⟩
        | false =>
          simp only [Bool.false_eq_true, if_false] at h₄ ⊢
          obtain ⟨h₅, tk₄, news₄, rfl, F₄, N₄, off₄, hS₄, R₄⟩ := h₄
          have zI := (N₄ (I, oI₂) List.mem_cons_self).1
          have zC := (N₄ (H2.objs.size, oC) (List.mem_cons_of_mem _ List.mem_cons_self)).1
          have N₄' : News h₀ L h₅ news₄ := fun p hp => N₄ p (List.mem_cons_of_mem _ (List.mem_cons_of_mem _ (List.mem_cons_of_mem _ hp)))
          refine ⟨its.size + 1 - (i + 1), by omega, h₅, tk₄, i + 1, ys, _, news₄, rfl, hlt, rfl, Nat.le_succ_of_le hyl, itOf hit₂ heI₂ zI, F₄, hoC.ns zC, fun p hp => ?_, off₄, hS₄, R₄⟩
          rcases List.mem_cons.mp hp with rfl | hp
          · exact N₄ _ (List.mem_cons_of_mem _ (List.mem_cons_of_mem _ List.mem_cons_self))
          · exact N₄' p hp
      · obtain rfl : i = its.size := Nat.le_antisymm hi (Nat.not_lt.mp hlt)
        refine wpAny_pyNext_list_end hh hst' hlist (by simp) fun h₂ he₂ => ?_
        have hk₂ : ∀ b o, b ∉ [I] → h'.get? b = some o → h₂.get? b = some o := fun b o hb e => he₂ b o (by simpa using hb) e
        exact hRR _ _ h₂ tk _ ys nw (fr_but F' hk₂ hIL hI₀) (news_but N' hk₂ fun p hp => by
          rcases List.mem_cons.mp hp with rfl | hp
          · exact Ne.symm hDI
          · exact (off3 p hp).1) off'.one (hn'.at' fun o e => hk₂ _ o (by simpa using Ne.symm hCI) e) hC₀ hD₀ hCL hDL (Ne.symm hDC) (fun p hp => (off3 p hp).2.1) g'
    · rcases List.mem_cons.mp hp with rfl | hp
      · exact ⟨hacc, hDL, hD₀⟩
      · exact ⟨old _ _ (N p hp).1, (N p hp).2⟩
  refine codeAny_compStart_list (loop _ rfl) (wpAny_pyIter_listiter (hit.at fun o e => old _ o e) (loop _ rfl))
/-- where a comprehension over a list of pairs, with one test, stands when its list is known -/
def PairSrc (prog : Program) (w : World) (A : Around) (h₀ : Heap) (L : Addr) (m : Str → Option Value) (env : Env) (ct elt : Expr) (x y : Str) (scope : Scope) (cl : List (Str × Addr)) (Fin : Shared → List Value → List (Addr × Obj) → Prop) (xv : Value) (s₁ : Shared) : Prop :=
  ∃ (ax : Addr) (its : Array Value) (S : List (Addr × Obj) → Prop) (P : Nat → Value → Value → Prop) (news : List (Addr × Obj)) (Good : Nat → List Value → List (Addr × Obj) → Prop),
    xv = .ref ax ∧ A.handled = none ∧ Fr h₀ L s₁.heap m ∧ News h₀ L s₁.heap news ∧ its.size ≤ sizeLine ∧ (∀ nw, S nw → SrcAt h₀ ax its nw) ∧
    (∀ i v h nw, its[i]? = some v → (∀ b o, h₀.get? b = some o → h.get? b = some o) → News h₀ L h nw → S nw → ∃ T a b, v = .ref T ∧ h.IsTuple T #[a, b] ∧ P i a b) ∧ S news ∧ Good 0 [] news ∧
    ∀ s₂ : Shared, (∃ h, s₂ = { s₁ with heap := h }) →
      (∀ i ys nw, i < its.size → Good i ys nw → ∀ a b I oI C oC D m₂ h tk (E' : Value → Shared → Prop), P i a b → NsObj oC m₂ → m₂ x = some a → m₂ y = some b → Fr h₀ L h m → News h₀ L h ((I, oI) :: (C, oC) :: (D, lst ys) :: nw) → Off3 I C D nw → ((@Ne Nat I C) ∧ (@Ne Nat I D) ∧ (@Ne Nat C D)) →
        wpAny (model prog w) A (isTrue ct (compEnvC scope cl C env) (eval ct (compEnvC scope cl C env))) (fun ok s' => if ok = true then
          wpAny (model prog w) A (eval elt (compEnvC scope cl C env)) (CompEnd h₀ L m { s₂ with heap := h, toks := tk } I oI C oC D (lst ys) S (fun z news' => Good (i + 1) (ys ++ [z]) news')) E' s'
          else CompEnd h₀ L m { s₂ with heap := h, toks := tk } I oI C oC D (lst ys) S (fun _ news' => Good (i + 1) ys news') Value.none s') E' { s₂ with heap := h, toks := tk }) ∧
      ∀ ys nw, Good its.size ys nw → Fin s₂ ys nw
theorem ListComp_pair {ct elt iter : Expr} {x y : Str} {px py tp : Pos} {kk : Nat} {scope : Scope} {cl : List (Str × Addr)} {pos : Pos} {Q : Value → Shared → Prop} (_F₀ : Fr h₀ L s.heap m)
    (hclos : closureFor scope env = pure cl) (hcell : ∀ z ∈ scope.names, z.2 ≠ .cell) (hkind : scope.kind = .function)
    (hnames : ∀ z ∈ scope.names, z.2 = .local → scope.names.lookup z.1 = some .local) (hx : scope.names.lookup x = some .local) (hy : scope.names.lookup y = some .local) (hxy : ¬ x = y)
    (h : wpAny (model prog w) A (eval iter env) (PairSrc prog w A h₀ L m env ct elt x y scope cl (fun s₂ => FinE h₀ L m s₂ Q)) E s)
    (hs : ∀ x, foldedSetIterable iter env x = pure x := by intro _; rfl) :
    wpAny (model prog w) A (eval (.ListComp elt [⟨.Tuple [.Name x px, .Name y py] kk tp, iter, [ct], 0⟩] scope pos) env) Q E s := by
  rw [eval_ListComp]
  refine wpAny_comprehension_free (use := none) rfl hs hclos hkind hnames (wpAny_mono h (fun xv s₁ h₁ => ?_) fun _ _ e => e)
  obtain ⟨ax, its, S, P, news, Good, rfl, hh, F, N, hsz, hS1, hS2, hS, g0, R⟩ := h₁
  have hl := (hS1 _ hS).list F.keep N
  have hlt : ax < s₁.heap.objs.size := by obtain ⟨_, e, _⟩ := hl; exact Heap.lt_size e
  refine wpAny_pyIter_list hl ?_
  have up : ∀ b o, s₁.heap.get? b = some o → (s₁.heap.push { cls := .type "list_iterator", data := .fields #[.ref ax, .int 0 0] }).get? b = some o := fun b o e => Heap.get?_push_of_some _ e
  obtain ⟨st, fin⟩ := R _ ⟨_, rfl⟩
  refine pair_block Good hh hsz ⟨_, Heap.get?_push_size _ rfl, rfl, rfl⟩ (by rw [Heap.size_push]; exact Nat.lt_succ_self _) hS1 hS2 hcell hkind hx hy hxy (F.keeps up) (N.grown up) (Nat.ne_of_lt F.ns.lt) (next_is_new F) (fun p hp => Nat.ne_of_lt (Heap.lt_size (N p hp).1)) hS g0 st ?_
  intro D C h tk m' ys news' F' N' o1 hn hC₀ hD₀ hCL hDL hCD offC g
  refine ⟨m', hn, fun h'' hs'' => fin _ _ g D h'' tk (F'.change hs'' hCL hC₀) (fun p hp => ?_) o1⟩
  refine ⟨hs''.extBut _ _ ?_ (N' p hp).1, (N' p hp).2⟩
  rcases List.mem_cons.mp hp with rfl | hp
  · exact Ne.symm hCD
  · exact offC p hp
theorem Assign_ListComp_pair {ct elt iter : Expr} {x y z : Str} {px py tp pz : Pos} {kk : Nat} {scope : Scope} {cl : List (Str × Addr)} {pos spos : Pos} {Q : Flow → Shared → Prop} (_F₀ : Fr h₀ L s.heap m) (hLe : env.locals = L)
    (hsw : swapsWith (.ListComp elt [⟨.Tuple [.Name x px, .Name y py] kk tp, iter, [ct], 0⟩] scope pos) (some (.Name z pz)) spos.line env = pure true)
    (hclos : closureFor scope env = pure cl) (hcell : ∀ z ∈ scope.names, z.2 ≠ .cell) (hkind : scope.kind = .function)
    (hnames : ∀ z ∈ scope.names, z.2 = .local → scope.names.lookup z.1 = some .local) (hx : scope.names.lookup x = some .local) (hy : scope.names.lookup y = some .local) (hxy : ¬ x = y)
    (hz : env.kindOf z = some .local) (hp : (env.scope.kind == .class || (env.scope.kind == .module && env.locals != env.globals)) = false)
    (h : wpAny (model prog w) A (eval iter env) (PairSrc prog w A h₀ L m env ct elt x y scope cl (fun s₂ => FinA h₀ L m s₂ z Q)) E s)
    (hs : ∀ x, foldedSetIterable iter env x = pure x := by intro _; rfl) :
    wpAny (model prog w) A (exec (.Assign [.Name z pz] (.ListComp elt [⟨.Tuple [.Name x px, .Name y py] kk tp, iter, [ct], 0⟩] scope pos) spos) env) Q E s := by
  subst hLe
  rw [exec_Assign_Name_used _ _ _ _ hsw]
  refine wpAny_bind (wpAny_standAt (wpAny_bind ?_))
  show wpAny _ A (do let _ ← comprehension (.ListComp elt [⟨.Tuple [.Name x px, .Name y py] kk tp, iter, [ct], 0⟩] scope pos) scope env _ (newList []) false (eval iter env) (some (assign (.Name z pz) env))) _ _ s
  refine wpAny_bind (wpAny_mono (wpAny_comprehension_free (use := some (assign (.Name z pz) env)) (Q := fun _ s' => Q .next s') rfl hs hclos hkind hnames
    (wpAny_mono h (fun xv s₁ h₁ => ?_) fun _ _ e => e)) (fun _ s' hq => wpAny_pure (wpAny_pure hq)) fun _ _ e => e)
  obtain ⟨ax, its, S, P, news, Good, rfl, hh, F, N, hsz, hS1, hS2, hS, g0, R⟩ := h₁
  have hl := (hS1 _ hS).list F.keep N
  have hlt : ax < s₁.heap.objs.size := by obtain ⟨_, e, _⟩ := hl; exact Heap.lt_size e
  refine wpAny_pyIter_list hl ?_
  have up : ∀ b o, s₁.heap.get? b = some o → (s₁.heap.push { cls := .type "list_iterator", data := .fields #[.ref ax, .int 0 0] }).get? b = some o := fun b o e => Heap.get?_push_of_some _ e
  obtain ⟨st, fin⟩ := R _ ⟨_, rfl⟩
  refine pair_block Good hh hsz ⟨_, Heap.get?_push_size _ rfl, rfl, rfl⟩ (by rw [Heap.size_push]; exact Nat.lt_succ_self _) hS1 hS2 hcell hkind hx hy hxy (F.keeps up) (N.grown up) (Nat.ne_of_lt F.ns.lt) (next_is_new F) (fun p hp => Nat.ne_of_lt (Heap.lt_size (N p hp).1)) hS g0 st ?_
  intro D C h' tk m' ys news' F' N' o1 hn hC₀ hD₀ hCL hDL hCD offC g
  show wpAny _ A (assign (.Name z pz) env (.ref D)) _ _ _
  refine wpAny_assign_Name (wpAny_storeName_local hz F'.ns (fun h₂ hn₂ hs₂ => ?_) hp)
  have hL₀ : h₀.get? env.locals = none := Heap.get?_none_of_le F'.above
  have F₂ : Fr h₀ env.locals h₂ (fun q => if q = z then some (.ref D) else m q) := ⟨hn₂, fun b o e => hs₂.extBut b o (fun q => by rw [q, hL₀] at e; cases e) (F'.keep b o e), F'.above⟩
  refine ⟨m', hn.sameBut hs₂ hCL, fun h'' hs'' => fin _ _ g D h'' _ (F₂.change hs'' hCL hC₀) (fun p hp => ?_) o1⟩
  have q : h₂.get? p.1 = some p.2 := hs₂.extBut _ _ (N' p hp).2.1 (N' p hp).1
  refine ⟨hs''.extBut _ _ ?_ q, (N' p hp).2⟩
  rcases List.mem_cons.mp hp with rfl | hp
  · exact Ne.symm hCD
  · exact offC p hp
end
end Mine
namespace Mine
def words15 : List Str := [Str.ofString "OPTIMIZED", Str.ofString "NEWLOCALS", Str.ofString "VARARGS", Str.ofString "VARKEYWORDS", Str.ofString "NESTED", Str.ofString "GENERATOR", Str.ofString "NOFREE", Str.ofString "COROUTINE", Str.ofString "ITERABLE_COROUTINE", Str.ofString "ASYNC_GENERATOR",
  Str.ofString "0x400", Str.ofString "0x800", Str.ofString "0x1000", Str.ofString "0x2000", Str.ofString "0x4000"]
def wd (i : Nat) : Str := words15.getD i default
def rem (x i : Nat) : Nat := x / 2 ^ i * 2 ^ i
theorem and_pow (n i : Nat) : n &&& 2 ^ i = if n.testBit i then 2 ^ i else 0 := by
  apply Nat.eq_of_testBit_eq
  intro j
  rw [Nat.testBit_and, Nat.testBit_two_pow]
  by_cases h : i = j
  · subst h
    cases hb : n.testBit i <;> simp [Nat.testBit_two_pow_self]
  · cases hb : n.testBit i <;> simp [h, Nat.testBit_two_pow]
theorem rem_bit (x i : Nat) : (rem x i).testBit i = x.testBit i := by
  unfold rem
  rw [Nat.testBit_mul_two_pow]
  simp [Nat.testBit_eq_decide_div_mod_eq]
theorem and_rem (x i : Nat) : Builtin.bitAnd (rem x i : Int) (1 * 2 ^ (i : Int).toNat) = ((if x.testBit i then 2 ^ i else 0 : Nat) : Int) := by
  rw [Int.toNat_natCast, Int.one_mul, PyProof.Rows.bitAnd_pp (by omega) (Int.le_of_lt (Int.pow_pos (by decide)))]
  have : ((2 : Int) ^ i).toNat = 2 ^ i := by
    have : (2 : Int) ^ i = ((2 ^ i : Nat) : Int) := by push_cast; rfl
    rw [this, Int.toNat_natCast]
  rw [this, Int.toNat_natCast, and_pow, rem_bit]
theorem rem_succ (x i : Nat) : rem x (i + 1) + (if x.testBit i then 2 ^ i else 0) = rem x i := by
  unfold rem
  rw [Nat.pow_succ, ← Nat.div_div_eq_div_mul, Nat.testBit_eq_decide_div_mod_eq]
  generalize x / 2 ^ i = q
  generalize 2 ^ i = P
  have h : q / 2 * (P * 2) + (q % 2) * P = q * P := by
    have : q = q / 2 * 2 + q % 2 := by omega
    conv => rhs; rw [this]
    rw [Nat.add_mul, Nat.mul_assoc, Nat.mul_comm 2 P]
  rcases Nat.mod_two_eq_zero_or_one q with e | e
  · rw [e] at h ⊢; simpa using h
  · rw [e] at h ⊢; simpa using h
theorem xor_rem (x i : Nat) (h : x.testBit i = true) : Builtin.bitXor (rem x i : Int) (1 * 2 ^ (i : Int).toNat) = (rem x (i + 1) : Int) := by
  rw [bitXor_and, and_rem, h, if_pos rfl, Int.toNat_natCast, Int.one_mul]
  have := rem_succ x i
  rw [h, if_pos rfl] at this
  have e : ((2 ^ i : Nat) : Int) = (2 : Int) ^ i := by push_cast; rfl
  rw [← this]
  push_cast
  omega
theorem bit_lt {x i : Nat} (hx : x < 2 ^ 15) (h : x.testBit i = true) : i < 15 := by
  apply Decidable.byContradiction
  intro q
  have := Nat.testBit_lt_two_pow (Nat.lt_of_lt_of_le hx (Nat.pow_le_pow_right (by decide) (Nat.le_of_not_lt q)))
  rw [this] at h; cases h
theorem rem_big {x i : Nat} (hx : x < 2 ^ 15) (hi : 15 ≤ i) : rem x i = 0 := by
  unfold rem
  rw [Nat.div_eq_of_lt (Nat.lt_of_lt_of_le hx (Nat.pow_le_pow_right (by decide) hi)), Nat.zero_mul]
theorem hex_len (i : Nat) (hi : i < 15) : (PySem.baseText "0x" 16 (1 * 2 ^ (i : Int).toNat)).length ≤ sizeLine := by
  have : ∀ j : Nat, j < 15 → (PySem.baseText "0x" 16 (1 * 2 ^ (j : Int).toNat)).length ≤ 100 := by decide +kernel
  exact Nat.le_trans (this i hi) (by rw [sizeLine_eq]; omega)
theorem hex_wd : ∀ j : Nat, j < 15 → 10 ≤ j → PySem.baseText "0x" 16 (1 * 2 ^ (j : Int).toNat) = wd j := by decide +kernel
theorem pow_wd {j k : Nat} {v : Int} (h : (1 : Int) * 2 ^ (j : Int).toNat = v) (hv : v = 2 ^ k) : j = k := by
  rw [Int.toNat_natCast, Int.one_mul, hv] at h
  have : (2 : Nat) ^ j = 2 ^ k := by exact_mod_cast h
  exact (Nat.pow_right_inj (by decide)).mp this
theorem ge_ten {j : Nat} (h0 : ¬ (1 : Int) * 2 ^ (j : Int).toNat = 1) (h1 : ¬ (1 : Int) * 2 ^ (j : Int).toNat = 2) (h2 : ¬ (1 : Int) * 2 ^ (j : Int).toNat = 4) (h3 : ¬ (1 : Int) * 2 ^ (j : Int).toNat = 8) (h4 : ¬ (1 : Int) * 2 ^ (j : Int).toNat = 16)
    (h5 : ¬ (1 : Int) * 2 ^ (j : Int).toNat = 32) (h6 : ¬ (1 : Int) * 2 ^ (j : Int).toNat = 64) (h7 : ¬ (1 : Int) * 2 ^ (j : Int).toNat = 128) (h8 : ¬ (1 : Int) * 2 ^ (j : Int).toNat = 256) (h9 : ¬ (1 : Int) * 2 ^ (j : Int).toNat = 512) : 10 ≤ j := by
  apply Decidable.byContradiction
  intro q
  have : j = 0 ∨ j = 1 ∨ j = 2 ∨ j = 3 ∨ j = 4 ∨ j = 5 ∨ j = 6 ∨ j = 7 ∨ j = 8 ∨ j = 9 := by omega
  rcases this with rfl | rfl | rfl | rfl | rfl | rfl | rfl | rfl | rfl | rfl
  · exact h0 rfl
  · exact h1 rfl
  · exact h2 rfl
  · exact h3 rfl
  · exact h4 rfl
  · exact h5 rfl
  · exact h6 rfl
  · exact h7 rfl
  · exact h8 rfl
  · exact h9 rfl
end Mine
namespace Mine
/-- a call of the def at f, its ledger may change -/
def SpecM (rm : Nat) (w : World) (f : Addr) (args : Args) (pre : List (Addr × Obj) → Prop) (post : List (Addr × Obj) → List (Addr × Obj) → Value → Prop) : Prop :=
  ∀ (mean : ExcName → Option Value) (mg mb : Str → Option Value) (dp un : Nat) (gd : Option (List Code)) (cn : Str) (cs : Scope) (a : Addr) (ccd : Value) (cl : List (Str × Addr)) (outer : List Env) (A₀ : Around) (base h₀ : Heap) (L : Addr) (m : Str → Option Value) (news : List (Addr × Obj)) (s : Shared)
    (Q E : Value → Shared → Prop), Below A₀ base outer h₀ → Fr h₀ L s.heap m → (kk.heap_1 w.params).In h₀ → News h₀ L s.heap news → TopAt mean mg mb h₀ → cs.kind = .function → dp + rm < recursionLimit → un + 10 * rm < cLine →
    pre news → (∀ r nw h' tk', Fr h₀ L h' m → News h₀ L h' nw → post news nw r → Q r { s with heap := h', toks := tk' }) →
    codeAny (model Challenge.rw_pm0049_01.row.prog w) (ktrTop dp un gd cn cs L a ccd cl outer) (.call (.ref f) args) (fun r s' => match r with | .ok (.ret v) => Q v s' | .ok _ => False | .error e => E e s') s
end Mine
namespace Mine
theorem plain_pattern : PlainAttrs "re.Pattern" :=
  ⟨⟨"object.__getattribute__", by rw [typeLookup_type, builtinLookup_eq_fast]; kernel_rfl, by decide +kernel⟩, by rw [typeLookup_type, builtinLookup_eq_fast]; kernel_rfl⟩
theorem slot_search : Slot "re.Pattern" "search" "re.Pattern.search" :=
  .of (owner := "re.Pattern") (n := "search") (by rw [typeLookup_type, builtinLookup_eq_fast]; kernel_rfl) (by decide +kernel) (by decide +kernel) (by decide +kernel)
    (by first | exact .inl (by decide +kernel) | exact .inr (by decide +kernel)) (by rw [isSubtype_type]; kernel_rfl)
theorem type_search : typeOf (.builtin "re.Pattern.search") = pure (.type "method_descriptor") := by show builtinType _ = _; rw [builtinType_eq_fast]; kernel_rfl
theorem entry_search : entryFor table "re.Pattern.search" = some Builtin.«re.Pattern.search» := entryFor_of_tree (by kernel_rfl)
theorem args_search (a b : Value) : argsOk "re.Pattern.search" ⟨[a, b], []⟩ := by unfold argsOk; kernel_rfl
section
variable {prog : Program} {w : World} {A : Around} {E : Value → Shared → Prop} {s : Shared}
theorem rules_none {M : Model} {f : Nat → PUnit → Sem (ForInStep PUnit)} {Q : PUnit → Shared → Prop} (l : List Nat) (hf : ∀ i b s', wpAny M A (f i b) (fun r s'' => r = .yield ⟨⟩ ∧ s'' = s') E s') (h : Q ⟨⟩ s) :
    wpAny M A (forIn l PUnit.unit f) Q E s := by
  refine wpAny_forIn_list _ (fun _ _ s' => s' = s) Q ?_ (fun _ _ e => e ▸ h) l _ rfl
  rintro i rest b s' rfl
  exact wpAny_mono (hf i b s') (fun r s'' ⟨e1, e2⟩ => by subst e1; exact e2) fun _ _ e => e
/-- a machine that has already said no -/
structure SaysNo (m : Sre.M) : Prop where
  answer : m.answer = some false
  frames : m.frames = []
  outcome : m.outcome = none
theorem drive_no {M : Model} {m : Sre.M} (hm : SaysNo m) {Q : Option Sre.M → Shared → Prop} (h : Q none s) : wpAny M A (Builtin.Re.reRunToEnd m) Q E s := by
  have e1 : m.step = { m with outcome := some .failed } := by
    unfold Sre.M.step
    rw [hm.outcome, hm.answer, hm.frames]; rfl
  have e2 : m.runFor Builtin.Re.reTurnSteps = { m with outcome := some .failed } := by
    show Sre.M.runFor (3 + 1) m = _
    rw [Sre.M.runFor, hm.outcome, e1]
    rfl
  have e3 : ∀ n, Builtin.Re.reDrive (n + 1) m = pure { m with outcome := some .failed } := by
    intro n
    rw [Builtin.Re.reDrive, e2]; rfl
  unfold Builtin.Re.reRunToEnd
  rw [show (2 : Nat) ^ 64 = (2 ^ 64 - 1) + 1 from rfl, e3]
  refine wpAny_bind (wpAny_pure ?_)
  refine wpAny_bind (rules_none _ (fun i b s' => ?_) ?_)
  · dsimp only
    split
    · exact wpAny_bind (wpAny_rule (wpAny_pure ⟨rfl, rfl⟩))
    · exact wpAny_pure ⟨rfl, rfl⟩
  exact wpAny_pure h
theorem search_no {p c : Addr} {x : Str} {tx : Tok} {Q : Value → Shared → Prop} {o oc : Obj} {v0 v3 v4 : Value} {t1 t2 t3 : Tok} {i1 : Int} {cn : Nat} {items : Array Value}
    (ho : s.heap.get? p = some o) (hcls : o.cls = .type "re.Pattern") (hd : o.data = .fields #[v0, .int i1 t1, .int 0 t2, v3, v4, .ref c, .int 0 t3])
    (hc : s.heap.get? c = some oc) (hcd : oc.data = .seq items cn)
    {code : Array Nat} (he : (items.map Builtin.Re.reRawOf).map (·.toNat) = code) (hm : ∀ lim, lim ≤ x.cps.size → SaysNo (Sre.forSearch code x.cps 0 0 lim false))
    (h : Q .none s) : wpAny (model prog w) A (call (.builtin "re.Pattern.search") [.ref p, .str x tx]) Q E s := by
  refine wpAny_call (codeAny_call_builtin slot_search.plain entry_search (slot_search.check _ _ _ _ (.ref p) [.str x tx] [] _ ⟨o, ho, hcls⟩ (args_search _ _) ?_))
  show wpAny _ _ (Builtin.Re.reTarget "re.Pattern.search" "search" ⟨[.ref p, .str x tx], []⟩ >>= fun t => Builtin.Re.reAnswer t (Sre.forSearch t.code t.text t.groups t.pos t.lim false)) _ _ _
  have key : wpAny (model prog w) A.in1 (Builtin.Re.reTarget "re.Pattern.search" "search" ⟨[.ref p, .str x tx], []⟩) (fun t s' => s' = s ∧ t.code = (items.map Builtin.Re.reRawOf).map (·.toNat) ∧ t.text = x.cps ∧ t.groups = 0 ∧ t.pos = min (0 : Int).toNat x.cps.size ∧ t.lim = min ((2 : Int) ^ 63 - 1).toNat x.cps.size) (fun e s' => E e s') s := by
    unfold Builtin.Re.reTarget
    dsimp only
    have e1 : Builtin.Re.reNamed "re.Pattern.search" "search" ["string", "pos", "endpos"] 1 [Value.str x tx] [] = pure [some (.str x tx), none, none] := by kernel_rfl
    rw [e1]
    refine wpAny_bind (wpAny_pure ?_)
    dsimp only
    refine wpAny_bind (wpAny_pure ?_)
    refine wpAny_bind (wpAny_pure ?_)
    refine wpAny_bind (wpAny_fieldsOf ho hd ?_)
    refine wpAny_bind (show wpAny _ _ (Builtin.Re.reTextOf (.str x tx)) _ _ _ from wpAny_bind (wpAny_pure (wpAny_pure ?_)))
    dsimp only
    rw [if_neg (by show ¬ (((0 : Nat) == 0 && (0 : Nat) == 1) = true); decide), if_neg (by show ¬ (((0 : Nat) == 1 && (0 : Nat) == 0) = true); decide)]
    refine wpAny_bind (show wpAny _ _ (Builtin.Re.reNoCollectionInside (.str x tx) 0) _ _ _ from wpAny_pure ?_)
    refine wpAny_bind (show wpAny _ _ (Builtin.Re.reRawItems (.ref c)) _ _ _ from wpAny_bind (wpAny_seqItems hc hcd (wpAny_pure ?_)))
    exact wpAny_pure ⟨rfl, rfl, rfl, rfl, rfl, rfl⟩
  refine wpAny_bind (wpAny_mono key (fun t s' ⟨e0, e1, e2, e3, e4, e5⟩ => ?_) fun _ _ e => e)
  subst e0
  rw [e1, e2, e3, e4, e5, he, show min (0 : Int).toNat x.cps.size = 0 from Nat.zero_min _]
  unfold Builtin.Re.reAnswer
  refine wpAny_bind (drive_no (hm _ (Nat.min_le_right _ _)) ?_)
  exact wpAny_pure h
theorem method_search {p : Addr} {o : Obj} {pl : Sem Bool} {Q : Value × List Value → Shared → Prop} (ho : s.heap.get? p = some o) (hcls : o.cls = .type "re.Pattern") (hdict : o.dict = none)
    (h : Q (.builtin "re.Pattern.search", [.ref p]) s) : wpAny (model prog w) A (getMethod (.ref p) (Str.ofString "search") pl) Q E s :=
  getMethod_builtin ⟨o, ho, hcls⟩ plain_pattern slot_search type_search (fun a e => by cases e; exact ⟨_, ho, hdict⟩) h
end
def Clean (x : Str) : Prop := ∀ c ∈ x.cps.toList, 32 ≤ c ∧ c < 127
theorem clean_at {x : Str} (hx : Clean x) {i : Nat} (hi : i < x.cps.size) : 32 ≤ x.cps.getD i 0 ∧ x.cps.getD i 0 < 127 := by
  have : x.cps.getD i 0 = x.cps[i] := by simp [Array.getD, hi]
  rw [this]
  exact hx _ (by simp)
def codeN : Array Nat := #[14, 10, 4, 1, 1, 22, 0, 31, 16, 127, 0, 13, 7, 22, 0, 31, 16, 127, 0, 1]
def codeV : Array Nat := #[14, 14, 4, 1, 1, 9, 4294966783, 0, 0, 2147483648, 0, 0, 0, 0, 0, 13, 11, 9, 4294966783, 0, 0, 2147483648, 0, 0, 0, 0, 0, 1]
theorem inN {c : Nat} (h1 : 32 ≤ c) (h2 : c < 127) (seen : Sre.Seen) : ∃ seen', Sre.inSet codeN c 20 5 true seen = .ok (false, seen') := by
  have e1 : Sre.inSet codeN c 20 5 true seen = if (decide (0 ≤ c) && decide (c ≤ 31)) = true then .ok (true, seen.add 22) else Sre.inSet codeN c 19 8 true (seen.add 22) := rfl
  have e2 : ∀ sn, Sre.inSet codeN c 19 8 true sn = if (c == 127) = true then .ok (true, sn.add 16) else Sre.inSet codeN c 18 10 true (sn.add 16) := fun _ => rfl
  have e3 : ∀ sn, Sre.inSet codeN c 18 10 true sn = .ok (false, sn.add 0) := fun _ => rfl
  rw [e1, if_neg (by simp; omega), e2, if_neg (by simp; omega), e3]
  exact ⟨_, rfl⟩
theorem bitsV {c : Nat} (h1 : 32 ≤ c) (h2 : c < 127) : (codeV.getD (5 + (1 + c / 32)) 0).testBit (c % 32) = false := by
  have : ∀ c : Nat, c < 127 → 32 ≤ c → (codeV.getD (5 + (1 + c / 32)) 0).testBit (c % 32) = false := by decide +kernel
  exact this c h2 h1
theorem inV {c : Nat} (h1 : 32 ≤ c) (h2 : c < 127) (seen : Sre.Seen) : ∃ seen', Sre.inSet codeV c 28 5 true seen = .ok (false, seen') := by
  have e1 : Sre.inSet codeV c 28 5 true seen = if (decide (c < 256) && (codeV.getD (5 + (1 + c / 32)) 0).testBit (c % 32)) = true then .ok (true, seen.add 9) else Sre.inSet codeV c 27 14 true (seen.add 9) := rfl
  have e3 : ∀ sn, Sre.inSet codeV c 27 14 true sn = .ok (false, sn.add 0) := fun _ => rfl
  rw [e1, if_neg (by rw [bitsV h1 h2]; simp), e3]
  exact ⟨_, rfl⟩
theorem admitted_no {m : Sre.M} {x : Str} (hx : Clean x) (ht : m.text = x.cps) (hl : m.lim ≤ x.cps.size) (hin : ∀ c seen, 32 ≤ c → c < 127 → ∃ seen', Sre.inSet m.code c m.code.size 5 true seen = .ok (false, seen')) :
    ∀ fuel i seen, ∃ seen', m.admitted fuel i seen = .ok (none, seen') := by
  intro fuel
  induction fuel with
  | zero => intro i seen; exact ⟨seen, rfl⟩
  | succ n ih =>
    intro i seen
    unfold Sre.M.admitted
    by_cases h : i ≥ m.lim
    · rw [if_pos h]; exact ⟨_, rfl⟩
    · rw [if_neg h, ht]
      obtain ⟨h1, h2⟩ := clean_at hx (i := i) (by omega)
      obtain ⟨seen', e⟩ := hin _ seen h1 h2
      rw [e]
      exact ih _ _
theorem saysN {x : Str} (hx : Clean x) {lim : Nat} (hl : lim ≤ x.cps.size) : SaysNo (Sre.forSearch codeN x.cps 0 0 lim false) := by
  let m0 : Sre.M := { code := codeN, text := x.cps, lim := lim, start := 0, pc := 11, pos := 0, handed := 0, marks := Array.replicate 0 none, mustAdvance := false, seen := ({} : Sre.Seen).add 14 }
  have e : Sre.forSearch codeN x.cps 0 0 lim false = if (decide (0 > lim) || decide (lim - 0 < 1)) = true then m0.say false else ({ m0 with lastStart := lim } : Sre.M).attemptFrom 0 true := rfl
  rw [e]
  by_cases h : (decide (0 > lim) || decide (lim - 0 < 1)) = true
  · rw [if_pos h]; exact ⟨rfl, rfl, rfl⟩
  · rw [if_neg h]
    obtain ⟨sn, q⟩ := admitted_no (m := ({ m0 with lastStart := lim } : Sre.M)) hx rfl hl (fun c seen h1 h2 => inN h1 h2 seen) (lim + 1 - 0) 0 m0.seen
    have e2 : ({ m0 with lastStart := lim } : Sre.M).attemptFrom 0 true = match Sre.M.admitted ({ m0 with lastStart := lim } : Sre.M) (lim + 1 - 0) 0 m0.seen with
      | .ok (some s, seen) => ({ m0 with lastStart := lim, mustAdvance := false, seen := seen } : Sre.M).attemptAt s true
      | .ok (none, seen) => ({ m0 with lastStart := lim, seen := seen } : Sre.M).say false
      | .error why => ({ m0 with lastStart := lim } : Sre.M).stick why := rfl
    rw [e2, q]
    exact ⟨rfl, rfl, rfl⟩
theorem saysV {x : Str} (hx : Clean x) {lim : Nat} (hl : lim ≤ x.cps.size) : SaysNo (Sre.forSearch codeV x.cps 0 0 lim false) := by
  let m0 : Sre.M := { code := codeV, text := x.cps, lim := lim, start := 0, pc := 15, pos := 0, handed := 0, marks := Array.replicate 0 none, mustAdvance := false, seen := ({} : Sre.Seen).add 14 }
  have e : Sre.forSearch codeV x.cps 0 0 lim false = if (decide (0 > lim) || decide (lim - 0 < 1)) = true then m0.say false else ({ m0 with lastStart := lim } : Sre.M).attemptFrom 0 true := rfl
  rw [e]
  by_cases h : (decide (0 > lim) || decide (lim - 0 < 1)) = true
  · rw [if_pos h]; exact ⟨rfl, rfl, rfl⟩
  · rw [if_neg h]
    obtain ⟨sn, q⟩ := admitted_no (m := ({ m0 with lastStart := lim } : Sre.M)) hx rfl hl (fun c seen h1 h2 => inV h1 h2 seen) (lim + 1 - 0) 0 m0.seen
    have e2 : ({ m0 with lastStart := lim } : Sre.M).attemptFrom 0 true = match Sre.M.admitted ({ m0 with lastStart := lim } : Sre.M) (lim + 1 - 0) 0 m0.seen with
      | .ok (some s, seen) => ({ m0 with lastStart := lim, mustAdvance := false, seen := seen } : Sre.M).attemptAt s true
      | .ok (none, seen) => ({ m0 with lastStart := lim, seen := seen } : Sre.M).say false
      | .error why => ({ m0 with lastStart := lim } : Sre.M).stick why := rfl
    rw [e2, q]
    exact ⟨rfl, rfl, rfl⟩
end Mine
namespace Mine
open LCg PySem.Calls PySem.Spec
section
variable {prog : Program} {w : World} {A : Around} {s : Shared} {h₀ : Heap} {env : Env}
theorem for_empty {E : Value → Shared → Prop} {Q : Flow → Shared → Prop} {target : Expr} {body orelse : List Stmt} {ax : Addr} {m : Str → Option Value} {news : List (Addr × Obj)}
    (hh : A.handled = none) (hs : SrcAt h₀ ax #[] news)
    (F : Fr h₀ env.locals s.heap m) (N : News h₀ env.locals s.heap news)
    (fin : ∀ h tk (E' : Value → Shared → Prop), Fr h₀ env.locals h m → News h₀ env.locals h news → wpAny (model prog w) A (execs orelse env) Q E' { s with heap := h, toks := tk }) :
    ForSrc prog w A env target body orelse Q E (.ref ax) s := by
  have hl := hs.list F.keep N
  have hlt : ax < s.heap.objs.size := by obtain ⟨_, e, _⟩ := hl; exact Heap.lt_size e
  refine wpAny_pyIter_list hl ?_
  have W := Walks.list (prog := prog) (w := w) (A := A) hh s.heap.objs.size ax (Nat.ne_of_lt hlt) #[]
  have hI₀ : h₀.get? s.heap.objs.size = none := next_is_new F
  have hIL : env.locals ≠ s.heap.objs.size := Nat.ne_of_lt F.ns.lt
  have off : ∀ p ∈ news, p.1 ≠ s.heap.objs.size := fun p hp => Nat.ne_of_lt (Heap.lt_size (N p hp).1)
  refine codeAny_forLoop_any
    (fun k s' => ∃ h' tk, s' = { s with heap := h', toks := tk } ∧ (h'.IsListIter s.heap.objs.size ax 0 ∧ h'.IsList ax #[]) ∧ Fr h₀ env.locals h' m ∧ News h₀ env.locals h' news) ?_ 0
    ⟨_, s.toks, rfl, ⟨⟨_, Heap.get?_push_size _ rfl, rfl, rfl⟩, hl.push _⟩, F.keeps fun _ _ e => Heap.get?_push_of_some _ e, N.grown fun _ _ e => Heap.get?_push_of_some _ e⟩
  rintro k s' ⟨h', tk, rfl, hst', F', N'⟩
  refine W.done _ _ _ hst' fun h₁ tk₁ hk₁ => ?_
  exact fin h₁ tk₁ _ (fr_but F' hk₁ hIL hI₀) (news_but N' hk₁ off)
end
end Mine
namespace Mine
section
variable {prog : Program} {w : World} {A : Around} {E : Value → Shared → Prop} {s : Shared}
theorem setItem_list_all {l sl b : Addr} {items new : Array Value} {n : Nat} {Q : Unit → Shared → Prop} (hl : IsL s.heap l items n) (hb : s.heap.IsList b new) (hne : l ≠ b)
    (hs : s.heap.IsSliceOf sl .none .none .none) (h1 : items.size ≤ 4000) (h2 : new.size ≤ 4000)
    (hQ : ∀ h' n', IsL h' l new n' → Heap.SameBut l s.heap h' → Q () { s with heap := h' }) :
    wpAny (model prog w) A (setItem (.ref l) (.ref sl) (.ref b)) Q E s := by
  obtain ⟨ob, hob, hcb, neb, hdb⟩ := id hb
  obtain ⟨os, hos, hcs, hds⟩ := id hs
  have hTs : s.TypeIs (.ref sl) "slice" := ⟨os, hos, hcs⟩
  have hTb : s.TypeIs (.ref b) "list" := hb.typeIs
  have hli := hl.isList
  unfold setItem
  try with_reducible refine wpAny_holding ?_
  first | refine wpAny_bind (wpAny_pure ?_) | skip
  refine wpAny_bind (wpAny_sequenceKey hli.typeIs (by decide) ?_)
  refine wpAny_bind (wpAny_callSpecial?_slot (name := Str.ofString "__setitem__") hli.typeIs slot_list_setitem
    (wpAny_call_entry slot_list_setitem hli.typeIs entry_list_setitem ?_ (args_list_setitem _ _ _)))
  show wpAny _ _ (Builtin.List.listSubscript? (.ref sl) >>= _) _ _ s
  refine wpAny_bind ?_
  unfold Builtin.List.listSubscript?
  refine wpAny_bind (wpAny_specialOf hTs slice_no_index ?_)
  simp only [Option.isNone_none, if_true]
  refine wpAny_pure ?_
  show wpAny _ _ (typeOf (.ref sl) >>= _) _ _ s
  refine wpAny_bind (wpAny_typeOf hTs ?_)
  rw [if_neg (by decide)]
  rw [listSliceParts_eq]
  refine wpAny_bind (wpAny_bind (wpAny_field hos hds (x := .none) rfl (wpAny_bind (wpAny_listPart .none ?_))))
  rw [if_neg (by decide)]
  refine wpAny_bind (wpAny_field hos hds (x := .none) rfl (wpAny_bind (wpAny_listPart .none ?_)))
  refine wpAny_bind (wpAny_field hos hds (x := .none) rfl (wpAny_bind (wpAny_listPart .none (wpAny_pure ?_))))
  have hsame : Builtin.List.listSameRef (.ref l) (.ref b) = false := by simp [Builtin.List.listSameRef, hne]
  dsimp only
  rw [hsame]
  simp only [Bool.false_eq_true, if_false]
  refine wpAny_bind (m := Builtin.List.listAllItems (.ref b) _) ?_
  unfold Builtin.List.listAllItems
  refine wpAny_bind (wpAny_typeOf hTb ?_)
  rw [if_pos (by decide)]
  unfold Builtin.List.listItems
  refine wpAny_bind (wpAny_seqItems hob hdb (wpAny_pure ?_))
  refine wpAny_bind (wpAny_bind (wpAny_seqItems hl rfl (wpAny_pure ?_)))
  have hsb : sliceBounds none none none items.size = (((0 : Nat) : Int), (items.size : Int), 1) := by simp [sliceBounds]
  refine wpAny_bind (wpAny_of_eq (sliceIndices_raw none none none items.size (by simp)) ?_)
  rw [hsb]
  dsimp only
  rw [if_pos (by decide)]
  refine wpAny_bind (wpAny_rule ?_)
  have hbig : (4000 : Nat) + 4000 ≤ sizeLine := by decide
  rw [if_neg (by simp only [Builtin.List.listTooLong, decide_eq_true_eq]; omega)]
  have he : items.extract 0 (((0 : Nat) : Int)).toNat ++ new ++ items.extract (max (((0 : Nat) : Int)) (items.size : Int)).toNat items.size = new := by
    have : (max (((0 : Nat) : Int)) (items.size : Int)).toNat = items.size := by omega
    rw [this]
    simp
  refine wpAny_bind (m := Builtin.List.listUpdate (.ref l) _) ?_
  unfold Builtin.List.listUpdate
  refine wpAny_updateSeq hl rfl ?_ (by omega) (by rw [he]; omega)
  refine wpAny_bind (wpAny_letGo ?_)
  have hfin := hl.update (fun xs : Array Value => xs.extract 0 (((0 : Nat) : Int)).toNat ++ new ++ xs.extract (max (((0 : Nat) : Int)) (items.size : Int)).toNat xs.size)
  rw [he] at hfin
  have := hQ _ _ hfin (Heap.SameBut.update ..)
  first
    | exact wpAny_bind (wpAny_pure (wpAny_pure ⟨.none, rfl, wpAny_pure this⟩))
    | exact wpAny_pure ⟨.none, rfl, wpAny_pure this⟩
theorem setItem_slice_K {h₀ h : Heap} {L : Addr} {m : Str → Option Value} {news : List (Addr × Obj)} {l b : Addr} {items new : Array Value} {k k2 : Nat} {Q : Unit → Shared → Prop} (F : Fr h₀ L h m) (N : News h₀ L h news)
    (e : s.heap = h.push { cls := .type "slice", data := .fields #[.none, .none, .none] }) (hl : (l, listOf items k) ∈ news) (hb : (b, listOf new k2) ∈ news) (hne : l ≠ b) (h1 : items.size ≤ 4000) (h2 : new.size ≤ 4000)
    (hQ : ∀ h' k', Fr h₀ L h' m → News h₀ L h' ((l, listOf new k') :: news.filter (fun p => p.1 ≠ l)) → Q () { s with heap := h' }) :
    wpAny (model prog w) A (setItem (.ref l) (.ref h.objs.size) (.ref b)) Q E s := by
  have F2 := F.push { cls := .type "slice", data := .fields #[.none, .none, .none] }
  have N2 := N.push F { cls := .type "slice", data := .fields #[.none, .none, .none] }
  rw [← e] at F2 N2
  refine setItem_list_all (n := k) (N2.get (List.mem_cons_of_mem _ hl)) (N2.isList (List.mem_cons_of_mem _ hb)) hne ⟨_, N2.get List.mem_cons_self, rfl, rfl⟩ h1 h2 fun h' n' hI hs => ?_
  refine hQ h' n' (F2.update N2 (List.mem_cons_of_mem _ hl) hs) ?_
  intro p hp
  rcases List.mem_cons.mp hp with rfl | hp
  · exact ⟨hI, (N2 _ (List.mem_cons_of_mem _ hl)).2⟩
  · obtain ⟨hp1, hp2⟩ := List.mem_filter.mp hp
    have := N2 p (List.mem_cons_of_mem _ hp1)
    exact ⟨(hs.2 _ (by simpa using hp2)).trans this.1, this.2⟩
theorem append_led {h₀ : Heap} {L : Addr} {m : Str → Option Value} {all : List (Addr × Obj)} {l : Addr} {its : Array Value} {k : Nat} {x : Value} {Q : Value → Shared → Prop} (F : Fr h₀ L s.heap m) (N : News h₀ L s.heap all)
    (hm : (l, listOf its k) ∈ all) (hz : its.size ≤ 4000)
    (h : ∀ h', Fr h₀ L h' m → News h₀ L h' ((l, listOf (its.push x) (k + 1)) :: all.filter (fun p => p.1 ≠ l)) → Q .none { s with heap := h' }) :
    wpAny (model prog w) A (call (.builtin "list.append") [.ref l, x]) Q E s := by
  have N' : News h₀ L s.heap ((l, listOf its k) :: all.filter (fun p => p.1 ≠ l)) := fun p hp => by
    rcases List.mem_cons.mp hp with rfl | hp
    · exact N _ hm
    · exact N p (List.mem_filter.mp hp).1
  have hbig : (4000 : Nat) ≤ sizeLine := by decide
  exact append_K F N' (.head fun p hp => by simpa using (List.mem_filter.mp hp).2) h (by omega)
end
end Mine
namespace Mine
/-- the number of tokens may be any, but not zero -/
theorem gentoks_pos {α : Type} {M : Model} {A : Around} {t : Sem α} {Q : α → Shared → Prop} {E : Value → Shared → Prop} {h : Heap} {g : Array GenState} {d : Drawn} {tk : Nat} {o : OsState} (hp : 0 < tk)
    (k : ∀ tk', 0 < tk' → wpAny M A t Q E ⟨h, g, d, tk', o⟩) : wpAny M A t Q E ⟨h, g, d, tk, o⟩ := k tk hp
end Mine
namespace Mine
/-- a run of the sort's questions, each about two places below n, answered by lt -/
def KRun {α : Type} (n : Nat) (lt : Nat → Nat → Bool) : KasT α → α → Prop
  | .ret a, b => a = b
  | .ask i j k, b => i < n ∧ j < n ∧ KRun n lt (k (lt i j)) b
theorem KRun.bind {α β : Type} {n : Nat} {lt : Nat → Nat → Bool} {f : α → KasT β} {a : α} {b : β} : ∀ {t : KasT α}, KRun n lt t a → KRun n lt (f a) b → KRun n lt (t.bind f) b
  | .ret _, h, h2 => by cases h; exact h2
  | .ask _ _ _, h, h2 => ⟨h.1, h.2.1, KRun.bind h.2.2 h2⟩
theorem KRun.wp {α : Type} {n : Nat} {lt : Nat → Nat → Bool} {cmp : Nat → Nat → (Bool → Shared → Prop) → Shared → Prop} {s : Shared} (hc : ∀ i j (C : Bool → Shared → Prop), i < n → j < n → C (lt i j) s → cmp i j C s) {G : α → Shared → Prop} {a : α} (hG : G a s) : ∀ {t : KasT α}, KRun n lt t a → t.kasWp cmp G s
  | .ret _, h => by cases h; exact hG
  | .ask _ _ _, h => hc _ _ _ h.1 h.2.1 (KRun.wp hc hG h.2.2)
structure Ord (n : Nat) (lt : Nat → Nat → Bool) : Prop where
  irr : ∀ i, i < n → lt i i = false
  tr : ∀ i j k, i < n → j < n → k < n → lt i j = true → lt j k = true → lt i k = true
  con : ∀ i j, i < n → j < n → i ≠ j → lt i j = false → lt j i = true
def Up (lt : Nat → Nat → Bool) (p : Array Nat) (k : Nat) : Prop := ∀ i j, i < j → j < k → lt (p.getD i 0) (p.getD j 0) = true
def Down (lt : Nat → Nat → Bool) (p : Array Nat) (k : Nat) : Prop := ∀ i j, i < j → j < k → lt (p.getD j 0) (p.getD i 0) = true
structure IsP (n : Nat) (p : Array Nat) : Prop where
  size : p.size = n
  lt : ∀ i, i < n → p.getD i 0 < n
  inj : ∀ i j, i < n → j < n → i ≠ j → p.getD i 0 ≠ p.getD j 0
theorem getD_of {p : Array Nat} {i : Nat} (h : i < p.size) : p.getD i 0 = p[i] := by simp [Array.getD, h]
theorem isP_of {n : Nat} {p : Array Nat} (h : p.Perm (List.toArray (List.range n))) : IsP n p := by
  have hl : p.toList.Perm (List.range n) := by simpa using h.toList
  have hs : p.size = n := by have := hl.length_eq; simpa using this
  have nod : p.toList.Nodup := hl.nodup_iff.mpr List.nodup_range
  refine ⟨hs, fun i hi => ?_, fun i j hi hj ne e => ?_⟩
  · rw [getD_of (by omega)]
    have : p[i]'(by omega) ∈ p.toList := by simp
    exact List.mem_range.mp (hl.mem_iff.mp this)
  · rw [getD_of (by omega), getD_of (by omega)] at e
    have h1 := List.pairwise_iff_getElem.mp nod
    rcases Nat.lt_or_gt_of_ne ne with q | q
    · exact h1 i j (by simp; omega) (by simp; omega) q (by simpa using e)
    · exact h1 j i (by simp; omega) (by simp; omega) q (by simpa using e.symm)
section
variable {n : Nat} {lt : Nat → Nat → Bool} (O : Ord n lt)
include O
theorem run_asc {p : Array Nat} (P : IsP n p) : ∀ (f a : Nat), 1 ≤ a → a + f ≤ n → Up lt p a → ∃ m, KRun n lt (kas_asc p f a) m ∧ a ≤ m ∧ m ≤ a + f ∧ Up lt p m ∧ (m < a + f → lt (p.getD m 0) (p.getD (m - 1) 0) = true)
  | 0, a, _, _, h => ⟨a, rfl, Nat.le_refl _, Nat.le_refl _, h, fun h => absurd h (Nat.lt_irrefl _)⟩
  | f + 1, a, h1, h2, h => by
    cases hq : lt (p.getD a 0) (p.getD (a - 1) 0) with
    | true =>
      refine ⟨a, ⟨P.lt _ (by omega), P.lt _ (by omega), ?_⟩, Nat.le_refl _, by omega, h, fun _ => hq⟩
      rw [hq]; rfl
    | false =>
      have hs : lt (p.getD (a - 1) 0) (p.getD a 0) = true := O.con _ _ (P.lt _ (by omega)) (P.lt _ (by omega)) (P.inj _ _ (by omega) (by omega) (by omega)) hq
      have up : Up lt p (a + 1) := by
        intro i j hij hj
        by_cases e : j < a
        · exact h i j hij e
        · obtain rfl : j = a := by omega
          by_cases e2 : i = j - 1
          · rw [e2]; exact hs
          · exact O.tr _ (p.getD (j - 1) 0) _ (P.lt _ (by omega)) (P.lt _ (by omega)) (P.lt _ (by omega)) (h i (j - 1) (by omega) (by omega)) hs
      obtain ⟨m, r1, r2, r3, r4, r5⟩ := run_asc P f (a + 1) (by omega) (by omega) up
      refine ⟨m, ⟨P.lt _ (by omega), P.lt _ (by omega), ?_⟩, by omega, by omega, r4, fun hm => r5 (by omega)⟩
      rw [hq]; exact r1
theorem run_desc {p : Array Nat} (P : IsP n p) : ∀ (f a : Nat), 1 ≤ a → a + f ≤ n → Down lt p a → ∃ m, KRun n lt (kas_desc f p a 0) (p, m, 0) ∧ a ≤ m ∧ m ≤ a + f ∧ Down lt p m
  | 0, a, _, _, h => ⟨a, rfl, Nat.le_refl _, Nat.le_refl _, h⟩
  | f + 1, a, h1, h2, h => by
    cases hq : lt (p.getD a 0) (p.getD (a - 1) 0) with
    | true =>
      have dn : Down lt p (a + 1) := by
        intro i j hij hj
        by_cases e : j < a
        · exact h i j hij e
        · obtain rfl : j = a := by omega
          by_cases e2 : i = j - 1
          · rw [e2]; exact hq
          · exact O.tr _ (p.getD (j - 1) 0) _ (P.lt _ (by omega)) (P.lt _ (by omega)) (P.lt _ (by omega)) hq (h i (j - 1) (by omega) (by omega))
      obtain ⟨m, r1, r2, r3, r4⟩ := run_desc P f (a + 1) (by omega) (by omega) dn
      refine ⟨m, ⟨P.lt _ (by omega), P.lt _ (by omega), ?_⟩, by omega, by omega, r4⟩
      rw [hq]; exact r1
    | false =>
      have hs : lt (p.getD (a - 1) 0) (p.getD a 0) = true := O.con _ _ (P.lt _ (by omega)) (P.lt _ (by omega)) (P.inj _ _ (by omega) (by omega) (by omega)) hq
      refine ⟨a, ⟨P.lt _ (by omega), P.lt _ (by omega), ?_⟩, Nat.le_refl _, by omega, h⟩
      rw [hq]
      refine ⟨P.lt _ (by omega), P.lt _ (by omega), ?_⟩
      rw [hs]; rfl
theorem run_tail3 {p : Array Nat} (P : p.Perm (List.toArray (List.range n))) {a : Nat} (h1 : 1 ≤ a) (h2 : a ≤ n) (h : Down lt p a) : ∃ m p', KRun n lt (kas_tail3 a n p) (m, p') ∧ 1 ≤ m ∧ m ≤ n ∧ Up lt p' m ∧ p'.Perm (List.toArray (List.range n)) := by
  have hs := (isP_of P).size
  have P' : (kas_rev p 0 a).Perm (List.toArray (List.range n)) := (mirror_perm _ _ _ _).trans P
  have g : ∀ i, i < a → (kas_rev p 0 a).getD i 0 = p.getD (a - 1 - i) 0 := by
    intro i hi
    have e := getElem?_mirror_all (xs := p) (i := 0) (j := a) (by omega) i
    rw [if_pos ⟨Nat.zero_le _, hi⟩, Nat.zero_add] at e
    show ((mirror p 0 a ((a - 0) / 2)).getD i 0) = _
    rw [Array.getD_eq_getD_getElem?, Array.getD_eq_getD_getElem?, e]
  have up : Up lt (kas_rev p 0 a) a := by
    intro i j hij hj
    rw [g i (by omega), g j hj]
    exact h _ _ (by omega) (by omega)
  obtain ⟨m, r1, r2, r3, r4, _⟩ := run_asc O (isP_of P') (n - a) a h1 (by omega) up
  exact ⟨m, kas_rev p 0 a, KRun.bind r1 rfl, by omega, by omega, r4, P'⟩
theorem run_count {p : Array Nat} (P : p.Perm (List.toArray (List.range n))) (hn : 1 ≤ n) : ∃ m p', KRun n lt (kas_count n p) (m, p') ∧ 1 ≤ m ∧ m ≤ n ∧ Up lt p' m ∧ p'.Perm (List.toArray (List.range n)) := by
  have IP := isP_of P
  obtain ⟨m, r1, r2, r3, r4, r5⟩ := run_asc O IP (n - 1) 1 (Nat.le_refl _) (by omega) (fun i j _ hj => by omega)
  by_cases e1 : m = n
  · refine ⟨m, p, KRun.bind r1 ?_, r2, by omega, r4, P⟩
    rw [if_pos (by simpa using e1)]; rfl
  · have hb : ¬ (m == n) = true := by simpa using e1
    by_cases e2 : m > 1
    · refine ⟨m, p, KRun.bind r1 ?_, r2, by omega, r4, P⟩
      rw [if_neg hb, if_pos e2]
      refine ⟨IP.lt _ (by omega), IP.lt _ (by omega), ?_⟩
      rw [r4 0 (m - 1) (by omega) (by omega)]; rfl
    · obtain rfl : m = 1 := by omega
      have dn : Down lt p 2 := by
        intro i j hij hj
        obtain rfl : i = 0 := by omega
        obtain rfl : j = 1 := by omega
        exact r5 (by omega)
      obtain ⟨k, q1, q2, q3, q4⟩ := run_desc O IP (n - (1 + 1)) 2 (by omega) (by omega) dn
      obtain ⟨m', p', t1, t2, t3, t4, t5⟩ := run_tail3 O P (a := k) (by omega) (by omega) q4
      refine ⟨m', p', KRun.bind r1 ?_, t2, t3, t4, t5⟩
      rw [if_neg hb, if_neg e2]
      refine KRun.bind q1 ?_
      exact t1
theorem run_place {p : Array Nat} (P : IsP n p) {k : Nat} (hk : k < n) (hu : Up lt p k) : ∀ (f l r : Nat), l ≤ r → r ≤ k → r - l ≤ f → (∀ i, i < l → lt (p.getD i 0) (p.getD k 0) = true) → (∀ i, r ≤ i → i < k → lt (p.getD k 0) (p.getD i 0) = true) →
    ∃ m, KRun n lt (kas_place p k f l r) m ∧ m ≤ k ∧ (∀ i, i < m → lt (p.getD i 0) (p.getD k 0) = true) ∧ (∀ i, m ≤ i → i < k → lt (p.getD k 0) (p.getD i 0) = true)
  | 0, l, r, h1, h2, h3, h4, h5 => by
    obtain rfl : l = r := by omega
    exact ⟨l, rfl, h2, h4, h5⟩
  | f + 1, l, r, h1, h2, h3, h4, h5 => by
    by_cases e : l ≥ r
    · obtain rfl : l = r := by omega
      refine ⟨l, ?_, h2, h4, h5⟩
      unfold kas_place
      rw [if_pos e]; rfl
    · have hm : (l + r) / 2 < r := by omega
      cases hq : lt (p.getD k 0) (p.getD ((l + r) / 2) 0) with
      | true =>
        obtain ⟨m, r1, r2⟩ := run_place P hk hu f l ((l + r) / 2) (by omega) (by omega) (by omega) h4 (fun i hi hik => by
          by_cases e3 : i = (l + r) / 2
          · rw [e3]; exact hq
          · exact O.tr _ (p.getD ((l + r) / 2) 0) _ (P.lt _ (by omega)) (P.lt _ (by omega)) (P.lt _ (by omega)) hq (hu _ _ (by omega) hik))
        refine ⟨m, ?_, r2⟩
        unfold kas_place
        rw [if_neg e]
        refine ⟨P.lt _ (by omega), P.lt _ (by omega), ?_⟩
        rw [hq]; exact r1
      | false =>
        have hs : lt (p.getD ((l + r) / 2) 0) (p.getD k 0) = true := O.con _ _ (P.lt _ (by omega)) (P.lt _ (by omega)) (P.inj _ _ (by omega) (by omega) (by omega)) hq
        obtain ⟨m, r1, r2⟩ := run_place P hk hu f ((l + r) / 2 + 1) r (by omega) (by omega) (by omega) (fun i hi => by
          by_cases e3 : i = (l + r) / 2
          · rw [e3]; exact hs
          · exact O.tr _ (p.getD ((l + r) / 2) 0) _ (P.lt _ (by omega)) (P.lt _ (by omega)) (P.lt _ (by omega)) (hu _ _ (by omega) (by omega)) hs) h5
        refine ⟨m, ?_, r2⟩
        unfold kas_place
        rw [if_neg e]
        refine ⟨P.lt _ (by omega), P.lt _ (by omega), ?_⟩
        rw [hq]; exact r1
theorem run_bin : ∀ (f : Nat) (p : Array Nat) (k : Nat), p.Perm (List.toArray (List.range n)) → k + f = n → Up lt p k → ∃ p', KRun n lt (kas_bin f p k) p' ∧ Up lt p' n ∧ p'.Perm (List.toArray (List.range n))
  | 0, p, k, P, hk, hu => ⟨p, rfl, by obtain rfl : k = n := by omega
                                      exact hu, P⟩
  | f + 1, p, k, P, hk, hu => by
    have IP := isP_of P
    have hs := IP.size
    obtain ⟨l, r1, r2, r3, r4⟩ := run_place O IP (k := k) (by omega) hu k 0 k (Nat.zero_le _) (Nat.le_refl _) (by omega) (fun i hi => by omega) (fun i h1 h2 => by omega)
    have P' : (bubble p k (k - l)).Perm (List.toArray (List.range n)) := (bubble_perm _ _ _).trans P
    have g : ∀ i, (bubble p k (k - l)).getD i 0 = if i < l then p.getD i 0 else if i = l then p.getD k 0 else if i ≤ k then p.getD (i - 1) 0 else p.getD i 0 := by
      intro i
      have e := getElem?_bubble (xs := p) (src := k) (d := k - l) (by omega) (by omega) i
      rw [Array.getD_eq_getD_getElem?, e]
      repeat' split
      all_goals first | rfl | (exfalso; omega) | (rw [Array.getD_eq_getD_getElem?]; done) | (rw [Array.getD_eq_getD_getElem?]; congr 2; omega)
    have up : Up lt (bubble p k (k - l)) (k + 1) := by
      intro i j hij hj
      rw [g i, g j]
      repeat' split
      all_goals first | (exfalso; omega) | exact hu _ _ (by omega) (by omega) | exact r3 _ (by omega) | exact r4 _ (by omega) (by omega)
    obtain ⟨p', q1, q2, q3⟩ := run_bin f _ (k + 1) P' (by omega) up
    exact ⟨p', KRun.bind r1 q1, q2, q3⟩
theorem run_sort (hn : 1 ≤ n) : ∃ p, KRun n lt (kas_sort n) p ∧ Up lt p n ∧ p.Perm (List.toArray (List.range n)) := by
  obtain ⟨m, p, r1, r2, r3, r4, r5⟩ := run_count O (p := List.toArray (List.range n)) (.refl _) hn
  by_cases e : m < n
  · have hm : max m 1 = m := by omega
    obtain ⟨p', q1, q2, q3⟩ := run_bin O (n - m) p m r5 (by omega) r4
    refine ⟨p', KRun.bind r1 ?_, q2, q3⟩
    dsimp only
    rw [if_pos e, hm]; exact q1
  · refine ⟨p, KRun.bind r1 ?_, ?_, r5⟩
    · dsimp only
      rw [if_neg e]; rfl
    · obtain rfl : m = n := by omega
      exact r4
end
end Mine
namespace Mine
open PySem.StrLaws
def catL (Y : List Nat) : List Str → List Nat
  | [] => []
  | [p] => p.cps.toList
  | p :: q :: r => p.cps.toList ++ (Y ++ catL Y (q :: r))
theorem at_head {x y : Str} {c : Nat} {yt : List Nat} (hy : y.cps.toList = c :: yt) {k : Nat} (h : At x y x.length k) : x.cps.toList[k]? = some c := by
  have h1 := h.2
  rw [subAt_eq] at h1
  have h2 := eq_of_beq h1
  have h3 : ((x.cps.toList.drop k).take y.length)[0]? = some c := by rw [h2, hy]; rfl
  have hl : 0 < y.length := by
    have : y.length = y.cps.toList.length := by simp [Str.length]
    rw [this, hy]; simp
  rw [List.getElem?_take_of_lt hl, List.getElem?_drop] at h3
  simpa using h3
theorem split_key {x y : Str} {c : Nat} {yt : List Nat} (hy : y.cps.toList = c :: yt) : ∀ (ps : List Str) (a : Nat) (cuts : List Nat) (f : Nat), ps ≠ [] → (∀ p ∈ ps, c ∉ p.cps.toList) → x.cps.toList.drop a = catL y.cps.toList ps → a ≤ x.length →
    ChainG x y x.length a cuts f → (∀ k, f ≤ k → ¬ At x y x.length k) → partsFrom x y.length a cuts = ps := by
  have hn : x.cps.toList.length = x.length := by simp [Str.length]
  have hyl : y.cps.toList.length = y.length := by simp [Str.length]
  intro ps
  induction ps with
  | nil => intro a cuts f h; exact absurd rfl h
  | cons p ps ih =>
    intro a cuts f _ hfree hx ha hch hno
    have hp := hfree p List.mem_cons_self
    cases ps with
    | nil =>
      have hx' : x.cps.toList.drop a = p.cps.toList := hx
      cases cuts with
      | nil =>
        show [Builtin.Str.strSub x a x.length] = [p]
        congr 1
        apply Str.ext'
        apply Array.toList_inj.mp
        rw [strSub_toList, hx', List.take_of_length_le]
        rw [← hx', List.length_drop, hn]; exact Nat.le_refl _
      | cons c0 cs =>
        exfalso
        have h1 := at_head hy hch.2.1
        have h2 : (x.cps.toList.drop a)[c0 - a]? = some c := by rw [List.getElem?_drop, show a + (c0 - a) = c0 by have := hch.1; omega]; exact h1
        rw [hx'] at h2
        exact hp (List.mem_of_getElem? h2)
    | cons q r =>
      have hx' : x.cps.toList.drop a = p.cps.toList ++ (y.cps.toList ++ catL y.cps.toList (q :: r)) := hx
      have hd : x.cps.toList.drop (a + p.cps.toList.length) = y.cps.toList ++ catL y.cps.toList (q :: r) := by
        rw [← List.drop_drop, hx', List.drop_left]
      have hd2 : x.cps.toList.drop (a + p.cps.toList.length + y.length) = catL y.cps.toList (q :: r) := by
        rw [← List.drop_drop, hd, ← hyl, List.drop_left]
      have hlen : a + p.cps.toList.length + y.length ≤ x.length := by
        have h1 := congrArg List.length hx'
        rw [List.length_drop, hn, List.length_append, List.length_append, hyl] at h1
        have : 0 < y.length := by rw [← hyl, hy]; simp
        omega
      have hA : At x y x.length (a + p.cps.toList.length) := by
        refine ⟨hlen, ?_⟩
        rw [subAt_eq, hd, ← hyl, List.take_left]
        exact beq_self_eq_true _
      cases cuts with
      | nil =>
        have hf : f = a := hch
        exact absurd hA (hno _ (by omega))
      | cons c0 cs =>
        obtain ⟨h1, h2, h3, h4⟩ := hch
        have e : c0 = a + p.cps.toList.length := by
          rcases Nat.lt_trichotomy c0 (a + p.cps.toList.length) with h | h | h
          · exfalso
            have g1 := at_head hy h2
            have g2 : (x.cps.toList.drop a)[c0 - a]? = some c := by rw [List.getElem?_drop, show a + (c0 - a) = c0 by omega]; exact g1
            rw [hx', List.getElem?_append_left (by omega)] at g2
            exact hp (List.mem_of_getElem? g2)
          · exact h
          · exact absurd hA (h3 _ (by omega) h)
        subst e
        show Builtin.Str.strSub x a (a + p.cps.toList.length) :: partsFrom x y.length (a + p.cps.toList.length + y.length) cs = p :: q :: r
        have e1 : Builtin.Str.strSub x a (a + p.cps.toList.length) = p := by
          apply Str.ext'
          apply Array.toList_inj.mp
          rw [strSub_toList, hx', Nat.add_sub_cancel_left, List.take_left]
        rw [e1, ih _ cs f (by simp) (fun p' hp' => hfree p' (List.mem_cons_of_mem _ hp')) hd2 hlen h4 hno]
theorem catL_join {y : Str} : ∀ ps : List Str, (Str.join y ps).cps.toList = catL y.cps.toList ps
  | [] => rfl
  | [p] => rfl
  | p :: q :: r => by
    have := catL_join (y := y) (q :: r)
    simp only [Str.join, Str.cps_append, Array.toList_append, catL, List.append_assoc] at this ⊢
    rw [this]
/-- parts without the first sign of the separator come back from split -/
theorem split_join {y : Str} {c : Nat} {yt : List Nat} (hy : y.cps.toList = c :: yt) (hk : Builtin.Str.strKind y = 1) (ps : List Str) (hne : ps ≠ []) (hfree : ∀ p ∈ ps, c ∉ p.cps.toList) : Txt.split (Str.join y ps) y = ps := by
  have hyl : y.cps.toList.length = y.length := by simp [Str.length]
  have hy1 : 1 ≤ y.length := by rw [← hyl, hy]; simp
  obtain ⟨f, h1, h2⟩ := occ_tight (Str.join y ps) y hy1
  have key := split_key hy ps 0 _ f hne hfree (by rw [List.drop_zero]; exact catL_join ps) (Nat.zero_le _) h1 h2
  unfold Txt.split
  split
  · rename_i hc
    cases ps with
    | nil => exact absurd rfl hne
    | cons p ps =>
      cases ps with
      | nil => rfl
      | cons q r =>
        exfalso
        have hk1 : ¬ Builtin.Str.strKind (Str.join y (p :: q :: r)) < Builtin.Str.strKind y := by
          rw [hk]; unfold Builtin.Str.strKind; repeat' (first | omega | split)
        simp only [hk1, decide_false, Bool.or_false, decide_eq_true_eq] at hc
        have h3 : (Str.join y (p :: q :: r)).length = (catL y.cps.toList (p :: q :: r)).length := by rw [← catL_join]; simp [Str.length]
        rw [h3] at hc
        simp only [catL, List.length_append, hyl] at hc
        omega
  · split
    · rename_i hc
      rw [List.isEmpty_iff] at hc
      rw [hc] at key
      have e : partsFrom (Str.join y ps) y.length 0 [] = [Str.join y ps] := by
        show [Builtin.Str.strSub _ 0 _] = _
        rw [sub_whole]
      exact e.symm.trans key
    · rw [partsBetween_eq]
      exact key
end Mine
namespace Mine
section
local macro_rules | `(tactic| k_all) => `(tactic| exact all_ne_of_lt (by assumption) (by omega))
local macro_rules | `(tactic| k_mem) => `(tactic| first | (with_reducible assumption) | exact List.mem_cons_self | (refine List.mem_cons_of_mem _ ?_; k_mem))
local macro_rules | `(tactic| k_room) => `(tactic| ktr_room)
local macro_rules | `(tactic| k_units) => `(tactic| ktr_units)
local macro_rules | `(tactic| walk_at "exec Assign cons ListComp") => `(tactic| (k_here; lct_look; k_dflt (refine LCt.Assign_ListComp_T (F₀ := by k_asm) (by rfl) (by with_unfolding_all rfl) (by with_unfolding_all rfl) (by decide) (by rfl) (by decide) (by rfl) (by rfl) (by rfl) ?_); k_dflt lct_toSrc))
local macro_rules | `(tactic| walk_at "eval ListComp") => `(tactic| (k_here; lct_look; k_dflt (refine LCt.ListComp_T (F₀ := by k_asm) (by with_unfolding_all rfl) (by decide) (by rfl) (by decide) (by rfl) ?_); k_dflt lct_toSrc))
local macro_rules | `(tactic| walk_at "CompSrcT") => `(tactic| (k_here; k_dflt (first
  | (refine LCt.CompSrcT.ledger (by rfl) (by k_asm) (by k_asm) (by k_mem) (by first | size_fits | exact Nat.le_of_ble_eq_true rfl) ?_; intro g'; refine Hold.of ?_)
  | (refine LCt.CompSrcT.base (by rfl) (by k_asm) (by k_asm) (by assumption) (by first | size_fits | exact Nat.le_of_ble_eq_true rfl) ?_; intro g'; refine Hold.of ?_)
  | (refine LCt.CompSrcT.range (by rfl) (by k_asm) (by k_asm) (by assumption) (by first | decide | rfl) (by first | rfl | decide) (by first | size_fits | exact Nat.le_of_ble_eq_true rfl) ?_; intro g'; refine Hold.of ?_))))
section
local macro_rules | `(tactic| k_fmods) => `(tactic| skip)
local macro_rules | `(tactic| walk_at "CompEnd ref") => `(tactic| refine Hold.of ?_)
local macro_rules | `(tactic| walk_at "CompEnd str") => `(tactic| refine Hold.of ?_)
local macro_rules | `(tactic| walk_at "CompEnd int") => `(tactic| refine Hold.of ?_)
local macro_rules | `(tactic| walk_at "subscriptTail Name Name ref int") => `(tactic| refine Hold.of ?_)
local macro_rules | `(tactic| walk_at "compareOp Eq ref ref") => `(tactic| refine Hold.of ?_)
def bitL (b : Nat) (n : Nat) : List Nat := (List.range n).filter (fun i => b.testBit i)
def toldL (ws : List Str) (b n : Nat) : List Str := (bitL b n).map fun i => ws.getD i default
theorem toldL_yes {ws : List Str} {b i : Nat} (h : b.testBit i = true) : toldL ws b (i + 1) = toldL ws b i ++ [ws.getD i default] := by
  simp [toldL, bitL, List.range_succ, h]
theorem toldL_no {ws : List Str} {b i : Nat} (h : b.testBit i = false) : toldL ws b (i + 1) = toldL ws b i := by
  simp [toldL, bitL, List.range_succ, h]
def told (ws : List Str) (b : Nat) : Str := if (toldL ws b 5).isEmpty then Str.ofString "0x0" else Txt.join (Str.ofString ", ") (toldL ws b 5)
structure Names (nl : List (Str × Tok)) : Prop where
  len : nl.length = 5
  ok : ∀ p ∈ nl, PyData.strOk p.1 = true
  short : ∀ p ∈ nl, p.1.length ≤ 100
theorem sum_le_mul {k : Nat} : ∀ {l : List Nat}, (∀ x ∈ l, x ≤ k) → l.sum ≤ l.length * k
  | [], _ => by simp
  | a :: r, h => by
    have h1 := h a (.head _)
    have h2 := sum_le_mul fun x hx => h x (.tail _ hx)
    rw [List.sum_cons, List.length_cons, Nat.succ_mul]; omega
theorem toldL_mem {nl : List (Str × Tok)} (hN : Names nl) {b : Nat} {x : Str} (h : x ∈ toldL (nl.map (·.1)) b 5) : ∃ p ∈ nl, p.1 = x := by
  rw [toldL, List.mem_map] at h
  obtain ⟨i, hi, rfl⟩ := h
  have hi5 : i < 5 := by
    have := (List.mem_filter.mp hi).1
    simpa using this
  refine ⟨nl[i]'(by rw [hN.len]; exact hi5), List.getElem_mem _, ?_⟩
  simp [List.getD, hN.len, hi5]
theorem told_spec (w : World) (b : Nat) (tb : Tok) (l : Addr) (k : Nat) (nl : List (Str × Tok)) (hb : b < 32) (hN : Names nl) :
  Spec w 206 [.int b tb, .ref l] (fun news => (l, listOf (strValues nl).toArray k) ∈ news) (fun tl r => tl = [] ∧ ∃ t, r = .str (told (nl.map (·.1)) b) t) := by
  have hl := hN.len
  unfold Spec
  k_fill
  intro mean mg mb dp un gd cn cs a ccd cl outer A₀ base h₀ L m news s Q E B F X N T hk hdp hun hpre hret
  dsimp only at hpre hret
  refine wpAny_call ?_
  refine' code_defC ?k1 ?k2 ?k3 ?k4 ?k5 ?kA ?kF ?kK ?k6 ?k7 ?k8 ?k9 ?kB ?kD ?_ ?c2 ?c3 ?c4; (case kA => exact rfl); (case kF => exact rfl); (case kK => assumption); (case k1 => exact B); (case k2 => exact F); (case k3 => exact X); (case k4 => exact N); (case k5 => exact T); (case k6 => k_dflt k_is); (case k7 => k_dflt k_is); (case k8 => ktr_room); (case k9 => exact BindsTo.of_eq rfl); (case kB => exact rfl); (case kD => decide +kernel); (case c2 => exact rfl); (case c3 => exact rfl); (case c4 => exact rfl)
  intro g' L' h' tk' cells' FG' F' N' Y' B' X' T' l1
  dsimp only
  k_fold
  obtain ⟨o1, o2, hE', d1, d2⟩ := CellsAre.two Y'; subst hE'; clear Y'
  simp only [List.cons_append, List.nil_append] at N'
  replace d1 : o1.data = .cell (some (.ref l)) := d1
  replace d2 : o2.data = .cell (some (.int b tb)) := d2
  replace F' : Fr g' L' h' (fun y => none) := F'
  clear B F X N T FG'
  k_steps
  refine Hold.out ?_
  refine compT_ind (n := 5) (fun i ys nw => nw = (L' + 1 + 1, o1) :: (L' + 1, o2) :: news ∧ ∃ yl : List (Str × Tok), ys = strValues yl ∧ yl.map (·.1) = toldL (nl.map (·.1)) b i) ?_ ?_ ?_
  · rintro i ys nw hi ⟨rfl, yl, rfl, e⟩ v I oI C oC D m₂ h tk E' ⟨tv, rfl⟩ hC hx F' N' off ne
    have hi' : (i : Int) < 5 := by omega
    have hi0 : (0 : Int) ≤ i := by omega
    rw [Int.zero_add] at hx
    k_steps
    · refine Hold.out (item_at (vs := strValues nl) (led_list N' (by k_mem)) hi0 (by omega) (strValues_get (by omega)) ?_)
      have hbit : b.testBit i = true := bit_iff.mp (by assumption)
      refine LCg.CompEnd.intro F' N' _ (fun p hp => hp) off trivial ⟨rfl, yl ++ [(nl[i].1, nl[i].2)], by simp [strValues], ?_⟩
      rw [toldL_yes hbit, List.map_append, e]
      simp [List.getD, hl, hi]
    · have hbit : b.testBit i = false := Bool.eq_false_iff.mpr fun q => by
        have := bit_iff.mpr q
        contradiction
      exact LCg.CompEnd.intro F' N' _ (fun p hp => hp) off trivial ⟨rfl, yl, rfl, by rw [toldL_no hbit, e]⟩
  · rintro ys nw ⟨rfl, yl, rfl, e⟩
    intro D h tk F' N' o1
    k_steps
    refine Hold.out (eq_strs_nil (l := yl) (led_list (by k_asm) (by k_mem)) (led_list (vs := []) (by k_asm) (by k_mem)) (fun p hp => by obtain ⟨q, hq, eq⟩ := toldL_mem hN (e ▸ List.mem_map_of_mem (f := Prod.fst) hp); rw [← eq]; exact hN.ok q hq) (by ktr_units) ?_)
    k_steps
    · dsimp only
      refine leave_with (keep := news) (by k_asm) (by k_asm) (fun p hp => by repeat (first | exact hp | apply List.mem_cons_of_mem)) fun kF kN => ?_
      have h8 : toldL (nl.map (·.1)) b 5 = [] := by
        rw [← e]; simpa using (by assumption : yl.isEmpty = true)
      have h9 : Str.ofString "0x0" = told (nl.map (·.1)) b := by rw [told, h8]; rfl
      exact hret _ [] _ _ kF kN (fun _ _ _ h => nomatch h) ⟨rfl, _, congrArg (fun z => Value.str z _) h9⟩
    · refine join_list (led_list (by k_asm) (by k_mem)) (strsAre_of_values yl) ?_ ?_
      · have h1 : yl.length ≤ 5 := by
          have := congrArg List.length e
          rw [List.length_map] at this
          rw [this, toldL, List.length_map, bitL]
          exact Nat.le_trans (List.length_filter_le _ _) (by simp)
        have h2 : ((yl.map (·.1)).map (·.length)).sum ≤ 5 * 100 := by
          refine Nat.le_trans (sum_le_mul (k := 100) ?_) (Nat.mul_le_mul_right 100 (by simpa using h1))
          intro x hx
          rw [List.mem_map] at hx
          obtain ⟨y, hy, rfl⟩ := hx
          rw [e] at hy
          obtain ⟨p, hp, rfl⟩ := toldL_mem hN hy
          exact hN.short p hp
        rw [List.length_map]
        have h3 : (Str.ofString ", ").length = 2 := by decide +kernel
        rw [h3]; omega
      · intro t' k'
        refine leave_with (keep := news) (by k_asm) (by k_asm) (fun p hp => by repeat (first | exact hp | apply List.mem_cons_of_mem)) fun kF kN => ?_
        have h8 : (toldL (nl.map (·.1)) b 5).isEmpty = false := by
          rw [← e, List.isEmpty_map]
          first | assumption | exact Bool.eq_false_iff.mpr (by assumption) | simp_all
        have h9 : Txt.join (Str.ofString ", ") (yl.map (·.1)) = told (nl.map (·.1)) b := by rw [told, h8, e]; rfl
        exact hret _ [] _ _ kF kN (fun _ _ _ h => nomatch h) ⟨rfl, _, congrArg (fun z => Value.str z _) h9⟩
  · exact ⟨rfl, [], rfl, rfl⟩
end
section
local macro_rules | `(tactic| walk_at "call builtin:str.split") => `(tactic| refine Hold.of ?_)
local macro_rules | `(tactic| walk_at "subscriptTail Name Name ref int") => `(tactic| refine Hold.of ?_)
def bitF (ws row : List Str) (n : Nat) : List Nat := (List.range n).filter (fun i => row.contains (ws.getD i default))
theorem getD_names {nl : List (Str × Tok)} {i : Nat} (hi : i < nl.length) : (nl.map (·.1)).getD i default = (nl[i]).1 := by
  rw [List.getD_eq_getElem?_getD, List.getElem?_map, List.getElem?_eq_getElem hi]; rfl
theorem bitF_succ (ws row : List Str) (i : Nat) : bitF ws row (i + 1) = bitF ws row i ++ (if row.contains (ws.getD i default) then [i] else []) := by
  unfold bitF
  rw [List.range_succ, List.filter_append]
  cases h : row.contains (ws.getD i default) with
  | true => rw [List.filter_cons, h]; rfl
  | false => rw [List.filter_cons, h]; rfl
theorem any_contains {row : List Str} {x : Str} : (row.any fun y => y == x) = row.contains x := by
  rw [List.contains_eq_any_beq]
  congr 1; funext y
  exact Bool.beq_comm
theorem bitF_yes {nl : List (Str × Tok)} (hl : nl.length = 5) {row : List Str} {i : Nat} (hi : i < 5) {x : Str} (h : (row.any fun y => y == x) = true) (hx : x = (nl[i]'(by omega)).1 := by rfl) : bitF (nl.map (·.1)) row (i + 1) = bitF (nl.map (·.1)) row i ++ [i] := by
  rw [bitF_succ, getD_names (by omega), ← hx, ← any_contains, h]; rfl
theorem bitF_no {nl : List (Str × Tok)} (hl : nl.length = 5) {row : List Str} {i : Nat} (hi : i < 5) {x : Str} (h : (row.any fun y => y == x) = false) (hx : x = (nl[i]'(by omega)).1 := by rfl) : bitF (nl.map (·.1)) row (i + 1) = bitF (nl.map (·.1)) row i := by
  rw [bitF_succ, getD_names (by omega), ← hx, ← any_contains, h]; exact List.append_nil _
theorem intsAre_snoc3 {n : Int} {t : Tok} : ∀ {vs : List Value} {ns : List Int}, IntsAre vs ns → IntsAre (vs ++ [.int n t]) (ns ++ [n])
  | _, _, .nil => .cons n t .nil
  | _, _, .cons m u r => .cons m u (intsAre_snoc3 r)
theorem flags_spec (w : World) (x : Str) (tx : Tok) (l : Addr) (k : Nat) (nl : List (Str × Tok)) (hx : x.length ≤ 1000) (hl : nl.length = 5) :
  Spec w 211 [.str x tx, .ref l] (fun news => (l, listOf (strValues nl).toArray k) ∈ news) (fun tl r => tl = [] ∧ ∃ t, r = .int ((bitF (nl.map (·.1)) (Txt.split x (Str.ofString ", "))  5).map fun (k : Nat) => (2 : Int) ^ k).sum t) := by
  unfold Spec
  k_fill
  intro mean mg mb dp un gd cn cs a ccd cl outer A₀ base h₀ L m news s Q E B F X N T hk hdp hun hpre hret
  dsimp only at hpre hret
  refine wpAny_call ?_
  refine' code_defC ?k1 ?k2 ?k3 ?k4 ?k5 ?kA ?kF ?kK ?k6 ?k7 ?k8 ?k9 ?kB ?kD ?_ ?c2 ?c3 ?c4; (case kA => exact rfl); (case kF => exact rfl); (case kK => assumption); (case k1 => exact B); (case k2 => exact F); (case k3 => exact X); (case k4 => exact N); (case k5 => exact T); (case k6 => k_dflt k_is); (case k7 => k_dflt k_is); (case k8 => ktr_room); (case k9 => exact BindsTo.of_eq rfl); (case kB => exact rfl); (case kD => decide +kernel); (case c2 => exact rfl); (case c3 => exact rfl); (case c4 => exact rfl)
  intro g' L' h' tk' cells' FG' F' N' Y' B' X' T' l1
  dsimp only
  k_fold
  obtain ⟨o1, o2, hE', d1, d2⟩ := CellsAre.two Y'; subst hE'; clear Y'
  simp only [List.cons_append, List.nil_append] at N'
  replace d1 : o1.data = .cell (none) := d1
  replace d2 : o2.data = .cell (some (.ref l)) := d2
  replace F' : Fr g' L' h' (fun y => if y = Str.ofString "words" then some (.str x tx) else none) := F'
  clear B F X N T FG'
  k_steps
  refine Hold.out (KSpl.split1 (by k_asm) (by k_asm) (by decide) ?_ (by rw [sizeLine_eq]; omega))
  intro D pl h₁ k₁ e₁ a₁ F₁ N₁ l₁
  k_lt l₁
  k_steps
  rename Obj => o3
  refine Hold.out ?_
  refine compT_ind (n := 5) (fun i ys nw => nw = (D, listOf (strValues pl).toArray 0) :: (L' + 1 + 1, o3) :: (L' + 1, o2) :: news ∧ ∃ yl : List Value, ys = yl ∧ IntsAre yl ((bitF (nl.map (·.1)) (pl.map (·.1)) i).map fun (k : Nat) => (2 : Int) ^ k)) ?_ ?_ ?_
  · rintro i ys nw hi ⟨rfl, yl, rfl, e⟩ v I oI C oC D m₂ h tk E' ⟨tv, rfl⟩ hC hx F' N' off ne
    have hi' : (i : Int) < 5 := by omega
    have hi0 : (0 : Int) ≤ i := by omega
    rw [Int.zero_add] at hx
    k_steps
    refine Hold.out (item_at (vs := strValues nl) (led_list N' (by k_mem)) hi0 (by omega) (strValues_get (by omega)) ?_)
    k_steps
    · have hbit : bitF (nl.map (·.1)) (pl.map (·.1)) (i + 1) = bitF (nl.map (·.1)) (pl.map (·.1)) i ++ [i] := bitF_yes hl hi (by assumption)
      refine LCg.CompEnd.intro F' N' _ (fun p hp => hp) off trivial ⟨rfl, _, rfl, ?_⟩
      rw [hbit, List.map_append]
      exact intsAre_snoc3 e
    · have hbit : bitF (nl.map (·.1)) (pl.map (·.1)) (i + 1) = bitF (nl.map (·.1)) (pl.map (·.1)) i := bitF_no hl hi (by assumption)
      exact LCg.CompEnd.intro F' N' _ (fun p hp => hp) off trivial ⟨rfl, _, rfl, by rw [hbit]; exact e⟩
  · rintro ys nw ⟨rfl, yl, rfl, e⟩
    intro D9 h tk F' N' o1
    k_steps
    refine leave_with (keep := news) (by k_asm) (by k_asm) (fun p hp => by repeat (first | exact hp | apply List.mem_cons_of_mem)) fun kF kN => ?_
    exact hret _ [] _ _ kF kN (fun _ _ _ h => nomatch h) ⟨rfl, _, by rw [e₁]⟩
  · exact ⟨rfl, [], rfl, .nil⟩
end
end
section
local macro_rules | `(tactic| k_all) => `(tactic| exact all_ne_of_lt (by assumption) (by omega))
local macro_rules | `(tactic| k_mem) => `(tactic| first | (with_reducible assumption) | exact List.mem_cons_self | (refine List.mem_cons_of_mem _ ?_; k_mem))
local macro_rules | `(tactic| k_room) => `(tactic| ktr_room)
local macro_rules | `(tactic| k_units) => `(tactic| ktr_units)
local macro_rules | `(tactic| walk_at "eval Name") => `(tactic| (k_here; k_dflt (refine' nameX_L ?F ?v ?_ ?a ?b; (case F => k_asm); (case a => rfl); (case b => rfl); (case v => first | with_reducible assumption | exact rfl | ((repeat (refine (if_neg (by decide)).trans ?_)); first | assumption | exact if_pos rfl)); k_whole)))
local macro_rules | `(tactic| walk_at "exec Assign cons ListComp") => `(tactic| (k_here; k_dflt (refine Assign_ListComp_pair (by k_asm) (by rfl) (by with_unfolding_all rfl) (by with_unfolding_all rfl) (by decide) (by rfl) (by decide) (by rfl) (by rfl) (by decide) (by rfl) (by rfl) ?_); refine Hold.of ?_))
local macro_rules | `(tactic| walk_at "exec For") => `(tactic| refine Hold.of ?_)
section
local macro_rules | `(tactic| walk_at "call builtin:str.split") => `(tactic| refine Hold.of ?_)
theorem rule_spec (w : World) (x : Str) (tx : Tok) (p q n r g z : Str) (hx : x.length ≤ 2000) (h1 : Txt.split x (Str.ofString "\"") = [q, n, r, g, z]) (hq : q.length ≤ 2000) (h2 : ∃ tl, Txt.split q (Str.ofString ";") = p :: tl) :
  Spec w 225 [.str x tx] (fun _ => True) (fun tl v => ∃ l t1 t2 t3, v = .ref l ∧ tl = [(l, listOf #[.str p t1, .str n t2, .str g t3] 0)]) := by
  unfold Spec
  k_fill
  intro mean mg mb dp un gd cn cs a ccd cl outer A₀ base h₀ L m news s Q E B F X N T hk hdp hun hpre hret
  dsimp only at hpre hret
  refine wpAny_call ?_
  refine' code_def ?k1 ?k2 ?k3 ?k4 ?k5 ?kA ?kF ?kK ?k6 ?k7 ?k8 ?k9 ?kB ?_ ?c2 ?c3 ?c4 ?c5; (case kA => exact rfl); (case kF => exact rfl); (case kK => assumption); (case k1 => exact B); (case k2 => exact F); (case k3 => exact X); (case k4 => exact N); (case k5 => exact T); (case k6 => k_dflt k_is); (case k7 => k_dflt k_is); (case k8 => ktr_room); (case k9 => exact BindsTo.of_eq rfl); (case c5 => decide); (case kB => exact locs rfl); (case c2 => exact rfl); (case c3 => exact rfl); (case c4 => exact rfl)
  intro g' L' h' FG' F' N' B' X' T'
  dsimp only
  k_fold
  replace F' : Fr g' L' h' (fun y => List.lookup y [(Str.ofString "text", .str x tx)]) := F'
  replace F' : Fr g' L' h' (fun y => if y = Str.ofString "text" then some (.str x tx) else none) := by simpa only [lookup_ite, lookup_ite_nil] using F'
  clear B F X N T FG'
  k_steps
  refine Hold.out (KSpl.split1 (by k_asm) (by k_asm) (by decide) ?_ (by rw [sizeLine_eq]; omega))
  intro D pl h₁ k₁ e₁ a₁ F₁ N₁ l₁
  try k_lt l₁
  rw [h1] at e₁
  kspl_open e₁
  clear e₁ a₁
  k_steps
  refine Hold.out (KSpl.split1 (by k_asm) (by k_asm) (by decide) ?_ (by rw [sizeLine_eq]; omega))
  intro D2 pl2 h₂ k₂ e₂ a₂ F₂ N₂ l₂
  try k_lt l₂
  obtain ⟨tl, h2⟩ := h2
  rw [h2] at e₂
  obtain ⟨_, _, ksplR, ksplE⟩ := KSpl.cons_of e₂
  subst ksplR
  simp only [strValues, List.map_cons] at N₂
  k_steps
  refine leave_with (keep := _ :: news) (by k_asm) (by k_asm) (List.forall_mem_cons.mpr ⟨List.mem_cons_self, fun p hp => by repeat (first | exact hp | apply List.mem_cons_of_mem)⟩) fun kF kN => ?_
  refine hret _ [_] _ _ kF kN ?_ ⟨_, _, _, _, rfl, rfl⟩
  intro p hp q hq
  rw [List.mem_singleton.mp hq]
  exact allLt_mem (And.right (And.right (by assumption))) p hp
end
section
abbrev tupOf (its : Array Value) (n : Nat) : Obj := { cls := .type "tuple", data := .seq its n }
/-- the pairs of ints that a list's items are, in the ledger -/
def RulesIn (news : List (Addr × Obj)) : List Value → List (Nat × Nat) → Prop
  | [], [] => True
  | v :: vs, r :: rs => (∃ T k ta tb, v = .ref T ∧ (T, tupOf #[.int (r.1 : Int) ta, .int (r.2 : Int) tb] k) ∈ news) ∧ RulesIn news vs rs
  | _, _ => False
theorem RulesIn.length {news : List (Addr × Obj)} {vs : List Value} {rs : List (Nat × Nat)} (h : RulesIn news vs rs) : vs.length = rs.length := by
  induction vs generalizing rs with
  | nil => cases rs with
    | nil => rfl
    | cons _ _ => exact h.elim
  | cons v vs ih => cases rs with
    | nil => exact h.elim
    | cons r rs =>
      have := ih h.2
      simp only [List.length_cons, this]
theorem RulesIn.get {news : List (Addr × Obj)} {vs : List Value} {rs : List (Nat × Nat)} {i : Nat} {v : Value} (h : RulesIn news vs rs) (e : vs[i]? = some v) : ∃ r, rs[i]? = some r ∧ ∃ T k ta tb, v = .ref T ∧ (T, tupOf #[.int (r.1 : Int) ta, .int (r.2 : Int) tb] k) ∈ news := by
  induction vs generalizing rs i with
  | nil => cases e
  | cons v vs ih => cases rs with
    | nil => exact h.elim
    | cons r rs => cases i with
      | zero => cases e; exact ⟨_, rfl, h.1⟩
      | succ i =>
        obtain ⟨r', h1, h2⟩ := ih (i := i) h.2 (by simpa using e)
        exact ⟨r', by simpa using h1, h2⟩
theorem RulesIn.mono {news news' : List (Addr × Obj)} (hs : ∀ p ∈ news, p ∈ news') {vs : List Value} {rs : List (Nat × Nat)} (h : RulesIn news vs rs) : RulesIn news' vs rs := by
  induction vs generalizing rs with
  | nil => cases rs with
    | nil => trivial
    | cons _ _ => exact h.elim
  | cons v vs ih => cases rs with
    | nil => exact h.elim
    | cons r rs =>
      obtain ⟨⟨T, k, ta, tb, e, hm⟩, q⟩ := h
      exact ⟨⟨T, k, ta, tb, e, hs _ hm⟩, ih q⟩
def lack (a r : Nat) : Nat := a &&& (31 ^^^ r)
theorem lack_is : ∀ a : Nat, a < 32 → ∀ r : Nat, r < 32 → Builtin.bitAnd (a : Int) (Builtin.bitNot (r : Int)) = (lack a r : Int) := by decide +kernel
theorem and_is : ∀ a : Nat, a < 32 → ∀ r : Nat, r < 32 → Builtin.bitAnd (a : Int) (r : Int) = ((a &&& r : Nat) : Int) := by decide +kernel
def brk (i : Nat) (r : Nat × Nat) : Bool := lack r.1 i == 0 && lack r.2 i != 0
def leastTo (rs : List (Nat × Nat)) : Nat → Nat
  | 0 => 31
  | n + 1 => if (rs.any (brk n)) = false then leastTo rs n &&& n else leastTo rs n
theorem leastTo_lt (rs : List (Nat × Nat)) : ∀ n, leastTo rs n < 32
  | 0 => show 31 < 32 by decide
  | n + 1 => by
    unfold leastTo
    split
    · exact Nat.lt_of_le_of_lt Nat.and_le_left (leastTo_lt rs n)
    · exact leastTo_lt rs n
theorem brk_no1 {i : Nat} {r : Nat × Nat} (hi : i < 32) (h1 : r.1 < 32) (h : Builtin.bitAnd (r.1 : Int) (Builtin.bitNot (i : Int)) ≠ 0) : brk i r = false := by
  rw [lack_is _ h1 _ hi] at h
  have : lack r.1 i ≠ 0 := by omega
  simp [brk, this]
theorem brk_no2 {i : Nat} {r : Nat × Nat} (hi : i < 32) (h1 : r.2 < 32) (h : Builtin.bitAnd (r.2 : Int) (Builtin.bitNot (i : Int)) = 0) : brk i r = false := by
  rw [lack_is _ h1 _ hi] at h
  have : lack r.2 i = 0 := by omega
  simp [brk, this]
theorem brk_yes {i : Nat} {r : Nat × Nat} (hi : i < 32) (h1 : r.1 < 32) (h2 : r.2 < 32) (h : Builtin.bitAnd (r.1 : Int) (Builtin.bitNot (i : Int)) = 0) (h' : Builtin.bitAnd (r.2 : Int) (Builtin.bitNot (i : Int)) ≠ 0) : brk i r = true := by
  rw [lack_is _ h1 _ hi] at h
  rw [lack_is _ h2 _ hi] at h'
  have e1 : lack r.1 i = 0 := by omega
  have e2 : lack r.2 i ≠ 0 := by omega
  simp [brk, e1, e2]
theorem take_filter_yes {rs : List (Nat × Nat)} {j : Nat} {r : Nat × Nat} {p : Nat × Nat → Bool} (h : rs[j]? = some r) (hp : p r = true) : (rs.take (j + 1)).filter p = (rs.take j).filter p ++ [r] := by
  rw [List.take_add_one, h, List.filter_append]; simp [hp]
theorem take_filter_no {rs : List (Nat × Nat)} {j : Nat} {r : Nat × Nat} {p : Nat × Nat → Bool} (h : rs[j]? = some r) (hp : p r = false) : (rs.take (j + 1)).filter p = (rs.take j).filter p := by
  rw [List.take_add_one, h, List.filter_append]; simp [hp]
theorem intsAre_snoc {n : Int} {t : Tok} {vs : List Value} {ns : List Int} (h : IntsAre vs ns) : IntsAre (vs ++ [.int n t]) (ns ++ [n]) := by
  induction h with
  | nil => exact .cons n t .nil
  | cons m u r ih => exact .cons m u ih
theorem take_all {vs : List Value} {rs : List (Nat × Nat)} (h : vs.length = rs.length) : rs.take vs.toArray.size = rs := by
  rw [List.size_toArray, h, List.take_length]
theorem least_spec (w : World) (l : Addr) (vs : List Value) (rs : List (Nat × Nat)) (k : Nat) (hx : vs.length ≤ 11) (h32 : ∀ r ∈ rs, r.1 < 32 ∧ r.2 < 32) :
  Spec w 230 [.ref l] (fun news => (l, listOf vs.toArray k) ∈ news ∧ RulesIn news vs rs) (fun tl r => tl = [] ∧ ∃ t, r = .int (leastTo rs 32 : Int) t) := by
  unfold Spec
  k_fill
  intro mean mg mb dp un gd cn cs a ccd cl outer A₀ base h₀ L m news s Q E B F X N T hk hdp hun hpre hret
  dsimp only at hpre hret
  refine wpAny_call ?_
  refine' code_defC ?k1 ?k2 ?k3 ?k4 ?k5 ?kA ?kF ?kK ?k6 ?k7 ?k8 ?k9 ?kB ?kD ?_ ?c2 ?c3 ?c4; (case kA => exact rfl); (case kF => exact rfl); (case kK => assumption); (case k1 => exact B); (case k2 => exact F); (case k3 => exact X); (case k4 => exact N); (case k5 => exact T); (case k6 => k_dflt k_is); (case k7 => k_dflt k_is); (case k8 => ktr_room); (case k9 => exact BindsTo.of_eq rfl); (case kB => exact rfl); (case kD => decide +kernel); (case c2 => exact rfl); (case c3 => exact rfl); (case c4 => exact rfl)
  intro g' L' h' tk' cells' FG' F' N' Y' B' X' T' l1
  dsimp only
  k_fold
  obtain ⟨o1, hE', d1⟩ := CellsAre.one Y'; subst hE'; clear Y'
  simp only [List.cons_append, List.nil_append] at N'
  replace d1 : o1.data = .cell (none) := d1
  replace F' : Fr g' L' h' (fun y => if y = Str.ofString "rules" then some (.ref l) else none) := F'
  clear B F X N T FG'
  obtain ⟨hl, hr⟩ := hpre
  k_steps
  refine Hold.out (for_src ?_)
  k_steps
  refine for_range (n := 32) (fun i m nw => ∃ o t c, nw = (L' + 1, o) :: news ∧ o.data = .cell c ∧ m (Str.ofString "rules") = some (.ref l) ∧ m (Str.ofString "least") = some (.int (leastTo rs i : Int) t)) (by rfl) (by assumption) (by decide) (by decide) (by k_asm) (by k_asm) ⟨_, _, _, rfl, d1, rfl, rfl⟩ ?_ ?_
  · rintro i t₁ m₁ nw h tk I oI E' hi ⟨o, t, c, rfl, hc, hm1, hm2⟩ F₁ N₁ off
    have hI : @Ne Nat (L' + 1) I := off _ List.mem_cons_self
    have hI2 : ∀ p ∈ news, p.1 ≠ I := fun p hp => off p (List.mem_cons_of_mem _ hp)
    rw [Int.zero_add]
    k_steps
    refine Hold.out ?_
    k_steps
    rename Obj => o₂
    rename Fr _ _ _ _ => F₂
    rename News _ _ _ _ => N₂
    rename (Obj.data _ = Data.cell _) => d₂
    refine ⟨l, vs.toArray, fun nw => nw = (I, oI) :: (L' + 1, o₂) :: news, fun i a b => ∃ r, rs[i]? = some r ∧ ∃ ta tb, a = .int (r.1 : Int) ta ∧ b = .int (r.2 : Int) tb, _, fun j ys nw => nw = (I, oI) :: (L' + 1, o₂) :: news ∧ IntsAre ys (((rs.take j).filter (brk i)).map fun _ => 1), rfl, by rfl, F₂, N₂, ?_, ?_, ?_, rfl, ⟨rfl, .nil⟩, ?_⟩
    · rw [List.size_toArray, sizeLine_eq]; omega
    · rintro nw rfl
      exact .inr ⟨_, List.mem_cons_of_mem _ (List.mem_cons_of_mem _ hl), rfl, _, rfl⟩
    · rintro j v h nw hv hk N rfl
      obtain ⟨r, hr1, T, k, ta, tb, rfl, hm⟩ := hr.get (i := j) (v := v) (by simpa using hv)
      exact ⟨T, _, _, rfl, ⟨_, (N _ (List.mem_cons_of_mem _ (List.mem_cons_of_mem _ hm))).1, rfl, _, rfl⟩, r, hr1, _, _, rfl, rfl⟩
    · rintro s₂ ⟨g, rfl⟩
      refine ⟨?_, ?_⟩
      · rintro j ys nw hj ⟨rfl, hg⟩ a b I₂ oI₂ C oC D m₂ h tk E'' ⟨r, hr1, ta, tb, rfl, rfl⟩ hC hx hy F₃ N₃ off₃ ne
        obtain ⟨hr32, hr32'⟩ := h32 r (List.mem_of_getElem? hr1)
        k_steps
        · refine LCg.CompEnd.intro F₃ N₃ _ (fun p hp => hp) off₃ rfl ⟨rfl, ?_⟩
          rw [take_filter_yes hr1 (brk_yes hi hr32 hr32' (by assumption) (by assumption)), List.map_append]
          exact intsAre_snoc hg
        · refine LCg.CompEnd.intro F₃ N₃ _ (fun p hp => hp) off₃ rfl ⟨rfl, ?_⟩
          rw [take_filter_no hr1 (brk_no2 hi hr32' (by assumption))]; exact hg
        · refine LCg.CompEnd.intro F₃ N₃ _ (fun p hp => hp) off₃ rfl ⟨rfl, ?_⟩
          rw [take_filter_no hr1 (brk_no1 hi hr32 (by assumption))]; exact hg
      · rintro ys nw ⟨rfl, hg⟩
        intro D h tk F' N' o1
        k_steps
        · have hb : (rs.any (brk i)) = false := by
            have hq := of_decide_eq_true (by assumption)
            rw [take_all hr.length, List.map_eq_nil_iff] at hq
            rw [Bool.eq_false_iff]
            intro q
            obtain ⟨r, hr1, hr2⟩ := List.any_eq_true.mp q
            have := List.mem_filter.mpr ⟨hr1, hr2⟩
            rw [hq] at this; cases this
          have e1 : (leastTo rs (i + 1) : Int) = Builtin.bitAnd (leastTo rs i : Int) (i : Int) := by
            rw [and_is _ (leastTo_lt rs i) _ hi, leastTo, if_pos hb]
          exact TurnPost.next (nw' := (L' + 1, o₂) :: news) (by k_asm) (cb_drop (by k_asm) (fun p hp => by repeat (first | exact hp | apply List.mem_cons_of_mem))) (List.forall_mem_cons.mpr ⟨hI, hI2⟩) trivial ⟨_, _, _, rfl, d₂, by exact (if_neg (by decide)).trans ((if_neg (by decide)).trans hm1), (if_pos rfl).trans (congrArg (fun z => some (Value.int z _)) e1.symm)⟩
        · have hb : ¬ (rs.any (brk i)) = false := by
            intro q
            have hq := of_decide_eq_false (by assumption)
            refine hq ?_
            rw [take_all hr.length, List.map_eq_nil_iff, List.filter_eq_nil_iff]
            intro r hr1 hr2
            rw [List.any_eq_true.mpr ⟨r, hr1, hr2⟩] at q; cases q
          have e1 : leastTo rs (i + 1) = leastTo rs i := by rw [leastTo, if_neg hb]
          refine TurnPost.next (nw' := (L' + 1, o₂) :: news) (by k_asm) (cb_drop (by k_asm) (fun p hp => by repeat (first | exact hp | apply List.mem_cons_of_mem))) (List.forall_mem_cons.mpr ⟨hI, hI2⟩) trivial ⟨_, t, _, rfl, d₂, ?_, ?_⟩
          · exact (if_neg (by decide)).trans hm1
          · rw [e1]; exact (if_neg (by decide)).trans hm2
  · rintro m' nw h tk E' ⟨o, t, c, rfl, hc, hm1, hm2⟩ F₁ N₁
    k_steps
    dsimp only
    refine leave_with (keep := news) F₁ N₁ (fun p hp => by repeat (first | exact hp | apply List.mem_cons_of_mem)) fun kF kN => ?_
    exact hret _ [] _ _ kF kN (fun _ _ _ h => nomatch h) ⟨rfl, t, rfl⟩
end
section
local macro_rules | `(tactic| walk_at "loadName") => `(tactic| (k_here; k_dflt (refine' wpAny_loadName_local ?a ?b (Fr.ns ?F) ?v ?_; (case F => k_asm); (case a => rfl); (case b => rfl); (case v => first | with_reducible assumption | exact rfl | ((repeat (refine (if_neg (by decide)).trans ?_)); first | assumption | exact if_pos rfl)); k_whole)))
section
local macro_rules | `(tactic| walk_at "call builtin:hex") => `(tactic| refine Hold.of ?_)
def bt (x n : Nat) : List Str := ((List.range n).filter x.testBit).map wd
theorem bt_succ (x n : Nat) : bt x (n + 1) = bt x n ++ (if x.testBit n then [wd n] else []) := by
  unfold bt
  rw [List.range_succ, List.filter_append, List.map_append, List.filter_cons]
  cases x.testBit n <;> rfl
theorem bt_more {x n : Nat} (h : ∀ j, n ≤ j → x.testBit j = false) (m : Nat) (hm : n ≤ m) : bt x m = bt x n := by
  induction m with
  | zero => rw [Nat.le_zero.mp hm]
  | succ m ih =>
    rcases Nat.lt_or_ge m n with hlt | hge
    · rw [show m + 1 = n by omega]
    · rw [bt_succ, h m hge, ih hge]; simp
theorem rem_zero_bits {x n : Nat} (h : rem x n = 0) : ∀ j, n ≤ j → x.testBit j = false := by
  intro j hj
  have h1 : x / 2 ^ n = 0 := by
    have := Nat.mul_eq_zero.mp (show x / 2 ^ n * 2 ^ n = 0 from h)
    rcases this with q | q
    · exact q
    · exact absurd q (Nat.ne_of_gt (Nat.two_pow_pos n))
  have h2 : x < 2 ^ n := by
    have := Nat.lt_of_div_eq_zero (Nat.two_pow_pos n) h1
    exact this
  exact Nat.testBit_lt_two_pow (Nat.lt_of_lt_of_le h2 (Nat.pow_le_pow_right (by decide) hj))
theorem wd_len : ∀ i : Nat, i < 15 → (wd i).length ≤ 100 := by decide +kernel
theorem sum_le_mul' {k : Nat} : ∀ {l : List Nat}, (∀ x ∈ l, x ≤ k) → l.sum ≤ l.length * k
  | [], _ => by simp
  | a :: l, h => by
    have h1 := h a List.mem_cons_self
    have h2 := sum_le_mul' (l := l) fun x hx => h x (List.mem_cons_of_mem _ hx)
    rw [List.sum_cons, List.length_cons, Nat.succ_mul]; omega
theorem bt_mem {x n : Nat} {y : Str} (h : y ∈ bt x n) : ∃ i, i < n ∧ y = wd i := by
  unfold bt at h
  rw [List.mem_map] at h
  obtain ⟨i, hi, rfl⟩ := h
  exact ⟨i, List.mem_range.mp (List.mem_filter.mp hi).1, rfl⟩
theorem bt_length (x n : Nat) : (bt x n).length ≤ n := by
  unfold bt
  rw [List.length_map]
  exact Nat.le_trans (List.length_filter_le _ _) (by simp)
theorem bt_join {x n : Nat} {l : List Str} (e : l = bt x n) (hn : n ≤ 15) : (l.map (·.length)).sum + l.length * (Str.ofString ", ").length ≤ sizeLine := by
  subst e
  have h1 := bt_length x n
  have h2 : ((bt x n).map (·.length)).sum ≤ 15 * 100 := by
    refine Nat.le_trans (sum_le_mul' (k := 100) ?_) (Nat.mul_le_mul_right 100 (by rw [List.length_map]; omega))
    intro z hz
    rw [List.mem_map] at hz
    obtain ⟨y, hy, rfl⟩ := hz
    obtain ⟨i, hi, rfl⟩ := bt_mem hy
    exact wd_len i (by omega)
  have h3 : (Str.ofString ", ").length = 2 := by decide +kernel
  rw [h3, sizeLine_eq]; omega
def flagsText (x : Nat) : Str := if x = 0 then Str.ofString "0x0" else Txt.join (Str.ofString ", ") (bt x 15)
theorem pretty_spec (w : World) (x : Nat) (tx : Tok) (hx : x < 2 ^ 15) :
  Spec w 46 [.int (x : Int) tx] (fun news => True) (fun tl r => tl = [] ∧ ∃ t, r = .str (flagsText x) t) := by
  unfold Spec
  k_fill
  intro mean mg mb dp un gd cn cs a ccd cl outer A₀ base h₀ L m news s Q E B F X N T hk hdp hun hpre hret
  dsimp only at hpre hret
  refine wpAny_call ?_
  refine' code_def ?k1 ?k2 ?k3 ?k4 ?k5 ?kA ?kF ?kK ?k6 ?k7 ?k8 ?k9 ?kB ?_ ?c2 ?c3 ?c4 ?c5; (case kA => exact rfl); (case kF => exact rfl); (case kK => assumption); (case k1 => exact B); (case k2 => exact F); (case k3 => exact X); (case k4 => exact N); (case k5 => exact T); (case k6 => k_dflt k_is); (case k7 => k_dflt k_is); (case k8 => ktr_room); (case k9 => exact BindsTo.of_eq rfl); (case c5 => decide); (case kB => exact locs rfl); (case c2 => exact rfl); (case c3 => exact rfl); (case c4 => exact rfl)
  intro g' L' h' FG' F' N' B' X' T'
  dsimp only
  k_fold
  replace F' : Fr g' L' h' (fun y => List.lookup y [(Str.ofString "flags", .int (x : Int) tx)]) := F'
  replace F' : Fr g' L' h' (fun y => if y = Str.ofString "flags" then some (.int (x : Int) tx) else none) := by simpa only [lookup_ite, lookup_ite_nil] using F'
  clear B F X N T FG'
  k_steps
  rename_i l lA hB F2 N2 tk2
  refine Hold.out (for_src ?_)
  k_steps
  refine for_range (n := 32) (fun i m nw => ∃ yl k t, nw = (l, listOf (strValues yl).toArray k) :: news ∧ m (Str.ofString "names") = some (.ref l) ∧ m (Str.ofString "flags") = some (.int (rem x i : Int) t) ∧ yl.map (·.1) = bt x i ∧ (i = 0 ∨ rem x i ≠ 0 ∨ x = 0)) (by rfl) (by assumption) (by decide) (by decide) (by k_asm) (by k_asm) ⟨[], 0, tx, rfl, rfl, by rw [show rem x 0 = x by simp [rem]]; rfl, rfl, .inl rfl⟩ ?_ ?_
  · rintro i t₁ m₁ nw h tk I oI E' hi ⟨yl, kl, t, rfl, hm1, hm2, hyl, hrem⟩ F₁ N₁ off
    have hI : @Ne Nat l I := off _ List.mem_cons_self
    have hI2 : ∀ p ∈ news, p.1 ≠ I := fun p hp => off p (List.mem_cons_of_mem _ hp)
    have hi32 : (i : Int) < 32 := by omega
    have hi0 : (0 : Int) ≤ i := by omega
    rw [Int.zero_add]
    k_steps
    · have hb : x.testBit i = true := by
        have q : Builtin.bitAnd (rem x i : Int) (1 * 2 ^ (i : Int).toNat) ≠ 0 := by assumption
        rw [and_rem] at q
        cases e : x.testBit i with
        | true => rfl
        | false => rw [e] at q; exact absurd rfl q
      have hi15 : i < 15 := bit_lt hx hb
      have hyl5 : yl.length ≤ 32 := by
        have := congrArg List.length hyl
        rw [List.length_map] at this
        rw [this, bt, List.length_map]
        exact Nat.le_trans (List.length_filter_le _ _) (by simp; omega)
      refine Hold.out (P.hex_of_int ?_ (hex_len i hi15))
      walk1
      refine cut_str (wd i) ?_ ?_
      · k_steps
        all_goals refine Hold.out ⟨_, _, congrArg (fun z => Value.str z _) ?_, rfl⟩
        · rw [pow_wd (k := 0) (j := i) (by assumption) rfl]; decide +kernel
        · rw [pow_wd (k := 1) (j := i) (by assumption) rfl]; decide +kernel
        · rw [pow_wd (k := 2) (j := i) (by assumption) rfl]; decide +kernel
        · rw [pow_wd (k := 3) (j := i) (by assumption) rfl]; decide +kernel
        · rw [pow_wd (k := 4) (j := i) (by assumption) rfl]; decide +kernel
        · rw [pow_wd (k := 5) (j := i) (by assumption) rfl]; decide +kernel
        · rw [pow_wd (k := 6) (j := i) (by assumption) rfl]; decide +kernel
        · rw [pow_wd (k := 7) (j := i) (by assumption) rfl]; decide +kernel
        · rw [pow_wd (k := 8) (j := i) (by assumption) rfl]; decide +kernel
        · rw [pow_wd (k := 9) (j := i) (by assumption) rfl]; decide +kernel
        · exact hex_wd i hi15 (ge_ten (by assumption) (by assumption) (by assumption) (by assumption) (by assumption) (by assumption) (by assumption) (by assumption) (by assumption) (by assumption))
      · intro t₉ tk₉
        k_steps
        k_dflt (refine' append_K ?k1 ?k2 ?k3 ?_ ?z; (case k1 => k_asm); (case k2 => k_asm); (case k3 => k_upd); (case z => first | (simp only [strValues, List.size_toArray, List.length_map, sizeLine_eq]; omega) | skip))
        intro h₉ F₉ N₉
        simp only [push_strs] at N₉
        k_steps
        · have hx0 : (rem x (i + 1) : Int) ≠ 0 := by rw [← xor_rem x i hb]; assumption
          rename_i F₇ N₇ _
          refine TurnPost.next F₇ N₇ (by intro p hp; rcases List.mem_cons.mp hp with rfl | hp; exact hI; exact hI2 p hp) trivial ⟨yl ++ [(wd i, t₉)], _, _, rfl, (if_neg (by decide)).trans ((if_neg (by decide)).trans ((if_neg (by decide)).trans hm1)), (if_pos rfl).trans (congrArg (fun z => some (Value.int z _)) (xor_rem x i hb)), ?_, .inr (.inl ?_)⟩
          · rw [List.map_append, hyl, bt_succ, hb]; rfl
          · intro q; exact hx0 (by rw [q]; rfl)
        · have hx0 : rem x (i + 1) = 0 := by
            have q : (rem x (i + 1) : Int) = 0 := by rw [← xor_rem x i hb]; assumption
            exact_mod_cast q
          dsimp only [TurnPost]
          k_steps
          have hne : x ≠ 0 := by rintro rfl; rw [Nat.zero_testBit] at hb; cases hb
          have hz : bt x 15 = bt x (i + 1) := bt_more (rem_zero_bits hx0) 15 (by omega)
          have h9 : Txt.join (Str.ofString ", ") ((yl ++ [(wd i, t₉)]).map (·.1)) = flagsText x := by
            rw [flagsText, if_neg hne, hz, bt_succ, hb, List.map_append, hyl]; rfl
          refine join_list (led_list (by k_asm) (by k_mem)) (strsAre_of_values _) ?_ ?_
          · exact bt_join (by rw [List.map_append, hyl]; exact (by rw [bt_succ, hb]; rfl : bt x i ++ List.map (·.1) [(wd i, t₉)] = bt x (i + 1))) (by omega)
          · intro t' k'
            refine leave_with (keep := news) (by k_asm) (by k_asm) (fun p hp => by repeat (first | exact hp | apply List.mem_cons_of_mem)) fun kF kN => ?_
            exact hret _ [] _ _ kF kN (fun _ _ _ h => nomatch h) ⟨rfl, _, congrArg (fun z => Value.str z _) h9⟩
    · have hb : x.testBit i = false := by
        have q : Builtin.bitAnd (rem x i : Int) (1 * 2 ^ (i : Int).toNat) = 0 := by assumption
        rw [and_rem] at q
        cases e : x.testBit i with
        | false => rfl
        | true =>
          rw [e, if_pos rfl] at q
          exact absurd (by exact_mod_cast q : 2 ^ i = 0) (Nat.ne_of_gt (Nat.two_pow_pos i))
      have hs : rem x (i + 1) = rem x i := by have := rem_succ x i; rw [hb] at this; simpa using this
      rename_i F₇ N₇ _
      refine TurnPost.next F₇ N₇ (by intro p hp; rcases List.mem_cons.mp hp with rfl | hp; exact hI; exact hI2 p hp) trivial ⟨yl, kl, t, rfl, (if_neg (by decide)).trans ((if_neg (by decide)).trans hm1), (if_neg (by decide)).trans ((if_neg (by decide)).trans (hs ▸ hm2)), ?_, ?_⟩
      · rw [hyl, bt_succ, hb]; exact (List.append_nil _).symm
      · rcases hrem with h0 | h0 | h0
        · subst h0
          by_cases hx0 : x = 0
          · exact .inr (.inr hx0)
          · exact .inr (.inl (by rw [hs]; simpa [rem] using hx0))
        · exact .inr (.inl (by rw [hs]; exact h0))
        · exact .inr (.inr h0)
  · rintro m₁ nw h tk E' ⟨yl, kl, t, rfl, hm1, hm2, hyl, hrem⟩ F₁ N₁
    have hx0 : x = 0 := by
      rcases hrem with h0 | h0 | h0
      · cases h0
      · exact absurd (rem_big hx (by decide)) h0
      · exact h0
    subst hx0
    have hy0 : yl = [] := by
      have : bt 0 32 = [] := by decide +kernel
      rw [this] at hyl; exact List.map_eq_nil_iff.mp hyl
    subst hy0
    rw [show (rem 0 32 : Int) = 0 from rfl] at hm2
    k_steps
    have h0x : Str.ofString "0x0" = baseText "0x" 16 0 := by decide +kernel
    have h0l : (baseText "0x" 16 0).length ≤ 100 := by decide +kernel
    refine Hold.out (P.hex_of_int ?_ (by rw [sizeLine_eq]; omega))
    k_steps
    refine leave_with (keep := news) (by k_asm) (by k_asm) (fun p hp => by repeat (first | exact hp | apply List.mem_cons_of_mem)) fun kF kN => ?_
    have h9 : Txt.join (Str.ofString ", ") [baseText "0x" 16 0] = flagsText 0 := by decide +kernel
    exact hret _ [] _ _ kF kN (fun _ _ _ h => nomatch h) ⟨rfl, _, congrArg (fun z => Value.str z _) h9⟩
end
section
local macro_rules | `(tactic| walk_at "no key 0") => `(tactic| fail)
theorem pick_nat {vs : List Value} {a b : Nat} (hab : a ≤ b) (hb : b ≤ vs.length) : slicePick vs.toArray (some (a : Int)) (some ((b : Nat) : Int)) none = ((vs.drop a).take (b - a)).toArray := by
  have e : sliceBounds (some (a : Int)) (some (b : Int)) none vs.toArray.size = ((a : Int), (b : Int), 1) := by
    simp only [sliceBounds, Option.getD_none, show (1 : Int) > 0 by decide, if_true, if_neg (show ¬ ((a : Int) < 0) by omega), if_neg (show ¬ ((b : Int) < 0) by omega), List.size_toArray]
    congr 1
    · omega
    · congr 1
      omega
  rw [kmk_pick_nat _ e]
def lawText (p n g : Str) : Str := p ++ Str.ofString "; what-it-needs=\"" ++ n ++ Str.ofString "\"; what-it-gives=\"" ++ g ++ Str.ofString "\""
local macro_rules | `(tactic| walk_at "call builtin:str.split") => `(tactic| refine Hold.of ?_)
theorem names_spec (w : World) (sh : Nat) (tx : Tok) (hx : sh ≤ 10) :
  Spec w 201 [.int (sh : Int) tx] (fun news => True) (fun tl r => ∃ a k nl, tl = [(a, listOf (strValues nl).toArray k)] ∧ r = .ref a ∧ nl.map (·.1) = (words15.drop sh).take 5) := by
  unfold Spec
  k_fill
  intro mean mg mb dp un gd cn cs a ccd cl outer A₀ base h₀ L m news s Q E B F X N T hk hdp hun hpre hret
  dsimp only at hpre hret
  refine wpAny_call ?_
  refine' code_def ?k1 ?k2 ?k3 ?k4 ?k5 ?kA ?kF ?kK ?k6 ?k7 ?k8 ?k9 ?kB ?_ ?c2 ?c3 ?c4 ?c5; (case kA => exact rfl); (case kF => exact rfl); (case kK => assumption); (case k1 => exact B); (case k2 => exact F); (case k3 => exact X); (case k4 => exact N); (case k5 => exact T); (case k6 => k_dflt k_is); (case k7 => k_dflt k_is); (case k8 => ktr_room); (case k9 => exact BindsTo.of_eq rfl); (case c5 => decide); (case kB => exact locs rfl); (case c2 => exact rfl); (case c3 => exact rfl); (case c4 => exact rfl)
  intro g' L' h' FG' F' N' B' X' T'
  dsimp only
  k_fold
  replace F' : Fr g' L' h' (fun y => List.lookup y [(Str.ofString "shift", .int (sh : Int) tx)]) := F'
  replace F' : Fr g' L' h' (fun y => if y = Str.ofString "shift" then some (.int (sh : Int) tx) else none) := by simpa only [lookup_ite, lookup_ite_nil] using F'
  clear B F X N T FG'
  k_steps
  refine Hold.out (KSpl.split1 (by k_asm) (by k_asm) (by decide) ?_ (by decide +kernel))
  intro D pl h₁ k₁ e₁ a₁ F₁ N₁ l₁
  have e₂ : pl.map (·.1) = words15 := by rw [e₁]; decide +kernel
  k_steps
  rename_i h₂ F₂ N₂
  have hps : ∀ a, a ∈ pl → a ∈ pl := fun _ h => h
  have hlen : (strValues pl).length = 15 := by rw [strValues, List.length_map]; have := congrArg List.length e₂; rw [List.length_map] at this; rw [this]; rfl
  have hp : slicePick (strValues pl).toArray (some (sh : Int)) (some ((sh : Int) + 5)) none = (strValues ((pl.drop sh).take 5)).toArray := by
    rw [show ((sh : Int) + 5) = ((sh + 5 : Nat) : Int) by push_cast; rfl, pick_nat (a := sh) (b := sh + 5) (by omega) (by omega)]
    rw [show sh + 5 - sh = 5 by omega]
    simp only [strValues, List.map_take, List.map_drop]
  rw [hp] at N₂
  refine leave_with (keep := (h₁.objs.size + 1, listOf (strValues ((pl.drop sh).take 5)).toArray 0) :: news) F₂ N₂ (fun p hp => by rcases List.mem_cons.mp hp with rfl | hp; exact List.mem_cons_self; exact List.mem_cons_of_mem _ (List.mem_cons_of_mem _ hp)) fun kF kN => ?_
  refine hret _ [_] _ _ kF kN (fun p hp q hq => ?_) ⟨_, _, _, rfl, rfl, by rw [List.map_take, List.map_drop, e₂]⟩
  rw [List.mem_singleton.mp hq]
  exact Nat.lt_succ_of_lt (Heap.lt_size (N₁ p (List.mem_cons_of_mem _ hp)).1)
theorem text_spec (w : World) (p n g : Str) (tp tn tg : Tok) (hp : p.length ≤ 1000) (hn : n.length ≤ 1000) (hg : g.length ≤ 1000) :
  Spec w 218 [.str p tp, .str n tn, .str g tg] (fun news => True) (fun tl r => tl = [] ∧ ∃ t, r = .str (lawText p n g) t) := by
  unfold Spec
  k_fill
  intro mean mg mb dp un gd cn cs a ccd cl outer A₀ base h₀ L m news s Q E B F X N T hk hdp hun hpre hret
  dsimp only at hpre hret
  refine wpAny_call ?_
  refine' code_def ?k1 ?k2 ?k3 ?k4 ?k5 ?kA ?kF ?kK ?k6 ?k7 ?k8 ?k9 ?kB ?_ ?c2 ?c3 ?c4 ?c5; (case kA => exact rfl); (case kF => exact rfl); (case kK => assumption); (case k1 => exact B); (case k2 => exact F); (case k3 => exact X); (case k4 => exact N); (case k5 => exact T); (case k6 => k_dflt k_is); (case k7 => k_dflt k_is); (case k8 => ktr_room); (case k9 => exact BindsTo.of_eq rfl); (case c5 => decide); (case kB => exact locs rfl); (case c2 => exact rfl); (case c3 => exact rfl); (case c4 => exact rfl)
  intro g' L' h' FG' F' N' B' X' T'
  dsimp only
  k_fold
  replace F' : Fr g' L' h' (fun y => List.lookup y [(Str.ofString "gives", .str g tg), (Str.ofString "needs", .str n tn), (Str.ofString "place", .str p tp)]) := F'
  replace F' : Fr g' L' h' (fun y => if y = Str.ofString "gives" then some (.str g tg) else if y = Str.ofString "needs" then some (.str n tn) else if y = Str.ofString "place" then some (.str p tp) else none) := by simpa only [lookup_ite, lookup_ite_nil] using F'
  clear B F X N T FG'
  k_steps
  dsimp only
  refine leave_with (keep := news) (by k_asm) (by k_asm) (fun p hp => by repeat (first | exact hp | apply List.mem_cons_of_mem)) fun kF kN => ?_
  exact hret _ [] _ _ kF kN (fun _ _ _ h => nomatch h) ⟨rfl, _, rfl⟩
end
section
local macro_rules | `(tactic| walk_at "getMethod ref") => `(tactic| (k_here; (with_reducible show wpAny _ _ (getMethod (Value.ref _) (Str.ofString "search") _) _ _ _); k_dflt (refine' method_search (Frag.In.keeps ?X (Fr.keep ?F) _ _ ?o) ?c ?d ?_; (case X => k_asm); (case F => k_asm); (case o => exact rfl); (case c => exact rfl); (case d => exact rfl); k_whole)))
local macro_rules | `(tactic| walk_at "call builtin:re.Pattern.search") => `(tactic| (k_here; k_dflt (refine' search_no (Frag.In.keeps ?X (Fr.keep ?F) _ _ ?o) ?c ?d (Frag.In.keeps ?X (Fr.keep ?F) _ _ ?oc) ?cd ?e ?m ?_; (case X => k_asm); (case F => k_asm); (case o => exact rfl); (case c => exact rfl); (case d => exact rfl); (case oc => exact rfl); (case cd => exact rfl); (case m => exact fun _ => saysN (by assumption)); (case e => decide +kernel); k_whole)))
local macro_rules | `(tactic| walk_at "call builtin:re.Pattern.search") => `(tactic| (k_here; k_dflt (refine' search_no (Frag.In.keeps ?X (Fr.keep ?F) _ _ ?o) ?c ?d (Frag.In.keeps ?X (Fr.keep ?F) _ _ ?oc) ?cd ?e ?m ?_; (case X => k_asm); (case F => k_asm); (case o => exact rfl); (case c => exact rfl); (case d => exact rfl); (case oc => exact rfl); (case cd => exact rfl); (case m => exact fun _ => saysV (by assumption)); (case e => decide +kernel); k_whole)))
theorem conv_spec (w : World) (self : Value) (b : Bool) (x : Str) (tx : Tok) (hx : Clean x) :
  SpecM 8 w 91 ⟨[self, .str x tx], [(Str.ofString "name", .bool b)]⟩ (fun news => True) (fun news nw r => nw = news ∧ r = .str x tx) := by
  unfold SpecM
  k_fill
  intro mean mg mb dp un gd cn cs a ccd cl outer A₀ base h₀ L m news s Q E B F X N T hk hdp hun hpre hret
  dsimp only at hpre hret
  refine' code_def ?k1 ?k2 ?k3 ?k4 ?k5 ?kA ?kF ?kK ?k6 ?k7 ?k8 ?k9 ?kB ?_ ?c2 ?c3 ?c4 ?c5; (case kA => exact rfl); (case kF => exact rfl); (case kK => assumption); (case k1 => exact B); (case k2 => exact F); (case k3 => exact X); (case k4 => exact N); (case k5 => exact T); (case k6 => k_dflt k_is); (case k7 => k_dflt k_is); (case k8 => ktr_room); (case k9 => exact BindsTo.of_eq rfl); (case c5 => decide); (case kB => exact locs rfl); (case c2 => exact rfl); (case c3 => exact rfl); (case c4 => exact rfl)
  intro g' L' h' FG' F' N' B' X' T'
  dsimp only
  k_fold
  replace F' : Fr g' L' h' (fun y => List.lookup y [(Str.ofString "name", .bool b), (Str.ofString "value", .str x tx), (Str.ofString "self", self)]) := F'
  replace F' : Fr g' L' h' (fun y => if y = Str.ofString "name" then some (.bool b) else if y = Str.ofString "value" then some (.str x tx) else if y = Str.ofString "self" then some (self) else none) := by simpa only [lookup_ite, lookup_ite_nil] using F'
  clear B F X N T FG'
  k_steps
  all_goals dsimp only
  all_goals refine leave_with (keep := news) (by k_asm) (by k_asm) (fun p hp => hp) fun kF kN => ?_
  all_goals exact hret _ news _ _ kF kN ⟨rfl, rfl⟩
end
section
abbrev hdDict (w : World) (l : Addr) (t : Tok) : Obj := dictOf [{ hash := PyData.keyHash w.params (Str.ofString "_headers"), key := .str (Str.ofString "_headers") t, val := .ref l }] 1
theorem headers_spec (w : World) :
  Spec w 190 [] (fun news => True) (fun tl r => ∃ x d l t, tl = [(l, listOf #[] 0), (x, instObj 190 d), (d, hdDict w l t)] ∧ r = .ref x) := by
  unfold Spec
  k_fill
  intro mean mg mb dp un gd cn cs a ccd cl outer A₀ base h₀ L m news s Q E B F X N T hk hdp hun hpre hret
  dsimp only at hpre hret
  k_dflt (refine' call_cls ?k1 ?k2 ?k3 ?k4 ?k5 ?k6 ?_; (case k1 => k_asm); (case k2 => k_asm); (case k3 => k_asm); (case k4 => k_is); (case k5 => k_is); (case k6 => k_is); k_whole; intro x' d' h' F' N' l1 l2)
  k_lt2 l2
  refine' code_def ?k1 ?k2 ?k3 ?k4 ?k5 ?kA ?kF ?kK ?k6 ?k7 ?k8 ?k9 ?kB ?_ ?c2 ?c3 ?c4 ?c5; (case kA => exact rfl); (case kF => exact rfl); (case kK => assumption); (case k1 => k_asm); (case k2 => k_asm); (case k3 => k_asm); (case k4 => k_asm); (case k5 => k_asm); (case k6 => k_dflt k_is); (case k7 => k_dflt k_is); (case k8 => ktr_room); (case k9 => first | exact BindsTo.of_eq rfl | exact binds_K (by k_in) rfl (by k_is) rfl rfl rfl); (case c5 => decide); (case kB => exact locs rfl); (case c2 => exact rfl); (case c3 => exact rfl); (case c4 => exact rfl)
  intro g' L' h2 FG' F' N' B' X' T'
  dsimp only
  k_fold
  replace F' : Fr g' L' h2 (fun y => List.lookup y [(Str.ofString "headers", .none), (Str.ofString "self", .ref x')]) := F'
  replace F' : Fr g' L' h2 (fun y => if y = Str.ofString "headers" then some (.none) else if y = Str.ofString "self" then some (.ref x') else none) := by simpa only [lookup_ite, lookup_ite_nil] using F'
  k_steps
  refine Hold.out (for_src ?_)
  k_steps
  refine for_empty (by rfl) (.inr ⟨_, List.mem_cons_self, rfl, _, rfl⟩) (by k_asm) (by k_asm) ?_
  intro h9 t9 E9 F9 N9
  k_steps
  rename _ ∧ _ ∧ AllLt _ _ => z
  refine hret _ [_, _, _] _ _ (by k_asm) (by k_asm) (fun p hp q hq => ?_) ⟨_, _, _, _, rfl, rfl⟩
  have hp1 := l1 p hp
  simp only [List.mem_cons, List.not_mem_nil, or_false] at hq
  rcases hq with rfl | rfl | rfl
  · exact Nat.lt_trans hp1 z.2.1
  · exact Nat.lt_trans hp1 l2
  · exact hp1
end
section
local macro_rules | `(tactic| walk_at "subscriptTail Name Slice ref ref") => `(tactic| refine Hold.of ?_)
structure HdAt (w : World) (x d l : Addr) (t : Tok) (vs : List Value) (k : Nat) (news : List (Addr × Obj)) : Prop where
  inst : (x, instObj 190 d) ∈ news
  dict : (d, hdDict w l t) ∈ news
  list : (l, listOf vs.toArray k) ∈ news
theorem items_spec (w : World) (x d l : Addr) (t : Tok) (vs : List Value) (k : Nat) (hv : vs.length ≤ 1000) :
  SpecM 12 w 154 ⟨[.ref x], []⟩ (fun news => HdAt w x d l t vs k news) (fun news nw r => ∃ a, nw = (a, listOf vs.toArray 0) :: news ∧ (∀ p ∈ news, p.1 < a) ∧ r = .ref a) := by
  unfold SpecM
  k_fill
  intro mean mg mb dp un gd cn cs a ccd cl outer A₀ base h₀ L m news s Q E B F X N T hk hdp hun hpre hret
  dsimp only at hpre hret
  refine' code_def ?k1 ?k2 ?k3 ?k4 ?k5 ?kA ?kF ?kK ?k6 ?k7 ?k8 ?k9 ?kB ?_ ?c2 ?c3 ?c4 ?c5; (case kA => exact rfl); (case kF => exact rfl); (case kK => assumption); (case k1 => exact B); (case k2 => exact F); (case k3 => exact X); (case k4 => exact N); (case k5 => exact T); (case k6 => k_dflt k_is); (case k7 => k_dflt k_is); (case k8 => ktr_room); (case k9 => exact BindsTo.of_eq rfl); (case c5 => decide); (case kB => exact locs rfl); (case c2 => exact rfl); (case c3 => exact rfl); (case c4 => exact rfl)
  intro g' L' h' FG' F' N' B' X' T'
  dsimp only
  k_fold
  replace F' : Fr g' L' h' (fun y => List.lookup y [(Str.ofString "self", .ref x)]) := F'
  replace F' : Fr g' L' h' (fun y => if y = Str.ofString "self" then some (.ref x) else none) := by simpa only [lookup_ite, lookup_ite_nil] using F'
  clear B F X N T FG'
  obtain ⟨hx1, hx2, hx3⟩ := hpre
  k_steps
  refine Hold.out ?_
  k_dflt (refine' kmk_slice_lit (zs := vs) ?sF ?sN ?sl ?sp ?sq ?se ?_ ?ss ?st ?sz; (case sF => k_asm); (case sN => k_asm); (case sl => exact led_list (by k_asm) (by k_mem)); (case sp => exact IsPart.none); (case sq => exact IsPart.none); (case se => rw [slicePick_all]); (case ss => with_unfolding_all rfl); (case st => kmk_pure); (case sz => (rw [List.size_toArray, sizeLine_eq]; omega)))
  intro D9 h9 F9 N9 l9
  k_steps
  dsimp only
  refine leave_with F9 N9 (fun p hp => hp) fun kF kN => ?_
  exact hret _ _ _ _ kF kN ⟨_, rfl, l9, rfl⟩
end
end
end
section
local macro_rules | `(tactic| k_all) => `(tactic| exact all_ne_of_lt (by assumption) (by omega))
local macro_rules | `(tactic| k_mem) => `(tactic| first | (with_reducible assumption) | exact List.mem_cons_self | (refine List.mem_cons_of_mem _ ?_; k_mem))
local macro_rules | `(tactic| k_room) => `(tactic| ktr_room)
local macro_rules | `(tactic| k_units) => `(tactic| ktr_units)
local macro_rules | `(tactic| walk_at "eval Name") => `(tactic| (k_here; k_dflt (refine' nameX_L ?F ?v ?_ ?a ?b; (case F => k_asm); (case a => rfl); (case b => rfl); (case v => first | with_reducible assumption | exact rfl | ((repeat (refine (if_neg (by decide)).trans ?_)); first | assumption | exact if_pos rfl)); k_whole)))
local macro_rules | `(tactic| walk_at "exec For") => `(tactic| refine Hold.of ?_)
section
local macro_rules | `(tactic| walk_at "no key 0") => `(tactic| fail)
local macro_rules | `(tactic| walk_at "call ref") => `(tactic| (k_here; (with_reducible show wpAny _ _ (call (Value.ref 91) _ _) _ _ _); k_dflt (refine' wpAny_call (conv_spec _ _ _ _ _ ?cCl _ _ _ _ _ _ _ _ _ _ _ _ _ _ _ _ _ _ _ _ _ ?cB ?cF ?cX ?cN ?cT ?cK ?cD ?cU trivial ?_); (case cB => k_asm); (case cF => k_asm); (case cX => k_asm); (case cN => k_asm); (case cT => k_asm); (case cK => exact rfl); (case cD => ktr_room); (case cU => ktr_units); (case cCl => assumption)); intro r8 nw8 h8 tk8 F8 N8 e8; obtain ⟨e81, e82⟩ := e8; subst e81; subst e82))
local macro_rules | `(tactic| walk_at "eval ListComp") => `(tactic| refine Hold.of ?_)
local macro_rules | `(tactic| walk_at "CompSrcT") => `(tactic| refine Hold.of ?_)
/-- one entry of the table: the tuple's address, the name, the text -/
structure Ent where
  a : Addr
  n : Str
  tn : Tok
  x : Str
  tx : Tok
  k : Nat
abbrev Ent.obj (e : Ent) : Obj := tupOf #[.str e.n e.tn, .str e.x e.tx] e.k
structure Ents (es : List Ent) (news : List (Addr × Obj)) : Prop where
  mem : ∀ e ∈ es, (e.a, e.obj) ∈ news
  short : ∀ e ∈ es, e.n.length ≤ 1000 ∧ e.x.length ≤ 4000
  len : es.length ≤ 1000
abbrev refsOf (es : List Ent) : List Value := es.map fun e => .ref e.a
def gotAll (es : List Ent) (n : Str) (i : Nat) : List (Str × Tok) := ((es.take i).filter fun e => Txt.lower e.n == n).map fun e => (e.x, e.tx)
theorem gotAll_succ {es : List Ent} {n : Str} {i : Nat} (hi : i < es.length) : gotAll es n (i + 1) = gotAll es n i ++ (if Txt.lower (es[i]).n == n then [((es[i]).x, (es[i]).tx)] else []) := by
  unfold gotAll
  rw [List.take_succ_eq_append_getElem hi, List.filter_append, List.map_append, List.filter_cons]
  cases Txt.lower (es[i]).n == n <;> rfl
theorem gotAll_yes {es : List Ent} {n : Str} {i : Nat} (hi : i < es.length) (h : (Txt.lower (es[i]).n == n) = true) : gotAll es n (i + 1) = gotAll es n i ++ [((es[i]).x, (es[i]).tx)] := by rw [gotAll_succ hi, h]; rfl
theorem gotAll_no {es : List Ent} {n : Str} {i : Nat} (hi : i < es.length) (h : (Txt.lower (es[i]).n == n) = false) : gotAll es n (i + 1) = gotAll es n i := by rw [gotAll_succ hi, h]; exact List.append_nil _
theorem off1_ne {D : Addr} {l : List (Addr × Obj)} (h : LCg.Off1 D l) : ∀ p ∈ l, p.1 ≠ D := by
  induction l with
  | nil => intro p hp; cases hp
  | cons a r ih =>
    intro p hp
    have h' : (@Ne Nat a.1 D) ∧ LCg.Off1 D r := h
    rcases List.mem_cons.mp hp with e | hp
    · rw [e]; exact h'.1
    · exact ih h'.2 p hp
theorem getall_spec (w : World) (x d l : Addr) (t : Tok) (es : List Ent) (k : Nat) (n : Str) (tn : Tok) (hn : n.length ≤ 1000) (hcn : Clean (Txt.lower n)) :
  SpecM 12 w 129 ⟨[.ref x, .str n tn], []⟩ (fun news => HdAt w x d l t (refsOf es) k news ∧ Ents es news) (fun news nw r => ∃ a k', nw = (a, listOf (strValues (gotAll es (Txt.lower n) es.length)).toArray k') :: news ∧ (∀ p ∈ news, p.1 ≠ a) ∧ r = .ref a) := by
  unfold SpecM
  k_fill
  intro mean mg mb dp un gd cn cs a ccd cl outer A₀ base h₀ L m news s Q E B F X N T hk hdp hun hpre hret
  dsimp only at hpre hret
  refine' code_defC ?k1 ?k2 ?k3 ?k4 ?k5 ?kA ?kF ?kK ?k6 ?k7 ?k8 ?k9 ?kB ?kD ?_ ?c2 ?c3 ?c4; (case kA => exact rfl); (case kF => exact rfl); (case kK => assumption); (case k1 => exact B); (case k2 => exact F); (case k3 => exact X); (case k4 => exact N); (case k5 => exact T); (case k6 => k_dflt k_is); (case k7 => k_dflt k_is); (case k8 => ktr_room); (case k9 => exact BindsTo.of_eq rfl); (case kB => exact rfl); (case kD => decide +kernel); (case c2 => exact rfl); (case c3 => exact rfl); (case c4 => exact rfl)
  intro g' L' h' tk' cells' FG' F' N' Y' B' X' T' l1
  dsimp only
  k_fold
  obtain ⟨o1, hE', d1⟩ := CellsAre.one Y'; subst hE'; clear Y'
  simp only [List.cons_append, List.nil_append] at N'
  replace d1 : o1.data = .cell (some (.str n tn)) := d1
  replace F' : Fr g' L' h' (fun y => if y = Str.ofString "self" then some (.ref x) else none) := F'
  clear B F X N T FG'
  obtain ⟨⟨hx1, hx2, hx3⟩, hx4, hx5, hx6⟩ := hpre
  k_steps
  refine Hold.out ?_
  k_dflt (refine LCt.ListComp_T (F₀ := by k_asm) (by with_unfolding_all rfl) (by decide) (by rfl) (by decide) (by rfl) ?_)
  k_dflt lct_toSrc
  k_steps
  refine Hold.out ?_
  k_dflt (refine LCt.CompSrcT.ledger (by rfl) (by k_asm) (by k_asm) (by k_mem) (by simp only [List.size_toArray, List.length_map, sizeLine_eq]; omega) ?_)
  intro g9
  rename Obj => o9
  refine compT_ind (fun i ys nw => nw = (L' + 1, o9) :: news ∧ ys = strValues (gotAll es (Txt.lower n) i)) ?_ ?_ ?_
  · rintro i ys nw hi ⟨rfl, rfl⟩ v I oI C oC D m₂ h tk E' hv hC hx F' N' off ne
    have hi' : i < es.length := by simpa using hi
    have hv' : v = .ref (es[i]).a := by simp [hi'] at hv; exact hv.symm
    subst hv'
    have hm9 := hx4 (es[i]) (List.getElem_mem hi')
    have hs9 := (hx5 (es[i]) (List.getElem_mem hi')).1
    k_steps
    · have hb : (Txt.lower (es[i]).n == Txt.lower n) = true := by first | assumption | exact beq_iff_eq.mpr (by assumption)
      exact LCg.CompEnd.intro F' N' _ (fun p hp => hp) off (.inr ⟨_, List.mem_cons_of_mem _ hx3, rfl, _, rfl⟩) ⟨rfl, by rw [gotAll_yes hi' hb]; simp [strValues]⟩
    · have hb : (Txt.lower (es[i]).n == Txt.lower n) = false := by first | assumption | exact beq_eq_false_iff_ne.mpr (by assumption) | simp_all
      exact LCg.CompEnd.intro F' N' _ (fun p hp => hp) off (.inr ⟨_, List.mem_cons_of_mem _ hx3, rfl, _, rfl⟩) ⟨rfl, by rw [gotAll_no hi' hb]⟩
  · rintro ys nw ⟨rfl, rfl⟩
    intro D9 h tk F' N' o1
    k_steps
    dsimp only
    refine leave_with (keep := (D9, LCg.lst (strValues (gotAll es (Txt.lower n) (refsOf es).toArray.size))) :: news) (by k_asm) N' (fun p hp => by rcases List.mem_cons.mp hp with rfl | hp; exact List.mem_cons_self; exact List.mem_cons_of_mem _ (List.mem_cons_of_mem _ hp)) fun kF kN => ?_
    refine hret _ _ _ _ kF kN ⟨D9, _, by rw [show (refsOf es).toArray.size = es.length by simp], off1_ne o1.2, rfl⟩
  · exact ⟨rfl, rfl⟩
end
section
local macro_rules | `(tactic| walk_at "call ref") => `(tactic| (k_here; (with_reducible show wpAny _ _ (call (Value.ref 91) _ _) _ _ _); k_dflt (refine' wpAny_call (conv_spec _ _ _ _ _ ?cCl _ _ _ _ _ _ _ _ _ _ _ _ _ _ _ _ _ _ _ _ _ ?cB ?cF ?cX ?cN ?cT ?cK ?cD ?cU trivial ?_); (case cB => k_asm); (case cF => k_asm); (case cX => k_asm); (case cN => k_asm); (case cT => k_asm); (case cK => exact rfl); (case cD => ktr_room); (case cU => ktr_units); (case cCl => assumption)); intro r8 nw8 h8 tk8 F8 N8 e8; obtain ⟨e81, e82⟩ := e8; subst e81; subst e82))
local macro_rules | `(tactic| walk_at "eval ListComp") => `(tactic| refine Hold.of ?_)
local macro_rules | `(tactic| walk_at "CompSrcT") => `(tactic| refine Hold.of ?_)
local macro_rules | `(tactic| walk_at "CompEnd ref") => `(tactic| refine Hold.of ?_)
local macro_rules | `(tactic| walk_at "CompEnd str") => `(tactic| refine Hold.of ?_)
local macro_rules | `(tactic| walk_at "CompEnd int") => `(tactic| refine Hold.of ?_)
local macro_rules | `(tactic| walk_at "setItem ref ref ref") => `(tactic| refine Hold.of ?_)
def keptAll (es : List Ent) (n : Str) (i : Nat) : List Ent := (es.take i).filter fun e => Txt.lower e.n != n
theorem keptAll_succ {es : List Ent} {n : Str} {i : Nat} (hi : i < es.length) : keptAll es n (i + 1) = keptAll es n i ++ (if Txt.lower (es[i]).n != n then [es[i]] else []) := by
  unfold keptAll
  rw [List.take_succ_eq_append_getElem hi, List.filter_append, List.filter_cons]
  cases Txt.lower (es[i]).n != n <;> rfl
theorem keptAll_yes {es : List Ent} {n : Str} {i : Nat} (hi : i < es.length) (h : (Txt.lower (es[i]).n != n) = true) : keptAll es n (i + 1) = keptAll es n i ++ [es[i]] := by rw [keptAll_succ hi, h]; rfl
theorem keptAll_no {es : List Ent} {n : Str} {i : Nat} (hi : i < es.length) (h : (Txt.lower (es[i]).n != n) = false) : keptAll es n (i + 1) = keptAll es n i := by rw [keptAll_succ hi, h]; exact List.append_nil _
theorem del_spec (w : World) (x d l : Addr) (t : Tok) (es : List Ent) (k : Nat) (n : Str) (tn : Tok) (hn : n.length ≤ 1000) (hcn : Clean (Txt.lower n)) :
  SpecM 12 w 110 ⟨[.ref x, .str n tn], []⟩ (fun news => HdAt w x d l t (refsOf es) k news ∧ Ents es news) (fun news nw r => ∃ k', nw = (l, listOf (refsOf (keptAll es (Txt.lower n) es.length)).toArray k') :: news.filter (fun p => p.1 ≠ l) ∧ r = .none) := by
  unfold SpecM
  k_fill
  intro mean mg mb dp un gd cn cs a ccd cl outer A₀ base h₀ L m news s Q E B F X N T hk hdp hun hpre hret
  dsimp only at hpre hret
  refine' code_defC ?k1 ?k2 ?k3 ?k4 ?k5 ?kA ?kF ?kK ?k6 ?k7 ?k8 ?k9 ?kB ?kD ?_ ?c2 ?c3 ?c4; (case kA => exact rfl); (case kF => exact rfl); (case kK => assumption); (case k1 => exact B); (case k2 => exact F); (case k3 => exact X); (case k4 => exact N); (case k5 => exact T); (case k6 => k_dflt k_is); (case k7 => k_dflt k_is); (case k8 => ktr_room); (case k9 => exact BindsTo.of_eq rfl); (case kB => exact rfl); (case kD => decide +kernel); (case c2 => exact rfl); (case c3 => exact rfl); (case c4 => exact rfl)
  intro g' L' h' tk' cells' FG' F' N' Y' B' X' T' l1
  dsimp only
  k_fold
  obtain ⟨o1, hE', d1⟩ := CellsAre.one Y'; subst hE'; clear Y'
  simp only [List.cons_append, List.nil_append] at N'
  replace d1 : o1.data = .cell (some (.str n tn)) := d1
  replace F' : Fr g' L' h' (fun y => if y = Str.ofString "self" then some (.ref x) else none) := F'
  clear B F X N T FG'
  obtain ⟨⟨hx1, hx2, hx3⟩, hx4, hx5, hx6⟩ := hpre
  k_steps
  refine Hold.out ?_
  k_dflt (refine LCt.ListComp_T (F₀ := by k_asm) (by with_unfolding_all rfl) (by decide) (by rfl) (by decide) (by rfl) ?_)
  k_dflt lct_toSrc
  k_steps
  refine Hold.out ?_
  k_dflt (refine LCt.CompSrcT.ledger (by rfl) (by k_asm) (by k_asm) (by k_mem) (by simp only [List.size_toArray, List.length_map, sizeLine_eq]; omega) ?_)
  intro g9
  rename Obj => o9
  refine compT_ind (fun i ys nw => nw = (L' + 1, o9) :: news ∧ ys = refsOf (keptAll es (Txt.lower n) i)) ?_ ?_ ?_
  · rintro i ys nw hi ⟨rfl, rfl⟩ v I oI C oC D m₂ h tk E' hv hC hx F' N' off ne
    have hi' : i < es.length := by simpa using hi
    have hv' : v = .ref (es[i]).a := by simp [hi'] at hv; exact hv.symm
    subst hv'
    have hm9 := hx4 (es[i]) (List.getElem_mem hi')
    have hs9 := (hx5 (es[i]) (List.getElem_mem hi')).1
    k_steps
    · have hb : (Txt.lower (es[i]).n != Txt.lower n) = true := by assumption
      exact LCg.CompEnd.intro F' N' _ (fun p hp => hp) off (.inr ⟨_, List.mem_cons_of_mem _ hx3, rfl, _, rfl⟩) ⟨rfl, by rw [keptAll_yes hi' hb]; simp [refsOf]⟩
    · have hb : (Txt.lower (es[i]).n != Txt.lower n) = false := by first | assumption | simp_all
      exact LCg.CompEnd.intro F' N' _ (fun p hp => hp) off (.inr ⟨_, List.mem_cons_of_mem _ hx3, rfl, _, rfl⟩) ⟨rfl, by rw [keptAll_no hi' hb]⟩
  · rintro ys nw ⟨rfl, rfl⟩
    intro D9 h tk F' N' o1
    have hlD : l ≠ D9 := off1_ne o1.2 _ hx3
    k_steps
    have hm3 : (l, listOf (refsOf es).toArray k) ∈ (D9, LCg.lst (refsOf (keptAll es (Txt.lower n) (refsOf es).toArray.size))) :: (L' + 1, o9) :: news := List.mem_cons_of_mem _ (List.mem_cons_of_mem _ hx3)
    refine Hold.out ?_
    refine setItem_slice_K F' N' (by rfl) hm3 List.mem_cons_self hlD (by simp only [List.size_toArray, List.length_map]; omega) (by simp only [List.size_toArray, List.length_map]; exact Nat.le_trans (List.length_filter_le _ _) (by simp; omega)) ?_
    intro h7 k7 F7 N7
    k_steps
    refine leave_with (keep := (l, listOf (refsOf (keptAll es (Txt.lower n) (refsOf es).toArray.size)).toArray k7) :: news.filter (fun p => p.1 ≠ l)) F7 N7 (fun p hp => by
      rcases List.mem_cons.mp hp with rfl | hp
      · exact List.mem_cons_self
      · obtain ⟨hp1, hp2⟩ := List.mem_filter.mp hp
        exact List.mem_cons_of_mem _ (List.mem_filter.mpr ⟨List.mem_cons_of_mem _ (List.mem_cons_of_mem _ hp1), hp2⟩)) fun kF kN => ?_
    refine hret _ _ _ _ kF kN ⟨k7, by rw [show (refsOf es).toArray.size = es.length by simp], rfl⟩
  · exact ⟨rfl, rfl⟩
end
section
theorem occ_none (x : Str) (c : Nat) (h : c ∉ x.cps.toList) : (PySem.Builtin.Str.occurrences x ⟨#[c]⟩ 0 x.length (x.length + 1)).isEmpty = true := by
  obtain ⟨f, hh⟩ := StrLaws.occ_chain x ⟨#[c]⟩ (x.length + 1)
  cases ho : PySem.Builtin.Str.occurrences x ⟨#[c]⟩ 0 x.length (x.length + 1) with
  | nil => rfl
  | cons i r =>
    rw [ho] at hh
    exact absurd (List.mem_of_getElem? ((StrLaws.subAt_one x c i).mp hh.2.1)) h
theorem replace_none {prog : Program} {w : World} {A : Around} {E : Value → Shared → Prop} {s : Shared} {x z : Str} {c : Nat} {t u v : Tok} {Q : Value → Shared → Prop} (h : c ∉ x.cps.toList) (hq : Q (.str x t) s) :
    wpAny (model prog w) A (call (.builtin "str.replace") [.str x t, .str ⟨#[c]⟩ u, .str z v]) Q E s := by
  have e : ((PySem.Builtin.Str.occurrences x ⟨#[c]⟩ 0 x.length (x.length + 1)).isEmpty || ((⟨#[c]⟩ : Str).length == 0 && z.length == 0)) = true := by rw [occ_none x c h]; rfl
  have g := gives_str_replace x ⟨#[c]⟩ z t u v (fun hf => by rw [e] at hf; exact absurd hf (by decide))
  rw [if_pos e] at g
  exact call_gives F.slot_str_replace (typeIs_str _ _ _) F.entry_str_replace (F.args_str_replace_3 _ _ _) g hq
local macro_rules | `(tactic| walk_at "call builtin:str.replace") => `(tactic| (k_here; k_dflt (refine' replace_none (c := 92) ?h ?_; (case h => assumption); k_whole)))
local macro_rules | `(tactic| walk_at "call builtin:str.replace") => `(tactic| (k_here; k_dflt (refine' replace_none (c := 34) ?h ?_; (case h => assumption); k_whole)))
def fmtText (p v : Str) : Str := Str.empty ++ p ++ Str.ofString "=\"" ++ v ++ Str.ofString "\""
theorem format_spec (w : World) (p v : Str) (tp tv : Tok) (hp : p.length ≤ 1000) (hv : v.length ≤ 1000) (h0 : 0 < v.length) (hc1 : 34 ∉ v.cps.toList) (hc2 : 92 ∉ v.cps.toList) :
  Spec w 69 [.str p tp, .str v tv] (fun news => True) (fun tl r => tl = [] ∧ ∃ t, r = .str (fmtText p v) t) := by
  unfold Spec
  k_fill
  intro mean mg mb dp un gd cn cs a ccd cl outer A₀ base h₀ L m news s Q E B F X N T hk hdp hun hpre hret
  dsimp only at hpre hret
  refine wpAny_call ?_
  refine' code_def ?k1 ?k2 ?k3 ?k4 ?k5 ?kA ?kF ?kK ?k6 ?k7 ?k8 ?k9 ?kB ?_ ?c2 ?c3 ?c4 ?c5; (case kA => exact rfl); (case kF => exact rfl); (case kK => assumption); (case k1 => exact B); (case k2 => exact F); (case k3 => exact X); (case k4 => exact N); (case k5 => exact T); (case k6 => k_dflt k_is); (case k7 => k_dflt k_is); (case k8 => ktr_room); (case k9 => first | exact BindsTo.of_eq rfl | exact binds_K (by k_in) rfl (by k_is) rfl rfl rfl); (case c5 => decide); (case kB => exact locs rfl); (case c2 => exact rfl); (case c3 => exact rfl); (case c4 => exact rfl)
  intro g' L' h' FG' F' N' B' X' T'
  dsimp only
  k_fold
  replace F' : Fr g' L' h' (fun y => List.lookup y [(Str.ofString "quote", .int 1 _), (Str.ofString "value", .str v tv), (Str.ofString "param", .str p tp)]) := F'
  replace F' : Fr g' L' h' (fun y => if y = Str.ofString "quote" then some (.int 1 428) else if y = Str.ofString "value" then some (.str v tv) else if y = Str.ofString "param" then some (.str p tp) else none) := by simpa only [lookup_ite, lookup_ite_nil] using F'
  clear B F X N T FG'
  k_steps
  dsimp only
  refine leave_with (keep := news) (by k_asm) (by k_asm) (fun p hp => hp) fun kF kN => ?_
  exact hret _ [] _ _ kF kN (fun _ _ _ h => nomatch h) ⟨rfl, _, rfl⟩
end
section
local macro_rules | `(tactic| walk_at "execs cons") => `(tactic| (k_here; dsimp only))
local macro_rules | `(tactic| walk_at "execs cons") => `(tactic| (k_here; refine gentoks_pos (Nat.succ_pos _) ?_; intro tk htk9))
local macro_rules | `(tactic| walk_at "execs nil") => `(tactic| (k_here; dsimp only))
local macro_rules | `(tactic| walk_at "execs nil") => `(tactic| (k_here; refine gentoks_pos (Nat.succ_pos _) ?_; intro tk htk9))
section
local macro_rules | `(tactic| walk_at "call ref") => `(tactic| (k_here; (with_reducible show wpAny _ _ (call (Value.ref 91) _ _) _ _ _); k_dflt (refine' wpAny_call (conv_spec _ _ _ _ _ ?cCl _ _ _ _ _ _ _ _ _ _ _ _ _ _ _ _ _ _ _ _ _ ?cB ?cF ?cX ?cN ?cT ?cK ?cD ?cU trivial ?_); (case cB => k_asm); (case cF => k_asm); (case cX => k_asm); (case cN => k_asm); (case cT => k_asm); (case cK => exact rfl); (case cD => ktr_room); (case cU => ktr_units); (case cCl => assumption)); intro r8 nw8 h8 tk8 F8 N8 e8; obtain ⟨e81, e82⟩ := e8; subst e81; subst e82))
local macro_rules | `(tactic| walk_at "call ref") => `(tactic| (k_here; (with_reducible show wpAny _ _ (call (Value.ref 69) _) _ _ _); k_dflt (refine' (format_spec _ _ _ _ _ ?c1 ?c2 ?c3 ?c4 ?c5 _ _ _ _ _ _ _ _ _ _ _ _ _ _ _ _ _ _ _ _ _ ?cB ?cF ?cX ?cN ?cT ?cK ?cD ?cU trivial ?_); (case cB => k_asm); (case cF => k_asm); (case cX => k_asm); (case cN => k_asm); (case cT => k_asm); (case cK => exact rfl); (case cD => ktr_room); (case cU => ktr_units); (case c1 => decide +kernel); (case c2 => assumption); (case c3 => assumption); (case c4 => assumption); (case c5 => assumption)); intro r8 tl8 h8 tk8 F8 N8 l8 e8; obtain ⟨e81, t8, e82⟩ := e8; subst e81; subst e82; rw [List.nil_append] at N8))
theorem fmt_len (p v : Str) : (fmtText p v).length = p.length + v.length + 3 := by
  have e1 : (Str.ofString "=\"").length = 2 := by decide +kernel
  have e2 : (Str.ofString "\"").length = 1 := by decide +kernel
  have e3 : (Str.empty).length = 0 := by decide +kernel
  unfold fmtText
  simp only [Str.length_append, e1, e2, e3]
  omega
theorem join_fmt (v nd gv : Str) : Txt.join (Str.ofString "; ") [v, fmtText (Str.ofString "what-it-needs") nd, fmtText (Str.ofString "what-it-gives") gv] = lawText v nd gv := by
  rw [eq_of_beq (join_plain_closes (Str.ofString "; ") _)]
  have e1 : Str.ofString "; what-it-needs=\"" = Str.ofString "; " ++ (Str.empty ++ (Str.ofString "what-it-needs" ++ Str.ofString "=\"")) := by decide +kernel
  have e2 : Str.ofString "\"; what-it-gives=\"" = Str.ofString "\"" ++ (Str.ofString "; " ++ (Str.empty ++ (Str.ofString "what-it-gives" ++ Str.ofString "=\""))) := by decide +kernel
  unfold lawText fmtText
  rw [e1, e2]
  simp only [Str.join, Str.append_assoc]
theorem off_of {I l D : Addr} {o1 o2 oi : Obj} {news : List (Addr × Obj)} (h1 : l < I ∧ D < I ∧ AllLt I news) : ∀ p ∈ (l, o1) :: (D, o2) :: news, ∀ q ∈ [(I, oi)], p.1 ≠ q.1 := by
  intro p hp q hq
  rw [List.mem_singleton.mp hq]
  rcases List.mem_cons.mp hp with rfl | hp
  · exact Nat.ne_of_lt h1.1
  · rcases List.mem_cons.mp hp with rfl | hp
    · exact Nat.ne_of_lt h1.2.1
    · exact Nat.ne_of_lt (allLt_mem h1.2.2 p hp)
theorem replace_lit {prog : Program} {w : World} {A : Around} {E : Value → Shared → Prop} {s : Shared} {x y z r : Str} {t : Tok} {tk : Nat} {Q : Value → Shared → Prop} (e : Txt.replace x y z = r) (hu : 0 < tk) (hyz : (y == z) = false) (hb : x.length + (x.length + 1) * z.length ≤ 16777216)
    (hq : ∀ t' k, Q (.str r t') { s with toks := k }) : wpAny (model prog w) A (call (.builtin "str.replace") [.str x t, .str y tk, .str z (tk + 1)]) Q E s :=
  SC.replace (Nat.ne_of_gt hu) (Nat.succ_ne_zero _) (Nat.ne_of_lt (Nat.lt_succ_self _)) hyz hb (by rw [e]; exact hq)
local macro_rules | `(tactic| walk_at "call builtin:str.replace") => `(tactic| (k_here; k_dflt (refine' replace_lit (r := Str.ofString "what-it-needs") ?e ?hu ?hyz ?hb ?_; (case e => decide +kernel); (case hu => assumption); (case hyz => decide +kernel); (case hb => decide +kernel)); intro t8 k8))
local macro_rules | `(tactic| walk_at "call builtin:str.replace") => `(tactic| (k_here; k_dflt (refine' replace_lit (r := Str.ofString "what-it-gives") ?e ?hu ?hyz ?hb ?_; (case e => decide +kernel); (case hu => assumption); (case hyz => decide +kernel); (case hb => decide +kernel)); intro t8 k8))
local macro_rules | `(tactic| walk_at "exec For Tuple Call cons nil") => `(tactic| refine Hold.of ?_)
local macro_rules | `(tactic| walk_at "exec For Tuple Call") => `(tactic| refine Hold.of ?_)
theorem add_spec (w : World) (x d l : Addr) (t : Tok) (vs : List Value) (k : Nat) (n v nd gv : Str) (tn tv tnd tgv : Tok) (hvs : vs.length ≤ 1000) (hn : n.length ≤ 1000) (hv : v.length ≤ 1000) (hnd : nd.length ≤ 1000) (hgv : gv.length ≤ 1000)
  (hnd0 : 0 < nd.length) (hgv0 : 0 < gv.length) (cn1 : Clean n) (cv : Clean v) (cnd : Clean nd) (cgv : Clean gv) (q1 : 34 ∉ nd.cps.toList) (q2 : 92 ∉ nd.cps.toList) (q3 : 34 ∉ gv.cps.toList) (q4 : 92 ∉ gv.cps.toList) :
  SpecM 30 w 187 ⟨[.ref x, .str n tn, .str v tv], [(Str.ofString "what_it_needs", .str nd tnd), (Str.ofString "what_it_gives", .str gv tgv)]⟩ (fun news => HdAt w x d l t vs k news)
    (fun news nw r => ∃ a k' tx, nw = (a, tupOf #[.str n tn, .str (lawText v nd gv) tx] 0) :: (l, listOf (vs ++ [Value.ref a]).toArray k') :: news.filter (fun p => p.1 ≠ l) ∧ (∀ p ∈ news, p.1 ≠ a) ∧ r = .none) := by
  unfold SpecM
  k_fill
  intro mean mg mb dp un gd cn cs a ccd cl outer A₀ base h₀ L m news s Q E B F X N T hk hdp hun hpre hret
  dsimp only at hpre hret
  refine' kp_more ?k1 ?k2 ?k3 ?k4 ?k5 ?kA ?kF ?kK ?k6 ?k7 ?k8 ?kX ?kM ?kN ?kD ?kR ?kP ?kT ?kB ?_ ?c2 ?c3 ?c4 ?c5; (case kA => exact rfl); (case kF => exact rfl); (case kK => assumption); (case k1 => k_asm); (case k2 => k_asm); (case k3 => k_asm); (case k4 => k_asm); (case k5 => k_asm); (case k6 => k_dflt k_is); (case k7 => k_dflt k_is); (case k8 => ktr_room); (case kX => kp_lit); (case kM => exact rfl); (case kN => exact rfl); (case kD => kp_flats); (case kR => exact rfl); (case kP => exact rfl); (case kT => exact fun _ => rfl); (case kB => exact fun _ => locs rfl); (case c5 => decide); (case c2 => exact rfl); (case c3 => exact rfl); (case c4 => exact rfl)
  intro D' o' g' L' h' tk' l1 lo' hs' fs' FG' F' N' B' X' T'
  dsimp only
  k_fold
  replace F' : Fr g' L' h' (fun y => List.lookup y [(Str.ofString "_params", Value.ref D'), (Str.ofString "_value", .str v tv), (Str.ofString "_name", .str n tn), (Str.ofString "self", .ref x)]) := F'
  replace F' : Fr g' L' h' (fun y => if y = Str.ofString "_params" then some (Value.ref D') else if y = Str.ofString "_value" then some (.str v tv) else if y = Str.ofString "_name" then some (.str n tn) else if y = Str.ofString "self" then some (.ref x) else none) := by simpa only [lookup_ite, lookup_ite_nil] using F'
  clear B F X N T FG'
  obtain ⟨hx1, hx2, hx3⟩ := hpre
  have cl1 : Clean (Str.ofString "what_it_needs") := by unfold Clean; decide +kernel
  have cl2 : Clean (Str.ofString "what_it_gives") := by unfold Clean; decide +kernel
  k_steps
  refine Hold.out ?_
  ((rename Fr _ _ _ _ => lF'); (rename News _ _ _ _ => lN'); with_unfolding_all ((refine' For_turns lF' ?_); k_whole; (refine MethodCall_ ?_); (refine ld lF' (by rfl) ?_); (refine getMethod_tab (knd := PySem.strKind _ _) (enc := PyData.str) PySem.F.slot_dict_items PySem.F.type_dict_items (by k_tabat) ?_); (refine callWith_method0 ?_); (refine call_items_tab (knd := PySem.strKind _ _) (enc := PyData.str) (by k_tabat) lF' lN' ?_); intro h' o' hv' F' N'; (replace N' := kti_tail N'); (refine kti_items (knd := PySem.strKind _ _) (enc := PyData.str) (xs := [Itm.pairF (fun t => Value.str (Str.ofString "what_it_needs") t) (PyData.str nd), Itm.pairF (fun t => Value.str (Str.ofString "what_it_gives") t) (PyData.str gv)]) (by rfl) F' N' hv' (by k_tabat) (by k_mem) (fun _ _ h => Value.isStrOf_shape h) (by rfl) ?_)); clear lF' lN'; intro i' l1; (try k_lt l1))
  k_steps
  rename_i _ F₇ N₇
  refine ⟨_, _, _, _ :: _ :: news, rfl, F₇, N₇, off_of (by assumption), ⟨by k_mem, trivial⟩, ?_⟩
  k_steps
  rename_i _ F₇ N₇
  refine ⟨_, _, _, _ :: _ :: news, rfl, F₇, N₇, off_of (by assumption), ⟨by k_mem, trivial⟩, ?_⟩
  k_steps
  rename_i _ _ F₇ N₇
  refine join_list (ys := [v, fmtText (Str.ofString "what-it-needs") nd, fmtText (Str.ofString "what-it-gives") gv]) ⟨_, (N₇ _ List.mem_cons_self).1, rfl, _, rfl⟩ (strsAre_of_values [(v, _), (fmtText (Str.ofString "what-it-needs") nd, _), (fmtText (Str.ofString "what-it-gives") gv, _)]) ?_ ?_
  · have e1 := fmt_len (Str.ofString "what-it-needs") nd
    have e2 := fmt_len (Str.ofString "what-it-gives") gv
    have e3 : (Str.ofString "what-it-needs").length = 13 := by decide +kernel
    have e4 : (Str.ofString "what-it-gives").length = 13 := by decide +kernel
    have e5 : (Str.ofString "; ").length = 2 := by decide +kernel
    simp only [List.map_cons, List.map_nil, List.sum_cons, List.sum_nil, List.length_cons, List.length_nil]
    omega
  · intro t7 k7
    rw [join_fmt v nd gv]
    k_steps
    rename_i D₈ _ F₈ N₈ l₈
    refine append_led (l := l) (its := vs.toArray) (k := k) F₈ N₈ (by k_mem) (by simp; omega) ?_
    intro h6 F6 N6
    k_steps
    have hnew : ∀ p ∈ news, p.1 < D₈ := allLt_mem l₈.2.2
    refine leave_with (keep := (D₈, tupOf #[Value.str n tn, Value.str (lawText v nd gv) t7] 0) :: (l, listOf (vs.toArray.push (Value.ref D₈)) (k + 1)) :: news.filter (fun p => p.1 ≠ l)) F6 N6 (fun p hp => ?_) fun kF kN => ?_
    · rcases List.mem_cons.mp hp with rfl | hp
      · refine List.mem_cons_of_mem _ (List.mem_filter.mpr ⟨List.mem_cons_self, ?_⟩)
        simpa using Nat.ne_of_gt (hnew _ hx3)
      · rcases List.mem_cons.mp hp with rfl | hp
        · exact List.mem_cons_self
        · obtain ⟨hp1, hp2⟩ := List.mem_filter.mp hp
          exact List.mem_cons_of_mem _ (List.mem_filter.mpr ⟨List.mem_cons_of_mem _ (List.mem_cons_of_mem _ (List.mem_cons_of_mem _ hp1)), hp2⟩)
    · refine hret _ _ _ _ kF kN ⟨_, k + 1, t7, ?_, fun p hp => Nat.ne_of_lt (hnew p hp), rfl⟩
      simp
end
section
abbrev pairsOf (es : List Ent) : List PyData := es.map fun e => .tuple [.str e.n, .str e.x]
theorem reads_ents {h : Heap} : ∀ {es : List Ent}, (∀ e ∈ es, h.get? e.a = some e.obj) → ReadsAll h (refsOf es) (pairsOf es) []
  | [], _ => .nil
  | e :: es, hm => by
    have h1 : Reads h (.ref e.a) (.tuple [.str e.n, .str e.x]) [] := .tuple (hm e List.mem_cons_self) rfl rfl (.cons (.str _ _) (.cons (.str _ _) .nil))
    exact .cons h1 (reads_ents fun e he => hm e (List.mem_cons_of_mem _ he))
theorem reads_tab {h : Heap} {D : Addr} {es : List Ent} (hl : h.IsList D (refsOf es).toArray) (hm : ∀ e ∈ es, h.get? e.a = some e.obj) : Reads h (.ref D) (.list (pairsOf es)) [D] := by
  obtain ⟨o, ho, hc, n, hd⟩ := id hl
  exact .list ho hc hd (reads_ents hm)
theorem clean_ok {x : Str} (h : Clean x) : PyData.strOk x = true := by
  unfold PyData.strOk
  rw [Array.all_eq_true_iff_forall_mem]
  intro c hc
  have := h c (by simpa using hc)
  simp only [decide_eq_true_eq]
  omega
theorem clean_append {x y : Str} (h1 : Clean x) (h2 : Clean y) : Clean (x ++ y) := by
  intro c hc
  rw [show (x ++ y).cps = x.cps ++ y.cps from rfl, Array.toList_append] at hc
  rcases List.mem_append.mp hc with h | h
  · exact h1 c h
  · exact h2 c h
theorem clean_law {p n g : Str} (hp : Clean p) (hn : Clean n) (hg : Clean g) : Clean (lawText p n g) := by
  have e1 : Clean (Str.ofString "; what-it-needs=\"") := by unfold Clean; decide +kernel
  have e2 : Clean (Str.ofString "\"; what-it-gives=\"") := by unfold Clean; decide +kernel
  have e3 : Clean (Str.ofString "\"") := by unfold Clean; decide +kernel
  exact clean_append (clean_append (clean_append (clean_append (clean_append hp e1) hn) e2) hg) e3
theorem shaped_tab {es : List Ent} (h : ∀ e ∈ es, PyData.strOk e.n = true ∧ PyData.strOk e.x = true) : PySem.SeqAt.shaped (.list (pairsOf es)) = true := by
  have h1 : ∀ es : List Ent, (∀ e ∈ es, PyData.strOk e.n = true ∧ PyData.strOk e.x = true) → PyData.canLayAll0 (pairsOf es) = true := by
    intro es
    induction es with
    | nil => intro _; rfl
    | cons e es ih =>
      intro h
      have h1 := h e List.mem_cons_self
      simp only [pairsOf, List.map_cons, PyData.canLayAll0, PyData.canLay0, h1.1, h1.2, Bool.and_true, Bool.true_and]
      exact ih fun e he => h e (List.mem_cons_of_mem _ he)
  have h2 : ∀ es : List Ent, PyData.depthAll (pairsOf es) ≤ 1 := by
    intro es
    induction es with
    | nil => exact Nat.zero_le _
    | cons e es ih => simp only [pairsOf, List.map_cons, PyData.depthAll, PyData.depth] at ih ⊢; omega
  have h3 := h2 es
  have h4 : PyData.canLay0 (.list (pairsOf es)) = true := by simp only [PyData.canLay0]; exact h1 es h
  have h5 : (PyData.list (pairsOf es)).depth ≤ 64 := by simp only [PyData.depth]; exact Nat.le_trans (Nat.add_le_add h3 (Nat.le_refl _)) (by decide)
  exact Bool.and_eq_true_iff.mpr ⟨h4, decide_eq_true h5⟩
theorem slice_tmp {prog : Program} {w : World} {A : Around} {E : Value → Shared → Prop} {s : Shared} {h₀ : Heap} {L l : Addr} {m : Str → Option Value} {news : List (Addr × Obj)} {value slice : PySem.Expr} {its : Array Value} {zs : List Value} {vl vu : Value} {lo hi : Option Int} {Q : Value → Shared → Prop}
    (F : Fr h₀ L s.heap m) (N : News h₀ L s.heap news) (hl : s.heap.IsList l its) (pl : IsPart vl lo) (pu : IsPart vu hi) (e : (slicePick its lo hi none).toList = zs)
    (h : ∀ D h', Fr h₀ L h' m → News h₀ L h' ((D, listOf zs.toArray 0) :: news) → (∀ p ∈ news, p.1 < D) → Q (.ref D) { s with heap := h' })
    (hs : subscripted slice false (.ref l) (.ref s.heap.objs.size) = operate [.ref s.heap.objs.size, .ref l] (getItem (.ref l) (.ref s.heap.objs.size))) (hz : its.size ≤ sizeLine) :
    wpAny (model prog w) A (subscriptTail value slice (.ref l) (.ref s.heap.objs.size)) Q E { s with heap := s.heap.push { cls := .type "slice", data := .fields #[vl, vu, .none] } } := by
  have F1 := F.push { cls := .type "slice", data := .fields #[vl, vu, .none] }
  have N1 := N.push F { cls := .type "slice", data := .fields #[vl, vu, .none] }
  have F2 := F1.push (listOf (slicePick its lo hi none) 0)
  have N2 := N1.push F1 (listOf (slicePick its lo hi none) 0)
  refine tail_any (s := { s with heap := s.heap.push { cls := .type "slice", data := .fields #[vl, vu, .none] } }) (hl.push _).typeIs slot_list_getitem.lookup (wpAny_getItem_list_slice (hl.push _) (Heap.IsSliceOf.new ..) pl pu .none (by simp) ?_ hz) hs
  refine h _ _ F2 (fun p hp => ?_) (fun p hp => ?_)
  · rcases List.mem_cons.mp hp with rfl | hp
    · have := N2 _ List.mem_cons_self
      rw [← e, Array.toArray_toList]
      exact this
    · exact N2 p (List.mem_cons_of_mem _ (List.mem_cons_of_mem _ hp))
  · show p.1 < (s.heap.push _).objs.size
    rw [Heap.size_push]
    exact Nat.lt_succ_of_lt (Heap.lt_size (N p hp).1)
theorem delItem_K {M : Model} {A : Around} {E : Value → Shared → Prop} {s : Shared} {K : Frag} {x C L f : Addr} {h₀ : Heap} {m : Str → Option Value} {ox : Obj} {od : Option Obj} {v : Value} {Q : Unit → Shared → Prop} (F : Fr h₀ L s.heap m) (X₀ : K.In h₀) (I : InstAt s.heap x ox C od) (hq : noSeq K C = true) (hs : findIn K (.ref C) "__delitem__" = some (some (.ref f))) (hf : isFn K (.ref f) = true)
    (h : wpAny M A (call (.ref f) [.ref x, v]) (fun _ s' => Q () s') E s) : wpAny M A (delItem (.ref x) v) Q E s := by
  have X := X₀.keeps F.keep
  unfold delItem sequenceKey
  refine wpAny_holding (wpAny_bind (wpAny_bind (I.type.here ?_)))
  refine wpAny_bind ((anyM_none X hq).here ?_)
  rw [if_pos (show (!false) = true from rfl)]
  exact wpAny_pure (wpAny_bind (special_fn X I hs (beq_iff_eq.mp hf) (wpAny_mono h (fun _ _ z => wpAny_pure z) fun _ _ z => z)))
theorem led_ne2 {h₀ h : Heap} {L a b : Addr} {o o' : Obj} {news : List (Addr × Obj)} (N : News h₀ L h news) (ha : (a, o) ∈ news) (hb : (b, o') ∈ news) (ne : o.data ≠ o'.data) : a ≠ b := by
  rintro rfl
  have := (N _ ha).1.symm.trans (N _ hb).1
  exact ne (congrArg Obj.data (Option.some.inj this))
end
section
local macro_rules | `(tactic| walk_at "call builtin:str.split") => `(tactic| refine Hold.of ?_)
local macro_rules | `(tactic| walk_at "call ref") => `(tactic| (k_here; (with_reducible show wpAny _ _ (call (Value.ref 154) _) _ _ _); refine Hold.of ?_))
local macro_rules | `(tactic| walk_at "call ref") => `(tactic| (k_here; (with_reducible show wpAny _ _ (call (Value.ref 187) _ _) _ _ _); refine Hold.of ?_))
local macro_rules | `(tactic| walk_at "compareOp Eq ref ref") => `(tactic| refine Hold.of ?_)
local macro_rules | `(tactic| walk_at "subscriptTail") => `(tactic| (k_here; k_dflt (refine' item_at (led_list ?N ?m) ?a ?b ?c ?_; (case N => k_asm); (case m => k_mem); (case a => decide); (case b => decide); (case c => exact rfl); k_whole)))
local macro_rules | `(tactic| walk_at "last subscriptTail") => `(tactic| (k_here; k_dflt (refine' item_at (led_list ?N ?m) ?a ?b ?c ?_; (case N => k_asm); (case m => k_mem); (case a => decide); (case b => decide); (case c => exact rfl); k_whole)))
local macro_rules | `(tactic| walk_at "last subscriptTail") => `(tactic| (k_here; (with_reducible show wpAny _ _ (subscriptTail _ (PySem.Expr.Slice _ _ _ _) _ _) _ _ _); refine Hold.of ?_))
local macro_rules | `(tactic| walk_at "subscriptTail") => `(tactic| (k_here; (with_reducible show wpAny _ _ (subscriptTail _ (PySem.Expr.Slice _ _ _ _) _ _) _ _ _); refine Hold.of ?_))
local macro_rules | `(tactic| walk_at "call ref") => `(tactic| (k_here; (with_reducible show wpAny _ _ (call (Value.ref 46) _) _ _ _); k_dflt (refine' (pretty_spec _ _ _ ?c1 _ _ _ _ _ _ _ _ _ _ _ _ _ _ _ _ _ _ _ _ _ ?cB ?cF ?cX ?cN ?cT ?cK ?cD ?cU trivial ?_); (case cB => k_asm); (case cF => k_asm); (case cX => k_asm); (case cN => k_asm); (case cT => k_asm); (case cK => exact rfl); (case cD => ktr_room); (case cU => ktr_units); (case c1 => assumption)); intro r8 tl8 h8 tk8 F8 N8 l8 e8; obtain ⟨e81, t8, e82⟩ := e8; subst e81; subst e82; rw [List.nil_append] at N8))
local macro_rules | `(tactic| walk_at "call ref") => `(tactic| (k_here; (with_reducible show wpAny _ _ (call (Value.ref 218) _) _ _ _); k_dflt (refine' (text_spec _ _ _ _ _ _ _ ?c1 ?c2 ?c3 _ _ _ _ _ _ _ _ _ _ _ _ _ _ _ _ _ _ _ _ _ ?cB ?cF ?cX ?cN ?cT ?cK ?cD ?cU trivial ?_); (case cB => k_asm); (case cF => k_asm); (case cX => k_asm); (case cN => k_asm); (case cT => k_asm); (case cK => exact rfl); (case cD => ktr_room); (case cU => ktr_units); (case c1 => assumption); (case c2 => assumption); (case c3 => assumption)); intro r8 tl8 h8 tk8 F8 N8 l8 e8; obtain ⟨e81, t8, e82⟩ := e8; subst e81; subst e82; rw [List.nil_append] at N8))
/-- the table in the ledger -/
structure Tab (w : World) (x d l : Addr) (t : Tok) (es : List Ent) (k : Nat) (news : List (Addr × Obj)) : Prop where
  hd : HdAt w x d l t (refsOf es) k news
  es : Ents es news
/-- all of the ledger but l stands -/
def Keeps (l : Addr) (news nw : List (Addr × Obj)) : Prop := ∀ p ∈ news, p.1 ≠ l → p ∈ nw
theorem led_ne {h₀ h : Heap} {L a b : Addr} {o o' : Obj} {news : List (Addr × Obj)} (N : News h₀ L h news) (ha : (a, o) ∈ news) (hb : (b, o') ∈ news) (ne : o.cls ≠ o'.cls) : a ≠ b := by
  rintro rfl
  have := (N _ ha).1.symm.trans (N _ hb).1
  exact ne (congrArg Obj.cls (Option.some.inj this))
theorem pick_last {vs : List Value} {y : Value} : slicePick (vs ++ [y]).toArray (some (-1)) none none = #[y] := by
  have e : sliceBounds (some (-1)) none none (vs ++ [y]).toArray.size = (((vs.length : Nat) : Int), ((vs.length + 1 : Nat) : Int), 1) := by
    simp only [sliceBounds, Option.getD_none, show (1 : Int) > 0 by decide, if_true, if_pos (show ((-1 : Int) < 0) by decide), List.size_toArray, List.length_append, List.length_cons, List.length_nil]
    congr 1
    · omega
  unfold slicePick
  rw [e]
  simp only [sliceRange_one, pick_run]
  simp
theorem law_len {p n g : Str} (hp : p.length ≤ 1000) (hn : n.length ≤ 1000) (hg : g.length ≤ 1000) : (lawText p n g).length ≤ 4000 := by
  have e1 : (Str.ofString "; what-it-needs=\"").length = 17 := by decide +kernel
  have e2 : (Str.ofString "\"; what-it-gives=\"").length = 18 := by decide +kernel
  have e3 : (Str.ofString "\"").length = 1 := by decide +kernel
  unfold lawText
  simp only [Str.length_append, e1, e2, e3]
  omega
theorem led_rule {h₀ h : Heap} {L a l : Addr} {news : List (Addr × Obj)} {p : Str} {tp : Tok} {r : List Value} {kr k : Nat} {es : List Ent} (N : News h₀ L h news) (ha : (a, listOf (Value.str p tp :: r).toArray kr) ∈ news) (hb : (l, listOf (refsOf es).toArray k) ∈ news) : a ≠ l := by
  rintro rfl
  have h1 := Option.some.inj ((N _ ha).1.symm.trans (N _ hb).1)
  have h2 : Data.seq (Value.str p tp :: r).toArray kr = Data.seq (refsOf es).toArray k := congrArg Obj.data h1
  have h3 : (Value.str p tp :: r).toArray = (refsOf es).toArray := by injection h2
  have h4 : Value.str p tp :: r = refsOf es := by simpa using h3
  cases es with
  | nil => cases h4
  | cons e es => cases h4
theorem lay_spec (w : World) (x d l ru : Addr) (t : Tok) (es : List Ent) (k kr : Nat) (p nd gv f : Str) (tp tnd tgv tz : Tok) (z : Nat) (hz : z < 2 ^ 15) (hzl : (flagsText z).length ≤ 1000) (fr : List Str) (hf : Txt.split (flagsText z) (Str.ofString ", ") = f :: fr) (hes : es.length ≤ 900)
  (hp : p.length ≤ 1000) (hn : f.length ≤ 1000) (hnd : nd.length ≤ 1000) (hgv : gv.length ≤ 1000)
  (hnd0 : 0 < nd.length) (hgv0 : 0 < gv.length) (cf : Clean f) (cp : Clean p) (cnd : Clean nd) (cgv : Clean gv) (q1 : 34 ∉ nd.cps.toList) (q2 : 92 ∉ nd.cps.toList) (q3 : 34 ∉ gv.cps.toList) (q4 : 92 ∉ gv.cps.toList) :
  SpecM 50 w 237 ⟨[.ref x, .ref ru, .int (z : Int) tz], []⟩ (fun news => Tab w x d l t es k news ∧ (ru, listOf #[.str p tp, .str nd tnd, .str gv tgv] kr) ∈ news)
    (fun news nw r => ∃ e k', e.n = f ∧ e.x = lawText p nd gv ∧ Tab w x d l t (es ++ [e]) k' nw ∧ Keeps l news nw ∧ r = .bool true) := by
  unfold SpecM
  k_fill
  intro mean mg mb dp un gd cn cs a ccd cl outer A₀ base h₀ L m news s Q E B F X N T hk hdp hun hpre hret
  dsimp only at hpre hret
  refine' code_def ?k1 ?k2 ?k3 ?k4 ?k5 ?kA ?kF ?kK ?k6 ?k7 ?k8 ?k9 ?kB ?_ ?c2 ?c3 ?c4 ?c5; (case kA => exact rfl); (case kF => exact rfl); (case kK => assumption); (case k1 => exact B); (case k2 => exact F); (case k3 => exact X); (case k4 => exact N); (case k5 => exact T); (case k6 => k_dflt k_is); (case k7 => k_dflt k_is); (case k8 => ktr_room); (case k9 => exact BindsTo.of_eq rfl); (case c5 => decide); (case kB => exact locs rfl); (case c2 => exact rfl); (case c3 => exact rfl); (case c4 => exact rfl)
  intro g' L' h' FG' F' N' B' X' T'
  dsimp only
  k_fold
  replace F' : Fr g' L' h' (fun y => List.lookup y [(Str.ofString "lacking", .int (z : Int) tz), (Str.ofString "rule", .ref ru), (Str.ofString "table", .ref x)]) := F'
  replace F' : Fr g' L' h' (fun y => if y = Str.ofString "lacking" then some (.int (z : Int) tz) else if y = Str.ofString "rule" then some (.ref ru) else if y = Str.ofString "table" then some (.ref x) else none) := by simpa only [lookup_ite, lookup_ite_nil] using F'
  clear B F X N T FG'
  obtain ⟨⟨⟨hx1, hx2, hx3⟩, hx4, hx5, hx6⟩, hru⟩ := hpre
  k_steps
  refine Hold.out (KSpl.split1 (by k_asm) (by k_asm) (by decide) ?_ (by rw [sizeLine_eq]; omega))
  intro D pl h₁ k₁ e₁ a₁ F₁ N₁ l₁
  rw [hf] at e₁
  obtain ⟨_, _, ksplR, ksplE⟩ := KSpl.cons_of e₁
  subst ksplR
  simp only [strValues, List.map_cons] at N₁
  k_steps
  rename_i tf₇ prest₇ h₇ F₇ N₇ _ _
  refine Hold.out (wpAny_call (add_spec w x d l t (refsOf es) k f p nd gv _ tp tnd tgv (by simp; omega) hn hp hnd hgv hnd0 hgv0 cf cp cnd cgv q1 q2 q3 q4 _ _ _ _ _ _ _ _ _ _ _ _ _ _ _ _ _ _ _ _ _ (by k_asm) F₇ (by k_asm) N₇ (by k_asm) (by exact rfl) (by ktr_room) (by ktr_units) ⟨by k_mem, by k_mem, by k_mem⟩ ?_))
  intro r8 nw8 h8 tk8 F8 N8 e8
  obtain ⟨a9, k9, tx9, e81, hfresh, e82⟩ := e8
  subst e82
  have hxl : x ≠ l := led_ne N₇ (List.mem_cons_of_mem _ hx1) (List.mem_cons_of_mem _ hx3) (by nofun)
  have hdl : d ≠ l := led_ne N₇ (List.mem_cons_of_mem _ hx2) (List.mem_cons_of_mem _ hx3) (by show (Value.type "dict") ≠ Value.type "list"; decide)
  have keep : ∀ q ∈ news, q.1 ≠ l → q ∈ nw8 := fun q hq hne => by
    rw [e81]
    exact List.mem_cons_of_mem _ (List.mem_cons_of_mem _ (List.mem_filter.mpr ⟨List.mem_cons_of_mem _ hq, by simpa using hne⟩))
  have hru8 := keep _ hru (led_rule N₇ (List.mem_cons_of_mem _ hru) (List.mem_cons_of_mem _ hx3))
  have hT : Tab w x d l t (es ++ [⟨a9, f, tf₇, lawText p nd gv, tx9, 0⟩]) k9 nw8 := by
    refine ⟨⟨keep _ hx1 hxl, keep _ hx2 hdl, ?_⟩, ⟨?_, ?_, ?_⟩⟩
    · rw [e81]; simp
    · intro e he
      rcases List.mem_append.mp he with he | he
      · exact keep _ (hx4 e he) (led_ne N₇ (List.mem_cons_of_mem _ (hx4 e he)) (List.mem_cons_of_mem _ hx3) (by show (Value.type "tuple") ≠ Value.type "list"; decide))
      · rw [List.mem_singleton.mp he, e81]
        exact List.mem_cons_self
    · intro e he
      rcases List.mem_append.mp he with he | he
      · exact hx5 e he
      · rw [List.mem_singleton.mp he]
        exact ⟨hn, law_len hp hnd hgv⟩
    · rw [List.length_append]; simp; omega
  clear e81
  have hl9 : ∀ e ∈ [(⟨a9, f, tf₇, lawText p nd gv, tx9, 0⟩ : Ent)], e ∈ es ++ [⟨a9, f, tf₇, lawText p nd gv, tx9, 0⟩] := fun e he => List.mem_append_right _ he
  have hz9 : (es ++ [(⟨a9, f, tf₇, lawText p nd gv, tx9, 0⟩ : Ent)]).length ≤ 1000 := by rw [List.length_append]; simp; omega
  have hr9 : refsOf (es ++ [(⟨a9, f, tf₇, lawText p nd gv, tx9, 0⟩ : Ent)]) = refsOf es ++ [Value.ref a9] := by simp
  have hfin : ∀ es9, es9 = es ++ [(⟨a9, f, tf₇, lawText p nd gv, tx9, 0⟩ : Ent)] → Tab w x d l t es9 k9 nw8 → ∃ (e : Ent) (k' : Nat), e.n = f ∧ e.x = lawText p nd gv ∧ Tab w x d l t (es ++ [e]) k' nw8 ∧ Keeps l news nw8 ∧ Value.bool true = Value.bool true := fun es9 e h => ⟨_, _, rfl, rfl, e ▸ h, keep, rfl⟩
  generalize hes9 : es ++ [(⟨a9, f, tf₇, lawText p nd gv, tx9, 0⟩ : Ent)] = es9 at hT hl9 hz9 hr9
  have hy1 := hT.hd.inst
  have hy2 := hT.hd.dict
  have hy3 := hT.hd.list
  k_steps
  rename_i h₆ F₆ N₆ _ _
  refine Hold.out (wpAny_call (items_spec w x d l t (refsOf es9) k9 (by simp; omega) _ _ _ _ _ _ _ _ _ _ _ _ _ _ _ _ _ _ _ _ _ (by k_asm) F₆ (by k_asm) N₆ (by k_asm) (by exact rfl) (by ktr_room) (by ktr_units) hT.hd ?_))
  intro r8 nw9 h8 tk8 F8 N8 e8
  obtain ⟨a6, e81, hlt6, e82⟩ := e8
  subst e81; subst e82
  dsimp only
  k_steps
  refine Hold.out ?_
  k_dflt (refine' slice_tmp (zs := refsOf [⟨a9, f, tf₇, lawText p nd gv, tx9, 0⟩]) ?sF ?sN ?sl ?sp ?sq ?se ?_ ?ss ?sz; (case sF => exact F8); (case sN => exact N8); (case sl => exact led_list N8 List.mem_cons_self); (case sp => exact IsPart.int _ _); (case sq => exact IsPart.none); (case se => (rw [hr9, pick_last]; rfl)); (case ss => with_unfolding_all rfl); (case sz => (rw [List.size_toArray, sizeLine_eq]; simp; omega)))
  intro D9 h9 F9 N9 l9
  k_steps
  rename_i tx₅ _ D₅ _ _ l₅ h₅ F₅ N₅ _
  have hmem : ∀ {e : Ent}, e ∈ es9 → h₅.get? e.a = some e.obj := fun he => (N₅ _ (List.mem_cons_of_mem _ (List.mem_cons_of_mem _ (List.mem_cons_of_mem _ (List.mem_cons_of_mem _ (hT.es.mem _ he)))))).1
  have hlt : Clean (lawText p nd gv) := clean_law cp cnd cgv
  have ra := reads_tab (h := h₅) (D := D9) (es := [⟨a9, f, tf₇, lawText p nd gv, tx9, 0⟩]) ⟨_, (N₅ _ (List.mem_cons_of_mem _ (List.mem_cons_of_mem _ List.mem_cons_self))).1, rfl, _, rfl⟩ (fun e he => by rw [List.mem_singleton.mp he]; exact hmem (hl9 _ List.mem_cons_self))
  have rb := reads_tab (h := h₅) (D := l₅) (es := [⟨D₅, f, tf₇, lawText p nd gv, tx₅, 0⟩]) ⟨_, (N₅ _ List.mem_cons_self).1, rfl, _, rfl⟩ (fun e he => by rw [List.mem_singleton.mp he]; exact (N₅ _ (List.mem_cons_of_mem _ List.mem_cons_self)).1)
  have sh : ∀ (a : Addr) (tx : Tok), PySem.SeqAt.shaped (.list (pairsOf [⟨a, f, tf₇, lawText p nd gv, tx, 0⟩])) = true := fun a tx => shaped_tab (fun e he => by rw [List.mem_singleton.mp he]; exact ⟨clean_ok cf, clean_ok hlt⟩)
  refine Hold.out ?_
  refine eq_dataH ra rb (sh _ _) (sh _ _) (by ktr_units) ?_
  rw [show PyData.eqv (.list (pairsOf [⟨a9, f, tf₇, lawText p nd gv, tx9, 0⟩])) (.list (pairsOf [⟨D₅, f, tf₇, lawText p nd gv, tx₅, 0⟩])) = true from PySem.SeqAt.eqv_refl _ (PySem.SeqAt.canLay_of_shaped (sh 0 0))]
  dsimp only
  refine leave_with (keep := nw8) F₅ N₅ (fun p hp => (List.mem_cons_of_mem _ (List.mem_cons_of_mem _ (List.mem_cons_of_mem _ (List.mem_cons_of_mem _ hp))))) fun kF kN => ?_
  exact hret _ _ _ _ kF kN (hfin es9 hes9.symm hT)
end
section
local macro_rules | `(tactic| k_all) => `(tactic| assumption)
local macro_rules | `(tactic| walk_at "call builtin:str.split") => `(tactic| refine Hold.of ?_)
local macro_rules | `(tactic| walk_at "eval ListComp") => `(tactic| refine Hold.of ?_)
local macro_rules | `(tactic| walk_at "CompSrcT") => `(tactic| refine Hold.of ?_)
local macro_rules | `(tactic| walk_at "subscriptTail Name Slice str ref") => `(tactic| (k_here; (with_reducible show wpAny _ _ (subscriptTail _ (PySem.Expr.Slice (some _) none none _) (Value.str _ _) (Value.ref _)) _ _ _); (with_reducible rename Fr _ _ _ _ => F'); (with_reducible rename News _ _ _ _ => N'); dsimp only; (refine slice_strN_sn_len (hsz := ?hsz) (s := ⟨_, _, _, _, _⟩) F' N' ?_); (case hsz => (rw [sizeLine_eq]; omega)); intro _ _ _ _ _ kslL; (generalize hc1 : Txt.slice _ _ _ = c1 at kslL ⊢); (have kslB : Str.length c1 ≤ 1000 := by omega)))
local macro_rules | `(tactic| walk_at "subscriptTail") => `(tactic| (k_here; (with_reducible show wpAny _ _ (subscriptTail _ _ (Value.str _ _) (Value.int _ _)) _ _ _); (refine KXi.item (n := Str.length _) rfl (by omega) (by omega) (by omega) ?_); intro kxiE; (generalize hc0 : Txt.item _ _ = c0 at kxiE ⊢)))
local macro_rules | `(tactic| walk_at "call builtin:str.upper") => `(tactic| (k_here; (with_reducible show wpAny _ _ (call (Value.builtin "str.upper") [Value.str _ _]) _ _ _); (refine SCL.upper (by omega) ?_); intro _))
local macro_rules | `(tactic| walk_at "call builtin:str.lower") => `(tactic| (k_here; (with_reducible show wpAny _ _ (call (Value.builtin "str.lower") [Value.str _ _]) _ _ _); (refine SCL.lower (by omega) ?_); intro _))
local macro_rules | `(tactic| walk_at "compareOp NotEq ref ref") => `(tactic| refine Hold.of ?_)
local macro_rules | `(tactic| walk_at "binaryOp Add ref ref") => `(tactic| refine Hold.of ?_)
local macro_rules | `(tactic| walk_at "CompSrc") => `(tactic| refine Hold.of ?_)
local macro_rules | `(tactic| walk_at "delItem ref str") => `(tactic| refine Hold.of ?_)
local macro_rules | `(tactic| walk_at "call ref") => `(tactic| (k_here; (with_reducible show wpAny _ _ (call (Value.ref 129) _) _ _ _); refine Hold.of ?_))
local macro_rules | `(tactic| walk_at "call ref") => `(tactic| (k_here; (with_reducible show wpAny _ _ (call (Value.ref 154) _) _ _ _); refine Hold.of ?_))
local macro_rules | `(tactic| walk_at "call ref") => `(tactic| (k_here; (with_reducible show wpAny _ _ (call (Value.ref 225) _) _ _ _); refine Hold.of ?_))
local macro_rules | `(tactic| walk_at "call ref") => `(tactic| (k_here; (with_reducible show wpAny _ _ (call (Value.ref 46) _) _ _ _); k_dflt (refine' (pretty_spec _ _ _ ?c1 _ _ _ _ _ _ _ _ _ _ _ _ _ _ _ _ _ _ _ _ _ ?cB ?cF ?cX ?cN ?cT ?cK ?cD ?cU trivial ?_); (case cB => k_asm); (case cF => k_asm); (case cX => k_asm); (case cN => k_asm); (case cT => k_asm); (case cK => exact rfl); (case cD => ktr_room); (case cU => ktr_units); (case c1 => assumption)); intro r8 tl8 h8 tk8 F8 N8 l8 e8; obtain ⟨e81, t8, e82⟩ := e8; subst e81; subst e82; rw [List.nil_append] at N8))
theorem mem_perm {a b c : Addr × Obj} {l : List (Addr × Obj)} {p : Addr × Obj} (h : p ∈ c :: a :: b :: l) : p ∈ a :: b :: c :: l := by
  simp only [List.mem_cons] at h ⊢
  rcases h with h | h | h | h
  · exact .inr (.inr (.inl h))
  · exact .inl h
  · exact .inr (.inl h)
  · exact .inr (.inr (.inr h))
def IsWord (x : Str) : Prop := x ∈ words15
def nameOf (wd : Str) : Str := Txt.item wd 0 ++ Txt.lower (Txt.slice wd (some 1) none)
theorem word_facts (wd : Str) (h : IsWord wd) : 0 < wd.length ∧ wd.length ≤ 30 ∧ Txt.lower (nameOf wd) = Txt.lower wd ∧ Clean (Txt.lower (nameOf wd)) ∧ (nameOf wd).length ≤ 30 := by
  have h1 : words15.all (fun wd => decide (0 < wd.length) && decide (wd.length ≤ 30) && (Txt.lower (nameOf wd) == Txt.lower wd) && ((Txt.lower (nameOf wd)).cps.toList.all fun c => decide (32 ≤ c) && decide (c < 127)) && decide ((nameOf wd).length ≤ 30)) = true := by decide +kernel
  have h2 := List.all_eq_true.mp h1 wd h
  simp only [Bool.and_eq_true, decide_eq_true_eq, beq_iff_eq, List.all_eq_true] at h2
  exact ⟨h2.1.1.1.1, h2.1.1.1.2, h2.1.1.2, fun c hc => h2.1.2 c hc, h2.2⟩
theorem HdAt.mono {w : World} {x d l : Addr} {t : Tok} {vs : List Value} {k : Nat} {news nw : List (Addr × Obj)} (h : HdAt w x d l t vs k news) (sub : ∀ p ∈ news, p ∈ nw) : HdAt w x d l t vs k nw := ⟨sub _ h.inst, sub _ h.dict, sub _ h.list⟩
theorem Ents.mono {es : List Ent} {news nw : List (Addr × Obj)} (h : Ents es news) (sub : ∀ p ∈ news, p ∈ nw) : Ents es nw := ⟨fun e he => sub _ (h.mem e he), h.short, h.len⟩
theorem Tab.mono {w : World} {x d l : Addr} {t : Tok} {es : List Ent} {k : Nat} {news nw : List (Addr × Obj)} (h : Tab w x d l t es k news) (sub : ∀ p ∈ news, p ∈ nw) : Tab w x d l t es k nw := ⟨h.hd.mono sub, h.es.mono sub⟩
theorem word_lower (a b : Str) (ha : IsWord a) (hb : IsWord b) : (Txt.lower a == Txt.lower b) = (a == b) := by
  have h1 : words15.all (fun a => words15.all fun b => (Txt.lower a == Txt.lower b) == (a == b)) = true := by decide +kernel
  exact eq_of_beq (List.all_eq_true.mp (List.all_eq_true.mp h1 a ha) b hb)
abbrev textsOf (es : List Ent) (wd : Str) : List (Str × Tok) := (es.filter fun e => e.n == wd).map fun e => (e.x, e.tx)
theorem got_texts {es : List Ent} {wd : Str} (hwd : IsWord wd) (hes : ∀ e ∈ es, IsWord e.n) : gotAll es (Txt.lower (nameOf wd)) es.length = textsOf es wd := by
  unfold gotAll
  rw [List.take_length, (word_facts wd hwd).2.2.1]
  congr 1
  exact List.filter_congr fun e he => word_lower _ _ (hes e he) hwd
theorem texts_yes {es : List Ent} {wd : Str} {j : Nat} {e : Ent} (h : es[j]? = some e) (hp : (e.n == wd) = true) : textsOf (es.take (j + 1)) wd = textsOf (es.take j) wd ++ [(e.x, e.tx)] := by
  unfold textsOf
  rw [List.take_add_one, h, List.filter_append, List.map_append]; simp [hp]
theorem texts_no {es : List Ent} {wd : Str} {j : Nat} {e : Ent} (h : es[j]? = some e) (hp : (e.n == wd) = false) : textsOf (es.take (j + 1)) wd = textsOf (es.take j) wd := by
  unfold textsOf
  rw [List.take_add_one, h, List.filter_append, List.map_append]; simp [hp]
theorem strValues_at {l : List (Str × Tok)} {j : Nat} {v : Value} (h : (strValues l).toArray[j]? = some v) : ∃ hj : j < l.length, v = .str (l[j]).1 (l[j]).2 := by
  have hj : j < l.length := by
    have := (Array.getElem?_eq_some_iff.mp h).1
    simpa [strValues] using this
  refine ⟨hj, ?_⟩
  simp [strValues, hj] at h
  exact h.symm
theorem mem_perm4 {a b c d : Addr × Obj} {l : List (Addr × Obj)} {p : Addr × Obj} (h : p ∈ b :: c :: d :: a :: l) : p ∈ [a] ++ b :: c :: d :: l := by
  simp only [List.mem_cons, List.mem_append, List.not_mem_nil, or_false] at h ⊢
  rcases h with h | h | h | h | h
  · exact .inr (.inl h)
  · exact .inr (.inr (.inl h))
  · exact .inr (.inr (.inr (.inl h)))
  · exact .inl h
  · exact .inr (.inr (.inr (.inr h)))
theorem up_facts (wd : Str) (h : IsWord wd) : Clean (Txt.lower (Txt.upper wd)) ∧ Txt.lower (Txt.upper wd) = Txt.lower wd := by
  have h1 : words15.all (fun wd => (Txt.lower (Txt.upper wd) == Txt.lower wd) && ((Txt.lower (Txt.upper wd)).cps.toList.all fun c => decide (32 ≤ c) && decide (c < 127))) = true := by decide +kernel
  have h2 := List.all_eq_true.mp h1 wd h
  simp only [Bool.and_eq_true, decide_eq_true_eq, beq_iff_eq, List.all_eq_true] at h2
  exact ⟨fun c hc => h2.2 c hc, h2.1⟩
theorem kept_left {es : List Ent} {wd : Str} (hwd : IsWord wd) (hes : ∀ e ∈ es, IsWord e.n) : keptAll es (Txt.lower (Txt.upper wd)) es.length = es.filter fun e => !(e.n == wd) := by
  unfold keptAll
  rw [List.take_length, (up_facts wd hwd).2]
  refine List.filter_congr fun e he => ?_
  have := word_lower _ _ (hes e he) hwd
  rw [bne, this]
theorem shaped_texts {l : List (Str × Tok)} (h : ∀ p ∈ l, PyData.strOk p.1 = true) : PySem.SeqAt.shaped (.list (l.map fun p => PyData.str p.1)) = true := shaped_strs h
/-- a rule read out of a text: a list of three texts -/
structure Rul where
  a : Addr
  p : Str
  n : Str
  g : Str
  tp : Tok
  tn : Tok
  tg : Tok
  k : Nat
abbrev Rul.obj (r : Rul) : Obj := listOf #[.str r.p r.tp, .str r.n r.tn, .str r.g r.tg] r.k
abbrev Rul.key (r : Rul) : Str × Str × Str := (r.p, r.n, r.g)
abbrev refsR (rs : List Rul) : List Value := rs.map fun r => .ref r.a
def Parses (x : Str) (r : Str × Str × Str) : Prop := ∃ q m z tl, x.length ≤ 2000 ∧ Txt.split x (Str.ofString "\"") = [q, r.2.1, m, r.2.2, z] ∧ q.length ≤ 2000 ∧ Txt.split q (Str.ofString ";") = r.1 :: tl
def leftOf (es : List Ent) (ws : List Str) : List Ent := es.filter fun e => !ws.contains e.n
def takenOf (parse : Str → Str × Str × Str) (es : List Ent) (ws : List Str) : List (Str × Str × Str) := ws.flatMap fun wd => (es.filter fun e => e.n == wd).map fun e => parse e.x
theorem take_snoc {ws : List Str} {i : Nat} {wd : Str} (hi : i < ws.length) (hw : ws[i] = wd) : ws.take (i + 1) = ws.take i ++ [wd] := by rw [List.take_succ_eq_append_getElem hi, hw]
theorem left_succ {es ei : List Ent} {ws : List Str} {i : Nat} {wd : Str} (hi : i < ws.length) (hw : ws[i] = wd) (he : leftOf es (ws.take i) = ei) : leftOf es (ws.take (i + 1)) = ei.filter fun e => !(e.n == wd) := by
  rw [← he, take_snoc hi hw, leftOf, leftOf, List.filter_filter]
  refine List.filter_congr fun e _ => ?_
  simp only [List.contains_eq_mem, List.mem_append, List.mem_singleton]
  by_cases h1 : e.n ∈ ws.take i <;> by_cases h2 : e.n = wd <;> simp [h1, h2]
theorem taken_succ {parse : Str → Str × Str × Str} {es ei : List Ent} {ws : List Str} {i : Nat} {wd : Str} (hi : i < ws.length) (hw : ws[i] = wd) (hnd : ws.Nodup) (he : leftOf es (ws.take i) = ei) :
    takenOf parse es (ws.take (i + 1)) = takenOf parse es (ws.take i) ++ (textsOf ei wd).map fun p => parse p.1 := by
  rw [← he, take_snoc hi hw, takenOf, takenOf, List.flatMap_append]
  congr 1
  have h1 : wd ∉ ws.take i := by
    intro hm
    have h2 : (ws.take (i + 1)).Nodup := hnd.sublist (List.take_sublist _ _)
    rw [take_snoc hi hw] at h2
    exact (List.nodup_append.mp h2).2.2 wd hm wd (List.mem_singleton.mpr rfl) rfl
  simp only [List.flatMap_cons, List.flatMap_nil, List.append_nil, textsOf, List.map_map, leftOf, List.filter_filter]
  have h4 : (es.filter fun e => e.n == wd) = es.filter fun a => (a.n == wd) && !(ws.take i).contains a.n := by
    refine List.filter_congr fun e _ => ?_
    by_cases h2 : e.n = wd
    · simp [h2, h1]
    · simp [h2]
  rw [h4]
  rfl
theorem taken_len {parse : Str → Str × Str × Str} {es : List Ent} : ∀ ws : List Str, (takenOf parse es ws).length ≤ ws.length * es.length
  | [] => by simp [takenOf]
  | wd :: ws => by
    have := taken_len (parse := parse) (es := es) ws
    have h2 := List.length_filter_le (fun e => e.n == wd) es
    simp only [takenOf, List.flatMap_cons, List.length_append, List.length_map, List.length_cons] at this ⊢
    rw [Nat.add_mul, Nat.one_mul]
    omega
def TakeJ (w : World) (x d l : Addr) (t : Tok) (es : List Ent) (parse : Str → Str × Str × Str) (ws : List Str) (L' D : Addr) (pl : List (Str × Tok)) (news : List (Addr × Obj)) (i : Nat) (m : Str → Option Value) (nw : List (Addr × Obj)) : Prop :=
  ∃ o c nw' ai ki rs k', nw = (L' + 1, o) :: nw' ∧ o.data = .cell c ∧ (∀ p ∈ nw', p.1 ≠ L' + 1) ∧ m (Str.ofString "table") = some (.ref x) ∧ m (Str.ofString "taken") = some (.ref ai) ∧ (ai, listOf (refsR rs).toArray ki) ∈ nw' ∧ (∀ r ∈ rs, (r.a, r.obj) ∈ nw') ∧
    rs.map Rul.key = takenOf parse es (ws.take i) ∧ Tab w x d l t (leftOf es (ws.take i)) k' nw' ∧ Keeps l news nw' ∧ (D, listOf (strValues pl).toArray 0) ∈ nw' ∧ ai ≠ l
theorem take_spec (w : World) (x d l : Addr) (t tz : Tok) (es : List Ent) (k : Nat) (z : Nat) (hz : z < 2 ^ 15) (hzl : (flagsText z).length ≤ 1000) (ws : List Str) (hws : Txt.split (flagsText z) (Str.ofString ", ") = ws) (hw5 : ws.length ≤ 5) (hwd : ∀ wd ∈ ws, IsWord wd) (hnd : ws.Nodup) (hew : ∀ e ∈ es, IsWord e.n) (hec : ∀ e ∈ es, PyData.strOk e.x = true)
  (parse : Str → Str × Str × Str) (hp : ∀ e ∈ es, Parses e.x (parse e.x)) (hes : es.length ≤ 900) :
  SpecM 60 w 242 ⟨[.ref x, .int (z : Int) tz], []⟩ (fun news => Tab w x d l t es k news)
    (fun news nw r => ∃ ai ki rs k', r = .ref ai ∧ (ai, listOf (refsR rs).toArray ki) ∈ nw ∧ (∀ r ∈ rs, (r.a, r.obj) ∈ nw) ∧ rs.map Rul.key = takenOf parse es ws ∧ Tab w x d l t (leftOf es ws) k' nw ∧ Keeps l news nw) := by
  unfold SpecM
  k_fill
  intro mean mg mb dp un gd cn cs a ccd cl outer A₀ base h₀ L m news s Q E B F X N T hk hdp hun hpre hret
  dsimp only at hpre hret
  refine' code_defC ?k1 ?k2 ?k3 ?k4 ?k5 ?kA ?kF ?kK ?k6 ?k7 ?k8 ?k9 ?kB ?kD ?_ ?c2 ?c3 ?c4; (case kA => exact rfl); (case kF => exact rfl); (case kK => assumption); (case k1 => exact B); (case k2 => exact F); (case k3 => exact X); (case k4 => exact N); (case k5 => exact T); (case k6 => k_dflt k_is); (case k7 => k_dflt k_is); (case k8 => ktr_room); (case k9 => exact BindsTo.of_eq rfl); (case kB => exact rfl); (case kD => decide +kernel); (case c2 => exact rfl); (case c3 => exact rfl); (case c4 => exact rfl)
  intro g' L' h' tk' cells' FG' F' N' Y' B' X' T' l1
  dsimp only
  k_fold
  obtain ⟨o1, hE', d1⟩ := CellsAre.one Y'; subst hE'; clear Y'
  simp only [List.cons_append, List.nil_append] at N'
  replace d1 : o1.data = .cell (none) := d1
  replace F' : Fr g' L' h' (fun y => if y = Str.ofString "reached" then some (.int (z : Int) tz) else if y = Str.ofString "table" then some (.ref x) else none) := F'
  clear B F X N T FG'
  k_steps
  refine Hold.out (for_src ?_)
  k_steps
  refine Hold.out (KSpl.split1 (by k_asm) (by k_asm) (by decide) ?_ (by rw [sizeLine_eq]; omega))
  intro D pl h₁ k₁ e₁ a₁ F₁ N₁ l₁
  rw [hws] at e₁
  have l₁t := l₁ _ List.mem_cons_self
  have l₁c2 := l₁ _ (List.mem_cons_of_mem _ List.mem_cons_self)
  have hDl : D ≠ l := Nat.ne_of_gt (l₁ _ (List.mem_cons_of_mem _ (List.mem_cons_of_mem _ hpre.hd.list)))
  rename _ ∧ AllLt _ _ => l₁l
  refine for_list (TakeJ w x d l t es parse ws L' D pl news) (by rfl) (news := (L' + 1, o1) :: (D, listOf (strValues pl).toArray 0) :: (_, listOf (refsR []).toArray 0) :: news) (.inr ⟨_, List.mem_cons_of_mem _ List.mem_cons_self, rfl, _, rfl⟩) F₁ (fun p hp => N₁ p (mem_perm hp)) ⟨o1, _, _, _, 0, [], k, rfl, d1, ?_, rfl, rfl, List.mem_cons_of_mem _ List.mem_cons_self, (fun r hr => by cases hr), ?_, ?_, ?_, List.mem_cons_self, ?_⟩ ?_ ?_
  · intro p hp
    rcases List.mem_cons.mp hp with rfl | hp
    · exact Nat.ne_of_gt l₁c2
    · rcases List.mem_cons.mp hp with rfl | hp
      · exact Nat.ne_of_gt l₁l.1
      · exact Nat.ne_of_lt (Nat.lt_succ_of_lt (l1 p hp))
  · simp [takenOf]
  · rw [show leftOf es (ws.take 0) = es by simp [leftOf]]
    exact hpre.mono fun p hp => List.mem_cons_of_mem _ (List.mem_cons_of_mem _ hp)
  · intro p hp _
    exact List.mem_cons_of_mem _ (List.mem_cons_of_mem _ hp)
  · exact Nat.ne_of_gt (allLt_mem l₁l.2 _ hpre.hd.list)
  · rintro i v m₁ nw h tk I oI E' hv ⟨o, c, nw', ai, ki, rs, k', rfl, hc, hoc, hm1, hm2, ht1, ht2, ht3, hT, hK, hDm, hail⟩ hS F₂ N₂ off
    have hi : i < pl.length := by
      have := (Array.getElem?_eq_some_iff.mp hv).1
      simpa [strValues] using this
    have hv' : v = .str (pl[i]).1 (pl[i]).2 := by simp [strValues, hi] at hv; exact hv.symm
    subst hv'
    have hwi : ws[i]'(by rw [← e₁, List.length_map]; exact hi) = (pl[i]).1 := by simp [← e₁]
    have hi₉ : i < ws.length := by rw [← e₁]; simpa using hi
    have hw15 : IsWord (pl[i]).1 := hwd _ (hwi ▸ List.getElem_mem _)
    generalize (pl[i]).1 = wd at *
    generalize (pl[i]).2 = twd at *
    obtain ⟨⟨hx1, hx2, hx3⟩, hx4, hx5, hx6⟩ := id hT
    have hI : @Ne Nat (L' + 1) I := off _ List.mem_cons_self
    have hI2 : ∀ p ∈ nw', p.1 ≠ I := fun p hp => off p (List.mem_cons_of_mem _ hp)
    obtain ⟨hw0, hw30, hlw, hcw, hlen⟩ := word_facts wd hw15
    have hei1 : ∀ e ∈ leftOf es (ws.take i), IsWord e.n := fun e he => hew e (List.mem_filter.mp he).1
    have hei2 : ∀ e ∈ leftOf es (ws.take i), PyData.strOk e.x = true := fun e he => hec e (List.mem_filter.mp he).1
    have hei3 : ∀ e ∈ leftOf es (ws.take i), Parses e.x (parse e.x) := fun e he => hp e (List.mem_filter.mp he).1
    have hei4 : (leftOf es (ws.take i)).length ≤ 900 := Nat.le_trans (List.length_filter_le _ _) hes
    generalize hesi : leftOf es (ws.take i) = ei at *
    dsimp only
    k_steps
    rename Txt.slice _ _ _ = _ => hc1
    subst hc1
    rename Fr _ _ _ _ => F₇
    rename News _ _ _ _ => N₇
    rename (Obj.data _ = Data.cell (some (Value.str wd _))) => d₇
    refine Hold.out (wpAny_call (getall_spec w x d l t ei k' (nameOf wd) _ (by omega) hcw _ _ _ _ _ _ _ _ _ _ _ _ _ _ _ _ _ _ _ _ _ (by k_asm) F₇ (by k_asm) N₇ (by k_asm) (by exact rfl) (by ktr_room) (by ktr_units) ⟨hT.hd.mono fun p hp => List.mem_cons_of_mem _ (List.mem_cons_of_mem _ hp), hT.es.mono fun p hp => List.mem_cons_of_mem _ (List.mem_cons_of_mem _ hp)⟩ ?_))
    intro r8 nw8 h8 tk8 F8 N8 e8
    obtain ⟨a9, k9, e81, hfresh, e82⟩ := e8
    subst e81; subst e82
    rw [got_texts hw15 hei1] at N8
    clear F₇ N₇
    dsimp only
    k_steps
    refine Hold.out ?_
    k_dflt (refine ListComp_pair (by k_asm) (by with_unfolding_all rfl) (by decide) (by rfl) (by decide) (by rfl) (by rfl) (by decide) ?_)
    k_steps
    rename Fr _ _ _ _ => F₇
    rename News _ _ _ _ => N₇
    refine Hold.out (wpAny_call (items_spec w x d l t (refsOf ei) k' (by simp; omega) _ _ _ _ _ _ _ _ _ _ _ _ _ _ _ _ _ _ _ _ _ (by k_asm) F₇ (by k_asm) N₇ (by k_asm) (by exact rfl) (by ktr_room) (by ktr_units) (hT.hd.mono fun p hp => List.mem_cons_of_mem _ (List.mem_cons_of_mem _ (List.mem_cons_of_mem _ hp))) ?_))
    intro r8 nw9 h8 tk8 F8 N8 e8
    obtain ⟨a6, e81, hlt6, e82⟩ := e8
    subst e81; subst e82
    clear F₇ N₇
    dsimp only
    rename Obj => o₂
    refine ⟨a6, (refsOf ei).toArray, fun nw => nw = (a6, listOf (refsOf ei).toArray 0) :: (a9, listOf (strValues (textsOf ei wd)).toArray k9) :: (I, oI) :: (L' + 1, o₂) :: nw', fun j a b => ∃ e, ei[j]? = some e ∧ a = .str e.n e.tn ∧ b = .str e.x e.tx, _, fun j ys nw => nw = (a6, listOf (refsOf ei).toArray 0) :: (a9, listOf (strValues (textsOf ei wd)).toArray k9) :: (I, oI) :: (L' + 1, o₂) :: nw' ∧ ys = strValues (textsOf (ei.take j) wd), rfl, by rfl, F8, N8, ?_, ?_, ?_, rfl, ⟨rfl, by simp [strValues]⟩, ?_⟩
    · rw [List.size_toArray, List.length_map, sizeLine_eq]; omega
    · rintro nw rfl
      exact .inr ⟨_, List.mem_cons_self, rfl, _, rfl⟩
    · rintro j v h nw hv hk N rfl
      have hj : j < ei.length := by
        have := (Array.getElem?_eq_some_iff.mp hv).1
        simpa using this
      have hv' : v = .ref (ei[j]).a := by simp [hj] at hv; exact hv.symm
      have hm := hx4 (ei[j]) (List.getElem_mem hj)
      exact ⟨(ei[j]).a, _, _, hv', ⟨_, (N _ (List.mem_cons_of_mem _ (List.mem_cons_of_mem _ (List.mem_cons_of_mem _ (List.mem_cons_of_mem _ hm))))).1, rfl, _, rfl⟩, ei[j], by simp [hj], rfl, rfl⟩
    · rintro s₂ ⟨g, rfl⟩
      refine ⟨?_, ?_⟩
      · rintro j ys nw hj ⟨rfl, hg⟩ a b I₂ oI₂ C oC D₂ m₂ h tk E'' ⟨e, he, rfl, rfl⟩ hC hx hy F₃ N₃ off₃ ne
        subst hg
        have he15 := hei1 e (List.mem_of_getElem? he)
        have hen := (hx5 e (List.mem_of_getElem? he)).1
        k_steps
        · have hb : (e.n == wd) = true := by first | assumption | exact beq_iff_eq.mpr (by assumption)
          exact LCg.CompEnd.intro F₃ N₃ _ (fun p hp => hp) off₃ rfl ⟨rfl, by rw [texts_yes he hb]; simp [strValues]⟩
        · have hb : (e.n == wd) = false := by first | assumption | exact beq_eq_false_iff_ne.mpr (by assumption) | simp_all
          exact LCg.CompEnd.intro F₃ N₃ _ (fun p hp => hp) off₃ rfl ⟨rfl, by rw [texts_no he hb]⟩
      · rintro ys nw ⟨rfl, rfl⟩
        intro D₂ h tk F' N' o1
        k_steps
        have hsz9 : ei.take (refsOf ei).toArray.size = ei := by simp
        have hok : ∀ p ∈ textsOf ei wd, PyData.strOk p.1 = true := by
          intro p hp
          obtain ⟨e, he, rfl⟩ := List.mem_map.mp hp
          exact hei2 e (List.mem_filter.mp he).1
        have hst := shaped_texts hok
        refine Hold.out (ne_dataH (reads_newData (led_list N' (List.mem_cons_of_mem _ (List.mem_cons_of_mem _ List.mem_cons_self))) (carried_strs (textsOf ei wd))) (reads_newData ⟨_, (N' _ List.mem_cons_self).1, rfl, _, rfl⟩ (carried_strs _)) hst (by rw [hsz9]; exact hst) (by ktr_units) ?_)
        rw [hsz9, show PyData.eqv (.list ((textsOf ei wd).map fun p => PyData.str p.1)) (.list ((textsOf ei wd).map fun p => PyData.str p.1)) = true from PySem.SeqAt.eqv_refl _ (PySem.SeqAt.canLay_of_shaped hst)]
        rw [hsz9] at N'
        dsimp only
        k_steps
        refine Hold.out ?_
        rename Fr _ _ _ _ => F₇
        rename News _ _ _ _ => N₇
        k_dflt (refine LCg.ListComp_U (F₀ := F₇) (by with_unfolding_all rfl) (by decide) (by rfl) (by decide) (by rfl) ?_)
        k_steps
        refine Hold.out (LCg.CompSrc.ledger (by rfl) (by k_asm) (by k_asm) (List.mem_cons_of_mem _ (List.mem_cons_of_mem _ List.mem_cons_self)) (by simp only [List.size_toArray, strValues, List.length_map, sizeLine_eq]; exact Nat.le_trans (List.length_filter_le _ _) (by omega)) ?_)
        intro g5
        refine comp_ind (fun j ys nw => ∃ qs : List Rul, ys = refsR qs ∧ (∀ q ∈ qs, (q.a, q.obj) ∈ nw ∧ q.a ≠ I ∧ q.a ≠ L' + 1) ∧ (∀ p ∈ (D₂, LCg.lst (strValues (textsOf ei wd))) :: (a6, listOf (refsOf ei).toArray 0) :: (a9, listOf (strValues (textsOf ei wd)).toArray k9) :: (I, oI) :: (L' + 1, o₂) :: nw', p ∈ nw) ∧ qs.map Rul.key = ((textsOf ei wd).take j).map fun p => parse p.1) ?_ ?_ ⟨[], rfl, (fun q hq => by cases hq), fun p hp => hp, by simp⟩
        · rintro j ys nw hj ⟨qs, rfl, hq1, hq2, hq3⟩ v I₃ oI₃ C₃ oC₃ D₃ m₂ h tk E'' hv hC hx F₃ N₃ off₃ ne
          obtain ⟨hj', hv'⟩ := strValues_at hv
          subst hv'
          have hpj : Parses ((textsOf ei wd)[j]).1 (parse ((textsOf ei wd)[j]).1) := by
            obtain ⟨e, he, hee⟩ := List.mem_map.mp (List.getElem_mem hj')
            rw [← hee]
            exact hei3 e (List.mem_filter.mp he).1
          have hq4 : ((textsOf ei wd).take (j + 1)).map (fun p => parse p.1) = ((textsOf ei wd).take j).map (fun p => parse p.1) ++ [parse ((textsOf ei wd)[j]).1] := by
            rw [List.take_succ_eq_append_getElem hj', List.map_append]; rfl
          generalize ((textsOf ei wd)[j]).1 = tx at *
          generalize ((textsOf ei wd)[j]).2 = ttx at *
          obtain ⟨q, mm, zz, tl, hp1, hp2, hp3, hp4⟩ := hpj
          k_steps
          refine Hold.out (rule_spec w tx ttx (parse tx).1 q (parse tx).2.1 mm (parse tx).2.2 zz hp1 hp2 hp3 ⟨tl, hp4⟩ _ _ _ _ _ _ _ _ _ _ _ _ _ _ _ _ _ _ _ _ _ (by k_asm) F₃ (by k_asm) N₃ (by k_asm) (by exact rfl) (by ktr_room) (by ktr_units) trivial ?_)
          intro r8 tl8 h8 tk8 F8 N8 l8 e8
          obtain ⟨a4, t1, t2, t3, e81, e82⟩ := e8
          subst e81; subst e82
          k_steps
          refine LCg.CompEnd.intro F8 N8 ((a4, listOf #[.str (parse tx).1 t1, .str (parse tx).2.1 t2, .str (parse tx).2.2 t3] 0) :: nw) (fun p hp => mem_perm4 hp) ⟨⟨Nat.ne_of_gt (l8 _ List.mem_cons_self _ List.mem_cons_self), Nat.ne_of_gt (l8 _ (List.mem_cons_of_mem _ List.mem_cons_self) _ List.mem_cons_self), Nat.ne_of_gt (l8 _ (List.mem_cons_of_mem _ (List.mem_cons_of_mem _ List.mem_cons_self)) _ List.mem_cons_self)⟩, off₃⟩ (.inr ⟨_, List.mem_cons_of_mem _ (hq2 _ (List.mem_cons_of_mem _ (List.mem_cons_of_mem _ List.mem_cons_self))), rfl, _, rfl⟩) ⟨qs ++ [⟨a4, (parse tx).1, (parse tx).2.1, (parse tx).2.2, t1, t2, t3, 0⟩], by simp, ?_, fun p hp => List.mem_cons_of_mem _ (hq2 p hp), ?_⟩
          · intro r hr
            rcases List.mem_append.mp hr with hr | hr
            · exact ⟨List.mem_cons_of_mem _ (hq1 r hr).1, (hq1 r hr).2⟩
            · rw [List.mem_singleton.mp hr]
              refine ⟨List.mem_cons_self, ?_, ?_⟩
              · exact Nat.ne_of_gt (l8 _ (List.mem_cons_of_mem _ (List.mem_cons_of_mem _ (List.mem_cons_of_mem _ (hq2 _ (List.mem_cons_of_mem _ (List.mem_cons_of_mem _ (List.mem_cons_of_mem _ List.mem_cons_self))))))) _ List.mem_cons_self)
              · exact Nat.ne_of_gt (l8 _ (List.mem_cons_of_mem _ (List.mem_cons_of_mem _ (List.mem_cons_of_mem _ (hq2 _ (List.mem_cons_of_mem _ (List.mem_cons_of_mem _ (List.mem_cons_of_mem _ (List.mem_cons_of_mem _ List.mem_cons_self)))))))) _ List.mem_cons_self)
          · rw [hq4, List.map_append, hq3]; rfl
        · rintro ys nw ⟨qs, rfl, hq1, hq2, hq3⟩
          intro D₅ h tk F₅ N₅ o5
          k_steps
          have e7 : (textsOf ei wd).take (strValues (textsOf ei wd)).toArray.size = textsOf ei wd := by rw [List.size_toArray, strValues, List.length_map, List.take_length]
          rw [e7] at hq3
          have hai : (ai, listOf (refsR rs).toArray ki) ∈ nw := hq2 _ (List.mem_cons_of_mem _ (List.mem_cons_of_mem _ (List.mem_cons_of_mem _ (List.mem_cons_of_mem _ (List.mem_cons_of_mem _ ht1)))))
          refine Hold.out (P.add_list (N₅ _ (List.mem_cons_of_mem _ hai)).1 (N₅ _ List.mem_cons_self).1 ?_ ?_)
          · have N₆ := N₅.push F₅ (listOf ((refsR rs).toArray ++ (refsR qs).toArray) 0)
            have F₆ := F₅.push (listOf ((refsR rs).toArray ++ (refsR qs).toArray) 0)
            dsimp only
            have hl2 : (L' + 1, o₂) ∈ nw := hq2 _ (List.mem_cons_of_mem _ (List.mem_cons_of_mem _ (List.mem_cons_of_mem _ (List.mem_cons_of_mem _ List.mem_cons_self))))
            have N₇ : News g' L' (h.push (listOf ((refsR rs).toArray ++ (refsR qs).toArray) 0)) ((L' + 1, o₂) :: (h.objs.size, listOf ((refsR rs).toArray ++ (refsR qs).toArray) 0) :: nw) := fun p hp => by
              rcases List.mem_cons.mp hp with rfl | hp
              · exact N₆ _ (List.mem_cons_of_mem _ (List.mem_cons_of_mem _ hl2))
              · rcases List.mem_cons.mp hp with rfl | hp
                · exact N₆ _ List.mem_cons_self
                · exact N₆ _ (List.mem_cons_of_mem _ (List.mem_cons_of_mem _ hp))
            have hsz3 : ∀ p ∈ (D₅, LCg.lst (refsR qs)) :: nw, p.1 < h.objs.size := fun p hp => Heap.lt_size (N₅ p hp).1
            have hql : ∀ q ∈ qs, q.a ≠ l := fun q hq => led_rule (news := nw) (fun p hp => N₅ p (List.mem_cons_of_mem _ hp)) (hq1 q hq).1 (hq2 _ (List.mem_cons_of_mem _ (List.mem_cons_of_mem _ (List.mem_cons_of_mem _ (List.mem_cons_of_mem _ (List.mem_cons_of_mem _ hx3))))))
            clear N₆ F₅
            k_steps
            have hy1 := hq2 _ (List.mem_cons_of_mem _ (List.mem_cons_of_mem _ (List.mem_cons_of_mem _ (List.mem_cons_of_mem _ (List.mem_cons_of_mem _ hx1)))))
            have hy2 := hq2 _ (List.mem_cons_of_mem _ (List.mem_cons_of_mem _ (List.mem_cons_of_mem _ (List.mem_cons_of_mem _ (List.mem_cons_of_mem _ hx2)))))
            refine Hold.out ?_
            k_dflt (refine' delItem_K ?k1 ?k2 ?k3 ?k4 ?k5 ?k6 ?_; (case k1 => k_asm); (case k2 => k_asm); (case k3 => k_inst); (case k4 => k_is); (case k5 => k_is); (case k6 => k_is); k_whole)
            rename Fr _ _ _ _ => F₈
            rename News _ _ _ _ => N₈
            have subn : ∀ p ∈ nw', p ∈ (L' + 1, o₂) :: (h.objs.size, listOf ((refsR rs).toArray ++ (refsR qs).toArray) 0) :: nw := fun p hp => List.mem_cons_of_mem _ (List.mem_cons_of_mem _ (hq2 _ (List.mem_cons_of_mem _ (List.mem_cons_of_mem _ (List.mem_cons_of_mem _ (List.mem_cons_of_mem _ (List.mem_cons_of_mem _ hp)))))))
            refine wpAny_call (del_spec w x d l t ei k' (Txt.upper wd) _ (by omega) (up_facts wd hw15).1 _ _ _ _ _ _ _ _ _ _ _ _ _ _ _ _ _ _ _ _ _ (by k_asm) F₈ (by k_asm) N₈ (by k_asm) (by exact rfl) (by ktr_room) (by ktr_units) ⟨hT.hd.mono subn, hT.es.mono subn⟩ ?_)
            intro r8 nw8 h8 tk8 F8 N8 e8
            obtain ⟨k6, e81, e82⟩ := e8
            subst e81; subst e82
            rw [kept_left hw15 hei1] at N8
            dsimp only
            k_steps
            have hIl : I ≠ l := fun e => hI2 _ hx3 e.symm
            have hCl : L' + 1 ≠ l := fun e => hoc _ hx3 e.symm
            have sub5 : ∀ p ∈ nw', p ∈ nw := fun p hp => hq2 _ (List.mem_cons_of_mem _ (List.mem_cons_of_mem _ (List.mem_cons_of_mem _ (List.mem_cons_of_mem _ (List.mem_cons_of_mem _ hp)))))
            have hIm : (I, oI) ∈ nw := hq2 _ (List.mem_cons_of_mem _ (List.mem_cons_of_mem _ (List.mem_cons_of_mem _ List.mem_cons_self)))
            have hlm : (l, listOf (refsOf ei).toArray k') ∈ nw := sub5 _ hx3
            have inA : ∀ p ∈ nw, p.1 ≠ l → p ∈ (l, listOf (refsOf (ei.filter fun e => !(e.n == wd))).toArray k6) :: ((L' + 1, o₂) :: (h.objs.size, listOf ((refsR rs).toArray ++ (refsR qs).toArray) 0) :: nw).filter (fun p => p.1 ≠ l) := fun p hp hne => List.mem_cons_of_mem _ (List.mem_filter.mpr ⟨List.mem_cons_of_mem _ (List.mem_cons_of_mem _ hp), by simpa using hne⟩)
            have inN : ∀ p ∈ nw, p.1 ≠ l → p.1 ≠ L' + 1 → p.1 ≠ I → p ∈ ((l, listOf (refsOf (ei.filter fun e => !(e.n == wd))).toArray k6) :: ((L' + 1, o₂) :: (h.objs.size, listOf ((refsR rs).toArray ++ (refsR qs).toArray) 0) :: nw).filter (fun p => p.1 ≠ l)).filter (fun p => decide (p.1 ≠ L' + 1) && decide (p.1 ≠ I)) := fun p hp hne h2 h3 => List.mem_filter.mpr ⟨inA p hp hne, by simp [h2, h3]⟩
            have inN' : ∀ p ∈ nw', p.1 ≠ l → p ∈ ((l, listOf (refsOf (ei.filter fun e => !(e.n == wd))).toArray k6) :: ((L' + 1, o₂) :: (h.objs.size, listOf ((refsR rs).toArray ++ (refsR qs).toArray) 0) :: nw).filter (fun p => p.1 ≠ l)).filter (fun p => decide (p.1 ≠ L' + 1) && decide (p.1 ≠ I)) := fun p hp hne => inN p (sub5 p hp) hne (hoc p hp) (hI2 p hp)
            have hlN : (l, listOf (refsOf (ei.filter fun e => !(e.n == wd))).toArray k6) ∈ ((l, listOf (refsOf (ei.filter fun e => !(e.n == wd))).toArray k6) :: ((L' + 1, o₂) :: (h.objs.size, listOf ((refsR rs).toArray ++ (refsR qs).toArray) 0) :: nw).filter (fun p => p.1 ≠ l)).filter (fun p => decide (p.1 ≠ L' + 1) && decide (p.1 ≠ I)) := List.mem_filter.mpr ⟨List.mem_cons_self, by simp [hIl.symm, hCl.symm]⟩
            have haN : (h.objs.size, listOf ((refsR rs).toArray ++ (refsR qs).toArray) 0) ∈ ((l, listOf (refsOf (ei.filter fun e => !(e.n == wd))).toArray k6) :: ((L' + 1, o₂) :: (h.objs.size, listOf ((refsR rs).toArray ++ (refsR qs).toArray) 0) :: nw).filter (fun p => p.1 ≠ l)).filter (fun p => decide (p.1 ≠ L' + 1) && decide (p.1 ≠ I)) := by
              have z1 := Nat.ne_of_gt (hsz3 _ (List.mem_cons_of_mem _ hl2))
              have z2 := Nat.ne_of_gt (hsz3 _ (List.mem_cons_of_mem _ hIm))
              have z3 := Nat.ne_of_gt (hsz3 _ (List.mem_cons_of_mem _ hlm))
              refine List.mem_filter.mpr ⟨List.mem_cons_of_mem _ (List.mem_filter.mpr ⟨List.mem_cons_of_mem _ List.mem_cons_self, ?_⟩), ?_⟩
              · simpa using z3
              · simp only [Bool.and_eq_true, decide_eq_true_eq]; exact ⟨z1, z2⟩
            generalize hNN : ((l, listOf (refsOf (ei.filter fun e => !(e.n == wd))).toArray k6) :: ((L' + 1, o₂) :: (h.objs.size, listOf ((refsR rs).toArray ++ (refsR qs).toArray) 0) :: nw).filter (fun p => p.1 ≠ l)).filter (fun p => decide (p.1 ≠ L' + 1) && decide (p.1 ≠ I)) = nwN at inN inN' hlN haN
            have subN : ∀ p ∈ nwN, p ∈ (l, listOf (refsOf (ei.filter fun e => !(e.n == wd))).toArray k6) :: ((L' + 1, o₂) :: (h.objs.size, listOf ((refsR rs).toArray ++ (refsR qs).toArray) 0) :: nw).filter (fun p => p.1 ≠ l) := fun p hp => by rw [← hNN] at hp; exact (List.mem_filter.mp hp).1
            have neN : ∀ p ∈ nwN, p.1 ≠ L' + 1 ∧ p.1 ≠ I := fun p hp => by
              rw [← hNN] at hp
              have := (List.mem_filter.mp hp).2
              simpa [Bool.and_eq_true, decide_eq_true_eq] using this
            refine TurnPost.next (nw' := (L' + 1, o₂) :: nwN) F8 (fun p hp => ?_) (fun p hp => ?_) ?_ ⟨o₂, _, nwN, h.objs.size, 0, rs ++ qs, k6, rfl, d₇, (fun p hp => (neN p hp).1), by exact (if_neg (by decide)).trans ((if_neg (by decide)).trans hm1), by exact if_pos rfl, ?_, ?_, ?_, ?_, ?_, ?_, ?_⟩
            · rcases List.mem_cons.mp hp with rfl | hp
              · exact N8 _ (inA _ hIm hIl)
              · rcases List.mem_cons.mp hp with rfl | hp
                · exact N8 _ (inA _ hl2 hCl)
                · exact N8 _ (subN p hp)
            · rcases List.mem_cons.mp hp with rfl | hp
              · exact hI
              · exact (neN p hp).2
            · exact .inr ⟨_, List.mem_cons_of_mem _ (inN' _ hDm hDl), rfl, _, rfl⟩
            · rw [show refsR (rs ++ qs) = refsR rs ++ refsR qs by simp]
              simpa using haN
            · intro r hr
              rcases List.mem_append.mp hr with hr | hr
              · exact inN' _ (ht2 r hr) (led_rule N₂ (List.mem_cons_of_mem _ (List.mem_cons_of_mem _ (ht2 r hr))) (List.mem_cons_of_mem _ (List.mem_cons_of_mem _ hx3)))
              · exact inN _ (hq1 r hr).1 (hql r hr) (hq1 r hr).2.2 (hq1 r hr).2.1
            · rw [List.map_append, ht3, hq3]
              exact (taken_succ hi₉ hwi hnd hesi).symm
            · have e1 : leftOf es (ws.take (i + 1)) = ei.filter fun e => !(e.n == wd) := left_succ hi₉ hwi hesi
              rw [e1]
              refine ⟨⟨inN' _ hx1 (led_ne N₂ (List.mem_cons_of_mem _ (List.mem_cons_of_mem _ hx1)) (List.mem_cons_of_mem _ (List.mem_cons_of_mem _ hx3)) (by nofun)), inN' _ hx2 (led_ne N₂ (List.mem_cons_of_mem _ (List.mem_cons_of_mem _ hx2)) (List.mem_cons_of_mem _ (List.mem_cons_of_mem _ hx3)) (by show (Value.type "dict") ≠ Value.type "list"; decide)), hlN⟩, ⟨fun e he => ?_, fun e he => hx5 e (List.mem_filter.mp he).1, Nat.le_trans (List.length_filter_le _ _) hx6⟩⟩
              have he' := hx4 e (List.mem_filter.mp he).1
              exact inN' _ he' (led_ne N₂ (List.mem_cons_of_mem _ (List.mem_cons_of_mem _ he')) (List.mem_cons_of_mem _ (List.mem_cons_of_mem _ hx3)) (by show (Value.type "tuple") ≠ Value.type "list"; decide))
            · exact fun p hp hne => inN' p (hK p hp hne) hne
            · exact inN' _ hDm hDl
            · exact Nat.ne_of_gt (hsz3 _ (List.mem_cons_of_mem _ hlm))
          · have z1 : rs.length ≤ 5 * 900 := by
              have := congrArg List.length ht3
              rw [List.length_map] at this
              rw [this]
              refine Nat.le_trans (taken_len _) (Nat.mul_le_mul ?_ hes)
              rw [List.length_take]; omega
            have z2 : qs.length ≤ 900 := by
              have := congrArg List.length hq3
              rw [List.length_map, List.length_map, List.length_map] at this
              rw [this]
              exact Nat.le_trans (List.length_filter_le _ _) hei4
            simp only [List.size_toArray, List.length_map, sizeLine_eq]
            omega
  · rintro m' nw h tk E' ⟨o, c, nw', ai, ki, rs, k', rfl, hc, hoc, hm1, hm2, ht1, ht2, ht3, hT, hK, hDm, hail⟩ F₂ N₂
    have hfull : ws.take (strValues pl).toArray.size = ws := by
      rw [List.size_toArray, strValues, List.length_map, ← e₁, List.take_of_length_le]
      rw [List.length_map]; exact Nat.le_refl _
    rw [hfull] at ht3 hT
    k_steps
    dsimp only
    refine leave_with (keep := nw') F₂ N₂ (fun p hp => List.mem_cons_of_mem _ hp) fun kF kN => ?_
    exact hret _ _ _ _ kF kN ⟨ai, ki, rs, k', rfl, ht1, ht2, ht3, hT, hK⟩
end
section
open PySem.StrLaws
/-- the five names at this shift -/
abbrev nm (sh : Nat) : List Str := (words15.drop sh).take 5
/-- what the law says of five flags -/
def txOf (sh b : Nat) : Str := flagsText (b * 2 ^ sh)
def bits5 (b : Nat) : List Nat := (List.range 5).filter b.testBit
def wsOf (sh b : Nat) : List Str := if b = 0 then [Str.ofString "0x0"] else (bits5 b).map fun j => wd (sh + j)
theorem f_bits : ∀ sh : Nat, sh < 11 → ∀ b : Nat, b < 32 → (List.range 15).filter (b * 2 ^ sh).testBit = (bits5 b).map (sh + ·) := by decide +kernel
theorem f_bits5 : ∀ b : Nat, b < 32 → b ≠ 0 → bits5 b ≠ [] := by decide +kernel
theorem f_nm : ∀ sh : Nat, sh < 11 → ∀ j : Nat, j < 5 → (nm sh).getD j default = wd (sh + j) := by decide +kernel
theorem f_wd : ∀ i : Nat, i < 15 → 0 < (wd i).length ∧ (wd i).length ≤ 30 ∧ (∀ c ∈ (wd i).cps.toList, 32 ≤ c ∧ c < 127 ∧ c ≠ 34 ∧ c ≠ 92 ∧ c ≠ 44) ∧ wd i ≠ Str.ofString "0x0" := by decide +kernel
theorem f_inj : ∀ i : Nat, i < 15 → ∀ j : Nat, j < 15 → wd i = wd j → i = j := by decide +kernel
theorem f_word (i : Nat) (h : i < 15) : IsWord (wd i) := by
  unfold IsWord wd
  rw [List.getD_eq_getElem?_getD, List.getElem?_eq_getElem (show i < words15.length from h)]
  exact List.getElem_mem _
theorem mem_bits5 {b j : Nat} : j ∈ bits5 b ↔ j < 5 ∧ b.testBit j = true := by simp [bits5]
theorem join_eq (sep : Str) (l : List Str) : Txt.join sep l = Str.join sep l := eq_of_beq (join_plain_closes sep l)
theorem tx_join {sh b : Nat} (hs : sh < 11) (hb : b < 32) : txOf sh b = Str.join (Str.ofString ", ") (wsOf sh b) := by
  unfold txOf flagsText wsOf
  by_cases h : b = 0
  · subst h
    rw [Nat.zero_mul, if_pos rfl, if_pos rfl]; rfl
  · have h2 : b * 2 ^ sh ≠ 0 := Nat.mul_ne_zero h (Nat.ne_of_gt (Nat.two_pow_pos sh))
    rw [if_neg h, if_neg h2, join_eq, bt, f_bits sh hs b hb, List.map_map]
    rfl
theorem ws_ne {sh b : Nat} (hb : b < 32) : wsOf sh b ≠ [] := by
  unfold wsOf
  by_cases h : b = 0
  · rw [if_pos h]; simp
  · rw [if_neg h]
    intro e
    exact f_bits5 b hb h (List.map_eq_nil_iff.mp e)
theorem ws_mem {sh b : Nat} {x : Str} (h : x ∈ wsOf sh b) : x = Str.ofString "0x0" ∨ ∃ j, j < 5 ∧ b.testBit j = true ∧ x = wd (sh + j) := by
  unfold wsOf at h
  split at h
  · exact .inl (List.mem_singleton.mp h)
  · obtain ⟨j, hj, rfl⟩ := List.mem_map.mp h
    exact .inr ⟨j, (mem_bits5.mp hj).1, (mem_bits5.mp hj).2, rfl⟩
theorem ws_chars {sh b : Nat} (hs : sh < 11) {x : Str} (h : x ∈ wsOf sh b) : 0 < x.length ∧ x.length ≤ 30 ∧ ∀ c ∈ x.cps.toList, 32 ≤ c ∧ c < 127 ∧ c ≠ 34 ∧ c ≠ 92 ∧ c ≠ 44 := by
  rcases ws_mem h with rfl | ⟨j, hj, _, rfl⟩
  · decide +kernel
  · have := f_wd (sh + j) (by omega)
    exact ⟨this.1, this.2.1, this.2.2.1⟩
theorem tx_split {sh b : Nat} (hs : sh < 11) (hb : b < 32) : Txt.split (txOf sh b) (Str.ofString ", ") = wsOf sh b := by
  rw [tx_join hs hb]
  exact split_join (c := 44) (yt := [32]) (by decide +kernel) (by decide +kernel) _ (ws_ne hb) fun p hp hc => (ws_chars hs hp).2.2 44 hc |>.2.2.2.2 rfl
theorem catL_mem {Y : List Nat} {c : Nat} : ∀ {ps : List Str}, c ∈ catL Y ps → c ∈ Y ∨ ∃ p ∈ ps, c ∈ p.cps.toList
  | [], h => by cases h
  | [p], h => .inr ⟨p, List.mem_cons_self, h⟩
  | p :: q :: r, h => by
    rcases List.mem_append.mp (show c ∈ p.cps.toList ++ (Y ++ catL Y (q :: r)) from h) with h | h
    · exact .inr ⟨p, List.mem_cons_self, h⟩
    · rcases List.mem_append.mp h with h | h
      · exact .inl h
      · rcases catL_mem h with h | ⟨x, hx, h⟩
        · exact .inl h
        · exact .inr ⟨x, List.mem_cons_of_mem _ hx, h⟩
theorem tx_chars {sh b : Nat} (hs : sh < 11) (hb : b < 32) : ∀ c ∈ (txOf sh b).cps.toList, 32 ≤ c ∧ c < 127 ∧ c ≠ 34 ∧ c ≠ 92 := by
  intro c hc
  rw [tx_join hs hb, catL_join] at hc
  rcases catL_mem hc with h | ⟨p, hp, h⟩
  · have e : (Str.ofString ", ").cps.toList = [44, 32] := by decide +kernel
    rw [e] at h
    simp only [List.mem_cons, List.not_mem_nil, or_false] at h
    omega
  · have := (ws_chars hs hp).2.2 c h
    exact ⟨this.1, this.2.1, this.2.2.1, this.2.2.2.1⟩
theorem catL_len {Y : List Nat} {k : Nat} : ∀ {ps : List Str}, (∀ p ∈ ps, p.length ≤ k) → (catL Y ps).length ≤ ps.length * (k + Y.length)
  | [], _ => Nat.zero_le _
  | [p], h => by
    have h1 := h p List.mem_cons_self
    have : p.cps.toList.length = p.length := by simp [Str.length]
    simp only [catL, this, List.length_cons, List.length_nil]; omega
  | p :: q :: r, h => by
    have h1 := h p List.mem_cons_self
    have h2 := catL_len (Y := Y) (ps := q :: r) fun x hx => h x (List.mem_cons_of_mem _ hx)
    have : p.cps.toList.length = p.length := by simp [Str.length]
    rw [show catL Y (p :: q :: r) = p.cps.toList ++ (Y ++ catL Y (q :: r)) from rfl, List.length_append, List.length_append, this, List.length_cons, Nat.succ_mul]
    omega
theorem ws_len (sh b : Nat) : (wsOf sh b).length ≤ 5 := by
  unfold wsOf
  split
  · simp
  · rw [List.length_map]
    exact Nat.le_trans (List.length_filter_le _ _) (by simp)
theorem tx_len {sh b : Nat} (hs : sh < 11) (hb : b < 32) : 0 < (txOf sh b).length ∧ (txOf sh b).length ≤ 200 := by
  have e : (txOf sh b).length = (catL (Str.ofString ", ").cps.toList (wsOf sh b)).length := by rw [← catL_join, ← tx_join hs hb]; simp [Str.length]
  have h1 := catL_len (Y := (Str.ofString ", ").cps.toList) (k := 30) (ps := wsOf sh b) fun p hp => (ws_chars hs hp).2.1
  have e2 : (Str.ofString ", ").cps.toList.length = 2 := by decide +kernel
  have h2 := ws_len sh b
  have h3 : (wsOf sh b).length * 32 ≤ 5 * 32 := Nat.mul_le_mul_right _ h2
  rw [e2] at h1
  refine ⟨?_, by rw [e]; omega⟩
  rw [e]
  have h4 := ws_ne (sh := sh) hb
  have h5 : ∀ p ∈ wsOf sh b, 0 < p.length := fun p hp => (ws_chars hs hp).1
  revert h4 h5
  generalize wsOf sh b = l
  intro h4 h5
  cases l with
  | nil => exact absurd rfl h4
  | cons p r =>
    have h6 := h5 p List.mem_cons_self
    have h7 : p.cps.toList.length = p.length := by simp [Str.length]
    cases r with
    | nil => show 0 < p.cps.toList.length; omega
    | cons q r =>
      rw [show catL (Str.ofString ", ").cps.toList (p :: q :: r) = p.cps.toList ++ ((Str.ofString ", ").cps.toList ++ catL (Str.ofString ", ").cps.toList (q :: r)) from rfl, List.length_append]
      omega
theorem tx_told {sh b : Nat} (hs : sh < 11) (hb : b < 32) : told (nm sh) b = txOf sh b := by
  have e : toldL (nm sh) b 5 = (bits5 b).map fun j => wd (sh + j) := by
    unfold toldL
    refine List.map_congr_left fun j hj => f_nm sh hs j (mem_bits5.mp hj).1
  rw [tx_join hs hb]
  unfold told wsOf
  rw [e]
  by_cases h : b = 0
  · subst h; rfl
  · have : ((bits5 b).map fun j => wd (sh + j)).isEmpty = false := by
      rw [List.isEmpty_map]
      have := f_bits5 b hb h
      cases hq : bits5 b with
      | nil => exact absurd hq this
      | cons _ _ => rfl
    rw [this, if_neg h, join_eq]
    rfl
end
section
open PySem.StrLaws
theorem contains_ws {sh b i : Nat} (hs : sh < 11) (hi : i < 5) : (wsOf sh b).contains (wd (sh + i)) = b.testBit i := by
  have key : wd (sh + i) ∈ wsOf sh b ↔ b.testBit i = true := by
    constructor
    · intro h
      rcases ws_mem h with h | ⟨j, hj, hb, h⟩
      · exact absurd h (f_wd (sh + i) (by omega)).2.2.2
      · have := f_inj (sh + i) (by omega) (sh + j) (by omega) h
        rw [show i = j by omega]; exact hb
    · intro h
      have hb0 : b ≠ 0 := by rintro rfl; rw [Nat.zero_testBit] at h; cases h
      rw [wsOf, if_neg hb0]
      exact List.mem_map.mpr ⟨i, mem_bits5.mpr ⟨hi, h⟩, rfl⟩
  cases hq : b.testBit i with
  | true => rw [List.contains_eq_mem]; exact decide_eq_true (key.mpr hq)
  | false =>
    rw [List.contains_eq_mem]
    refine decide_eq_false fun h => ?_
    rw [key.mp h] at hq; cases hq
theorem bits5_sum : ∀ b : Nat, b < 32 → ((bits5 b).map fun (k : Nat) => (2 : Int) ^ k).sum = (b : Int) := by decide +kernel
theorem tx_flags {sh b : Nat} (hs : sh < 11) (hb : b < 32) : ((bitF (nm sh) (Txt.split (txOf sh b) (Str.ofString ", ")) 5).map fun (k : Nat) => (2 : Int) ^ k).sum = (b : Int) := by
  rw [tx_split hs hb, ← bits5_sum b hb]
  congr 2
  unfold bitF bits5
  refine List.filter_congr fun i hi => ?_
  have hi5 : i < 5 := by simpa using hi
  rw [f_nm sh hs i hi5, contains_ws hs hi5]
theorem ws_nodup {sh b : Nat} (hs : sh < 11) : (wsOf sh b).Nodup := by
  unfold wsOf
  split
  · simp
  · have h0 : (bits5 b).Nodup := List.nodup_range.filter _
    refine List.pairwise_map.mpr (List.Pairwise.imp_of_mem ?_ h0)
    intro i j hi hj ne e
    have h1 := (mem_bits5.mp hi).1
    have h2 := (mem_bits5.mp hj).1
    have := f_inj (sh + i) (by omega) (sh + j) (by omega) e
    exact ne (by omega)
theorem ws_word {sh b : Nat} (hs : sh < 11) (hb0 : b ≠ 0) {x : Str} (h : x ∈ wsOf sh b) : IsWord x := by
  unfold wsOf at h
  rw [if_neg hb0] at h
  obtain ⟨j, hj, rfl⟩ := List.mem_map.mp h
  have := (mem_bits5.mp hj).1
  exact f_word _ (by omega)
/-- a rule's three texts out of the header's text -/
def parse (x : Str) : Str × Str × Str :=
  match Txt.split x (Str.ofString "\"") with
  | [q, n, _, g, _] => ((Txt.split q (Str.ofString ";")).headD default, n, g)
  | _ => default
theorem law_split {p n g : Str} (hp : 34 ∉ p.cps.toList) (hn : 34 ∉ n.cps.toList) (hg : 34 ∉ g.cps.toList) :
    Txt.split (lawText p n g) (Str.ofString "\"") = [p ++ Str.ofString "; what-it-needs=", n, Str.ofString "; what-it-gives=", g, Str.ofString ""] := by
  have e : lawText p n g = Str.join (Str.ofString "\"") [p ++ Str.ofString "; what-it-needs=", n, Str.ofString "; what-it-gives=", g, Str.ofString ""] := by
    have e1 : Str.ofString "; what-it-needs=\"" = Str.ofString "; what-it-needs=" ++ Str.ofString "\"" := by decide +kernel
    have e2 : Str.ofString "\"; what-it-gives=\"" = Str.ofString "\"" ++ (Str.ofString "; what-it-gives=" ++ Str.ofString "\"") := by decide +kernel
    have e3 : Str.ofString "\"" = Str.ofString "\"" ++ Str.ofString "" := by decide +kernel
    unfold lawText
    rw [e1, e2]
    simp only [Str.join, Str.append_assoc]
    rw [← e3]
  rw [e]
  refine split_join (c := 34) (yt := []) (by decide +kernel) (by decide +kernel) _ (by simp) fun x hx => ?_
  simp only [List.mem_cons, List.not_mem_nil, or_false] at hx
  rcases hx with rfl | rfl | rfl | rfl | rfl
  · rw [show (p ++ Str.ofString "; what-it-needs=").cps = p.cps ++ (Str.ofString "; what-it-needs=").cps from rfl, Array.toList_append, List.mem_append]
    rintro (h | h)
    · exact hp h
    · exact absurd h (by decide +kernel)
  · exact hn
  · decide +kernel
  · exact hg
  · decide +kernel
theorem head_split {p : Str} (hp : 59 ∉ p.cps.toList) : Txt.split (p ++ Str.ofString "; what-it-needs=") (Str.ofString ";") = [p, Str.ofString " what-it-needs="] := by
  have e : p ++ Str.ofString "; what-it-needs=" = Str.join (Str.ofString ";") [p, Str.ofString " what-it-needs="] := by
    have e1 : Str.ofString "; what-it-needs=" = Str.ofString ";" ++ Str.ofString " what-it-needs=" := by decide +kernel
    rw [e1]
    simp only [Str.join, Str.append_assoc]
  rw [e]
  refine split_join (c := 59) (yt := []) (by decide +kernel) (by decide +kernel) _ (by simp) fun x hx => ?_
  simp only [List.mem_cons, List.not_mem_nil, or_false] at hx
  rcases hx with rfl | rfl
  · exact hp
  · decide +kernel
theorem parse_law {p n g : Str} (hp : 34 ∉ p.cps.toList) (hp2 : 59 ∉ p.cps.toList) (hn : 34 ∉ n.cps.toList) (hg : 34 ∉ g.cps.toList) : parse (lawText p n g) = (p, n, g) := by
  unfold parse
  rw [law_split hp hn hg]
  dsimp only
  rw [head_split hp2]
  rfl
theorem parses_law {p n g : Str} (hp : 34 ∉ p.cps.toList) (hp2 : 59 ∉ p.cps.toList) (hn : 34 ∉ n.cps.toList) (hg : 34 ∉ g.cps.toList) (h1 : p.length ≤ 300) (h2 : n.length ≤ 300) (h3 : g.length ≤ 300) : Parses (lawText p n g) (parse (lawText p n g)) := by
  rw [parse_law hp hp2 hn hg]
  refine ⟨_, _, _, _, ?_, law_split hp hn hg, ?_, head_split hp2⟩
  · have e1 : (Str.ofString "; what-it-needs=\"").length = 17 := by decide +kernel
    have e2 : (Str.ofString "\"; what-it-gives=\"").length = 18 := by decide +kernel
    have e3 : (Str.ofString "\"").length = 1 := by decide +kernel
    unfold lawText
    simp only [Str.length_append, e1, e2, e3]
    omega
  · have e1 : (Str.ofString "; what-it-needs=").length = 16 := by decide +kernel
    rw [Str.length_append, e1]; omega
end
section
abbrev Sub (a b : Nat) : Prop := ∀ j, j < 5 → a.testBit j = true → b.testBit j = true
def low (b : Nat) : Nat := (bits5 b).headD 0
theorem lack_zero : ∀ a : Nat, a < 32 → ∀ b : Nat, b < 32 → (lack a b = 0 ↔ Sub a b) := by decide +kernel
theorem sub_eq : ∀ a : Nat, a < 32 → ∀ b : Nat, b < 32 → Sub a b → Sub b a → a = b := by decide +kernel
theorem lack_lt : ∀ a : Nat, a < 32 → ∀ b : Nat, b < 32 → lack a b < 32 := by decide +kernel
theorem lack_bit : ∀ a : Nat, a < 32 → ∀ b : Nat, b < 32 → ∀ j : Nat, j < 5 → (lack a b).testBit j = (a.testBit j && !b.testBit j) := by decide +kernel
theorem low_spec : ∀ b : Nat, b < 32 → b ≠ 0 → low b < 5 ∧ b.testBit (low b) = true ∧ ∀ i : Nat, i < low b → b.testBit i = false := by decide +kernel
theorem or_grow : ∀ r : Nat, r < 32 → ∀ g : Nat, g < 32 → lack g r ≠ 0 → r < r ||| lack g r ∧ (r ||| lack g r) < 32 := by decide +kernel
theorem or_is : ∀ r : Nat, r < 32 → ∀ g : Nat, g < 32 → Builtin.bitOr (r : Int) (g : Int) = ((r ||| g : Nat) : Int) := by decide +kernel
theorem and_lt : ∀ r : Nat, r < 32 → ∀ g : Nat, g < 32 → (r &&& g) < 32 := by decide +kernel
theorem filter_perm {α : Type} (p : α → Bool) : ∀ l : List α, (l.filter p ++ l.filter fun x => !p x).Perm l
  | [] => .nil
  | a :: l => by
    have ih := filter_perm p l
    cases h : p a with
    | true => rw [List.filter_cons_of_pos h, List.filter_cons_of_neg (by simp [h]), List.cons_append]; exact ih.cons a
    | false =>
      rw [List.filter_cons_of_neg (by simp [h]), List.filter_cons_of_pos (by simp [h])]
      exact List.perm_middle.trans (ih.cons a)
theorem flat_congr {α β : Type} {f g : α → List β} : ∀ {l : List α}, (∀ a ∈ l, f a = g a) → l.flatMap f = l.flatMap g
  | [], _ => rfl
  | a :: l, h => by rw [List.flatMap_cons, List.flatMap_cons, h a List.mem_cons_self, flat_congr fun b hb => h b (List.mem_cons_of_mem _ hb)]
theorem flat_perm {α : Type} (f : α → Nat) : ∀ (J : List Nat) (T : List α), J.Nodup → ((J.flatMap fun j => T.filter fun e => f e == j) ++ T.filter fun e => !J.contains (f e)).Perm T
  | [], T, _ => by
    rw [List.flatMap_nil, List.nil_append, List.filter_eq_self.mpr (by simp)]
  | j :: J, T, h => by
    obtain ⟨hj, hJ⟩ := List.nodup_cons.mp h
    have ih := flat_perm f J (T.filter fun e => !(f e == j)) hJ
    have e1 : (J.flatMap fun k => (T.filter fun e => !(f e == j)).filter fun e => f e == k) = J.flatMap fun k => T.filter fun e => f e == k := by
      refine flat_congr fun k hk => ?_
      rw [List.filter_filter]
      refine List.filter_congr fun e _ => ?_
      by_cases hq : f e = k
      · have : f e ≠ j := fun q => hj (by rw [← q, hq]; exact hk)
        simp [hq, show k ≠ j from fun q => this (hq.trans q)]
      · simp [hq]
    have e2 : ((T.filter fun e => !(f e == j)).filter fun e => !J.contains (f e)) = T.filter fun e => !(j :: J).contains (f e) := by
      rw [List.filter_filter]
      refine List.filter_congr fun e _ => ?_
      simp only [List.contains_cons]
      cases (f e == j) <;> cases J.contains (f e) <;> rfl
    rw [e1, e2] at ih
    rw [List.flatMap_cons, List.append_assoc]
    exact (ih.append_left _).trans (filter_perm (fun e => f e == j) T)
abbrev nd (rl : List (Nat × Nat)) (p : Nat) : Nat := (rl.getD p (0, 0)).1
abbrev gv (rl : List (Nat × Nat)) (p : Nat) : Nat := (rl.getD p (0, 0)).2
/-- what holds ahead of each turn: the places that wait, the table's (bit, place), what is reached -/
structure Inv (rl : List (Nat × Nat)) (W : List Nat) (T : List (Nat × Nat)) (R : Nat) : Prop where
  lt : R < 32
  least : ∀ c, c < 32 → rl.any (brk c) = false → Sub R c
  nodup : (W ++ T.map (·.2)).Nodup
  place : ∀ p ∈ W ++ T.map (·.2), p < rl.length
  done : ∀ p, p < rl.length → p ∉ W ++ T.map (·.2) → Sub (nd rl p) R ∧ Sub (gv rl p) R
  tab : ∀ q ∈ T, q.1 < 5 ∧ R.testBit q.1 = false ∧ (nd rl q.2).testBit q.1 = true ∧ ∀ i, i < q.1 → (nd rl q.2).testBit i = true → R.testBit i = true
section
variable {rl : List (Nat × Nat)} (h32 : ∀ r ∈ rl, r.1 < 32 ∧ r.2 < 32)
include h32
theorem nd_lt (p : Nat) : nd rl p < 32 ∧ gv rl p < 32 := by
  unfold nd gv
  by_cases h : p < rl.length
  · rw [List.getD_eq_getElem?_getD, List.getElem?_eq_getElem h]
    exact h32 _ (List.getElem_mem h)
  · rw [List.getD_eq_getElem?_getD, List.getElem?_eq_none (by omega)]
    exact ⟨by decide, by decide⟩
theorem inv_start (hlen : rl.length = n) : Inv rl (List.range n) [] 0 := by
  refine ⟨by decide, ?_, ?_, ?_, ?_, by simp⟩
  · intro c _ _ j _ hj
    rw [Nat.zero_testBit] at hj; cases hj
  · simpa using List.nodup_range
  · intro p hp
    simp at hp; omega
  · intro p hp hn
    simp at hn; omega
theorem take_perm {W : List Nat} {t p : Nat} (h : W[t]? = some p) : W.Perm (p :: (W.take t ++ W.drop (t + 1))) := by
  have ht : t < W.length := (List.getElem?_eq_some_iff.mp h).1
  have hp : W[t] = p := (List.getElem?_eq_some_iff.mp h).2
  have e : W = W.take t ++ p :: W.drop (t + 1) := by
    rw [← hp, ← List.drop_eq_getElem_cons ht, List.take_append_drop]
  exact (List.Perm.of_eq e).trans List.perm_middle
theorem inv_lay {W : List Nat} {T : List (Nat × Nat)} {R t p : Nat} (I : Inv rl W T R) (h : W[t]? = some p) (hl : lack (nd rl p) R ≠ 0) :
    Inv rl (W.take t ++ W.drop (t + 1)) (T ++ [(low (lack (nd rl p) R), p)]) R := by
  have hn := nd_lt h32 p
  have pm : (W ++ T.map (·.2)).Perm ((W.take t ++ W.drop (t + 1)) ++ (T ++ [(low (lack (nd rl p) R), p)]).map (·.2)) := by
    refine ((take_perm h32 h).append_right _).trans ?_
    rw [List.map_append, List.map_cons, List.map_nil, ← List.append_assoc, List.cons_append]
    exact (List.perm_append_comm (l₁ := [p])).trans (List.Perm.refl _)
  refine ⟨I.lt, I.least, pm.nodup_iff.mp I.nodup, fun q hq => I.place q (pm.mem_iff.mpr hq), fun q hq hm => I.done q hq fun x => hm (pm.mem_iff.mp x), ?_⟩
  intro q hq
  rcases List.mem_append.mp hq with hq | hq
  · exact I.tab q hq
  · rw [List.mem_singleton.mp hq]
    obtain ⟨h1, h2, h3⟩ := low_spec _ (lack_lt _ hn.1 _ I.lt) hl
    have h4 := lack_bit _ hn.1 _ I.lt _ h1
    rw [h2] at h4
    have h5 : (nd rl p).testBit (low (lack (nd rl p) R)) = true ∧ R.testBit (low (lack (nd rl p) R)) = false := by
      obtain ⟨g1, g2⟩ := Bool.and_eq_true_iff.mp h4.symm
      exact ⟨g1, by rwa [Bool.not_eq_true'] at g2⟩
    refine ⟨h1, h5.2, h5.1, fun i hi hn' => ?_⟩
    have h6 := lack_bit _ hn.1 _ I.lt i (by omega)
    rw [h3 i hi, hn'] at h6
    cases hb : R.testBit i with
    | true => rfl
    | false => rw [hb] at h6; cases h6
theorem inv_skip {W : List Nat} {T : List (Nat × Nat)} {R t p : Nat} (I : Inv rl W T R) (h : W[t]? = some p) (hl : lack (nd rl p) R = 0) (hg : lack (gv rl p) R = 0) :
    Inv rl (W.take t ++ W.drop (t + 1)) T R := by
  have hn := nd_lt h32 p
  have pm : (W ++ T.map (·.2)).Perm (p :: ((W.take t ++ W.drop (t + 1)) ++ T.map (·.2))) := (take_perm h32 h).append_right _
  have nod := pm.nodup_iff.mp I.nodup
  refine ⟨I.lt, I.least, (List.nodup_cons.mp nod).2, fun q hq => I.place q (pm.mem_iff.mpr (List.mem_cons_of_mem _ hq)), fun q hq hm => ?_, I.tab⟩
  by_cases e : q = p
  · subst e
    exact ⟨(lack_zero _ hn.1 _ I.lt).mp hl, (lack_zero _ hn.2 _ I.lt).mp hg⟩
  · refine I.done q hq fun x => ?_
    rcases List.mem_cons.mp (pm.mem_iff.mp x) with x | x
    · exact e x
    · exact hm x
/-- the places that a fresh set of flags takes up anew -/
def takenP (T : List (Nat × Nat)) (f : Nat) : List Nat := (bits5 f).flatMap fun j => (T.filter fun q => q.1 == j).map (·.2)
def leftT (T : List (Nat × Nat)) (f : Nat) : List (Nat × Nat) := T.filter fun q => !(bits5 f).contains q.1
theorem taken_perm (T : List (Nat × Nat)) (f : Nat) : (takenP T f ++ (leftT T f).map (·.2)).Perm (T.map (·.2)) := by
  have h := (flat_perm (fun q : Nat × Nat => q.1) (bits5 f) T (List.nodup_range.filter _)).map (·.2)
  rw [List.map_append, List.map_flatMap] at h
  exact h
theorem inv_take {W : List Nat} {T : List (Nat × Nat)} {R t p : Nat} (I : Inv rl W T R) (h : W[t]? = some p) (hl : lack (nd rl p) R = 0) (hg : lack (gv rl p) R ≠ 0) :
    Inv rl ((W.take t ++ W.drop (t + 1)) ++ takenP T (lack (gv rl p) R)) (leftT T (lack (gv rl p) R)) (R ||| lack (gv rl p) R) := by
  have hn := nd_lt h32 p
  have hor := or_grow _ I.lt _ hn.2 hg
  have hpl : p < rl.length := I.place p (List.mem_append_left _ (List.mem_of_getElem? h))
  have hsub : Sub R (R ||| lack (gv rl p) R) := fun j _ hj => by rw [Nat.testBit_or, hj]; rfl
  have pm : (W ++ T.map (·.2)).Perm (p :: (((W.take t ++ W.drop (t + 1)) ++ takenP T (lack (gv rl p) R)) ++ (leftT T (lack (gv rl p) R)).map (·.2))) := by
    refine ((take_perm h32 h).append_right _).trans (List.Perm.cons p ?_)
    rw [List.append_assoc (W.take t ++ W.drop (t + 1))]
    exact (taken_perm h32 T _).symm.append_left _
  have nod := pm.nodup_iff.mp I.nodup
  have hgs : Sub (gv rl p) (R ||| lack (gv rl p) R) := fun j hj hg' => by
    rw [Nat.testBit_or, lack_bit _ hn.2 _ I.lt j hj, hg']
    cases R.testBit j <;> rfl
  refine ⟨hor.2, ?_, (List.nodup_cons.mp nod).2, fun q hq => I.place q (pm.mem_iff.mpr (List.mem_cons_of_mem _ hq)), fun q hq hm => ?_, ?_⟩
  · intro c hc hcl j hj hb
    rw [Nat.testBit_or] at hb
    have hRc := I.least c hc hcl
    rcases Bool.or_eq_true_iff.mp hb with hb | hb
    · exact hRc j hj hb
    · rw [lack_bit _ hn.2 _ I.lt j hj] at hb
      have hgb := (Bool.and_eq_true_iff.mp hb).1
      have hnc : Sub (nd rl p) c := fun i hi hni => hRc i hi ((lack_zero _ hn.1 _ I.lt).mp hl i hi hni)
      have hr : rl.getD p (0, 0) ∈ rl := by
        rw [List.getD_eq_getElem?_getD, List.getElem?_eq_getElem hpl]; exact List.getElem_mem hpl
      have hbr : brk c (rl.getD p (0, 0)) = false := by
        cases hq : brk c (rl.getD p (0, 0)) with
        | false => rfl
        | true => rw [List.any_eq_true.mpr ⟨_, hr, hq⟩] at hcl; cases hcl
      have h1 : lack (nd rl p) c = 0 := (lack_zero _ hn.1 _ hc).mpr hnc
      have h2 : lack (gv rl p) c = 0 := by
        unfold brk at hbr
        rw [show lack (rl.getD p (0, 0)).1 c = 0 from h1] at hbr
        by_cases q : lack (rl.getD p (0, 0)).2 c = 0
        · exact q
        · exfalso
          rw [show (lack (rl.getD p (0, 0)).2 c != 0) = true from by simpa using q] at hbr
          cases hbr
      exact (lack_zero _ hn.2 _ hc).mp h2 j hj hgb
  · by_cases e : q = p
    · subst e
      exact ⟨fun j hj hb => hsub j hj ((lack_zero _ hn.1 _ I.lt).mp hl j hj hb), hgs⟩
    · obtain ⟨g1, g2⟩ := I.done q hq fun x => by
        rcases List.mem_cons.mp (pm.mem_iff.mp x) with x | x
        · exact e x
        · exact hm x
      exact ⟨fun j hj hb => hsub j hj (g1 j hj hb), fun j hj hb => hsub j hj (g2 j hj hb)⟩
  · intro q hq
    obtain ⟨hqT, hqf⟩ := List.mem_filter.mp hq
    obtain ⟨t1, t2, t3, t4⟩ := I.tab q hqT
    refine ⟨t1, ?_, t3, fun i hi hni => hsub i (by omega) (t4 i hi hni)⟩
    rw [Nat.testBit_or, t2, Bool.false_or]
    cases hb : (lack (gv rl p) R).testBit q.1 with
    | false => rfl
    | true =>
      have : q.1 ∈ bits5 (lack (gv rl p) R) := mem_bits5.mpr ⟨t1, hb⟩
      rw [List.contains_eq_mem, decide_eq_true this] at hqf
      cases hqf
theorem leastTo_sub : ∀ (n c : Nat), n ≤ 32 → c < n → rl.any (brk c) = false → Sub (leastTo rl n) c
  | n + 1, c, hn, hc, hcl => by
    unfold leastTo
    by_cases e : c = n
    · subst e
      rw [if_pos hcl]
      intro j _ hj
      rw [Nat.testBit_and] at hj
      exact (Bool.and_eq_true_iff.mp hj).2
    · have ih := leastTo_sub n c (by omega) (by omega) hcl
      split
      · intro j hj hb
        rw [Nat.testBit_and] at hb
        exact ih j hj (Bool.and_eq_true_iff.mp hb).1
      · exact ih
theorem sub_leastTo {R : Nat} (h : ∀ c, c < 32 → rl.any (brk c) = false → Sub R c) : ∀ n, n ≤ 32 → Sub R (leastTo rl n)
  | 0, _ => fun j hj _ => (by decide : ∀ j : Nat, j < 5 → (31 : Nat).testBit j = true) j hj
  | n + 1, hn => by
    have ih := sub_leastTo h n (by omega)
    unfold leastTo
    split
    · rename_i hc
      intro j hj hb
      rw [Nat.testBit_and, ih j hj hb, h n (by omega) hc j hj hb]; rfl
    · exact ih
/-- when nothing waits -/
theorem inv_end {T : List (Nat × Nat)} {R : Nat} (I : Inv rl [] T R) : R = leastTo rl 32 := by
  have hcl : rl.any (brk R) = false := by
    rw [Bool.eq_false_iff]
    intro h
    obtain ⟨r, hr, hb⟩ := List.any_eq_true.mp h
    obtain ⟨p, hp, rfl⟩ := List.getElem_of_mem hr
    have e : rl.getD p (0, 0) = rl[p] := by rw [List.getD_eq_getElem?_getD, List.getElem?_eq_getElem hp]; rfl
    have hn := nd_lt h32 p
    unfold brk at hb
    obtain ⟨h1, h2⟩ := Bool.and_eq_true_iff.mp hb
    have h1' : lack (nd rl p) R = 0 := by rw [nd, e]; simpa using h1
    have h2' : lack (gv rl p) R ≠ 0 := by rw [gv, e]; simpa using h2
    have hs := (lack_zero _ hn.1 _ I.lt).mp h1'
    by_cases hm : p ∈ [] ++ T.map (·.2)
    · obtain ⟨q, hq, rfl⟩ := List.mem_map.mp (show p ∈ T.map (·.2) from hm)
      obtain ⟨t1, t2, t3, _⟩ := I.tab q hq
      rw [hs q.1 t1 t3] at t2; cases t2
    · exact h2' ((lack_zero _ hn.2 _ I.lt).mpr (I.done p hp hm).2)
  exact sub_eq _ I.lt _ (leastTo_lt rl 32) (sub_leastTo h32 I.least 32 (Nat.le_refl _)) (leastTo_sub h32 32 R (Nat.le_refl _) I.lt hcl)
/-- and what the table then has -/
def dueT (rl : List (Nat × Nat)) (R : Nat) : List (Nat × Nat) := ((List.range rl.length).filter fun p => lack (nd rl p) R != 0).map fun p => (low (lack (nd rl p) R), p)
omit h32 in
theorem low_uniq : ∀ b : Nat, b < 32 → ∀ j : Nat, j < 5 → b.testBit j = true → (∀ i : Nat, i < j → b.testBit i = false) → low b = j := by decide +kernel
theorem end_perm {T : List (Nat × Nat)} {R : Nat} (I : Inv rl [] T R) : T.Perm (dueT rl R) := by
  have hT : ∀ q ∈ T, lack (nd rl q.2) R ≠ 0 ∧ low (lack (nd rl q.2) R) = q.1 := by
    intro q hq
    obtain ⟨t1, t2, t3, t4⟩ := I.tab q hq
    have hn := nd_lt h32 q.2
    have hb : (lack (nd rl q.2) R).testBit q.1 = true := by rw [lack_bit _ hn.1 _ I.lt _ t1, t3, t2]; rfl
    refine ⟨(fun e => by rw [e, Nat.zero_testBit] at hb; cases hb), low_uniq _ (lack_lt _ hn.1 _ I.lt) _ t1 hb fun i hi => ?_⟩
    rw [lack_bit _ hn.1 _ I.lt _ (by omega)]
    cases hq2 : (nd rl q.2).testBit i with
    | false => rfl
    | true => rw [t4 i hi hq2]; rfl
  have hn2 : (T.map (·.2)).Nodup := by have := I.nodup; simpa using this
  have n1 : T.Nodup := List.Pairwise.imp (fun h e => h (by rw [e])) (List.pairwise_map.mp hn2)
  have n2 : (dueT rl R).Nodup := List.pairwise_map.mpr (List.Pairwise.imp (fun h e => h (by injection e)) (List.nodup_range.filter _))
  refine (List.perm_ext_iff_of_nodup n1 n2).mpr fun q => ?_
  constructor
  · intro hq
    obtain ⟨g1, g2⟩ := hT q hq
    have hpl := I.place q.2 (List.mem_append_right _ (List.mem_map_of_mem hq))
    refine List.mem_map.mpr ⟨q.2, List.mem_filter.mpr ⟨List.mem_range.mpr hpl, by simpa using g1⟩, ?_⟩
    rw [g2]
  · intro hq
    obtain ⟨p, hp, rfl⟩ := List.mem_map.mp hq
    obtain ⟨hp1, hp2⟩ := List.mem_filter.mp hp
    have hpl := List.mem_range.mp hp1
    have hne : lack (nd rl p) R ≠ 0 := by simpa using hp2
    by_cases hm : p ∈ [] ++ T.map (·.2)
    · obtain ⟨q, hqT, hqp⟩ := List.mem_map.mp (show p ∈ T.map (·.2) from hm)
      have e : q = (low (lack (nd rl p) R), p) := by
        rw [← hqp, (hT q hqT).2]
      rw [← e]; exact hqT
    · exact absurd ((lack_zero _ (nd_lt h32 p).1 _ I.lt).mpr (I.done p hpl hm).1) hne
end
end
section
/-- the digits of a place -/
def numOf (p : Nat) : Str := Str.ofString (toString (p : Int))
/-- the three texts of a rule -/
def keyOf (rl : List (Nat × Nat)) (sh p : Nat) : Str × Str × Str := (numOf p, txOf sh (nd rl p), txOf sh (gv rl p))
/-- a header of the table -/
def entOf (rl : List (Nat × Nat)) (sh : Nat) (q : Nat × Nat) : Str × Str := (wd (sh + q.1), lawText (numOf q.2) (txOf sh (nd rl q.2)) (txOf sh (gv rl q.2)))
theorem num_facts : ∀ p : Nat, p < 11 → 0 < (numOf p).length ∧ (numOf p).length ≤ 3 ∧ ∀ c ∈ (numOf p).cps.toList, 32 ≤ c ∧ c < 127 ∧ c ≠ 34 ∧ c ≠ 59 := by decide +kernel
theorem num_clean {p : Nat} (h : p < 11) : Clean (numOf p) := fun c hc => ⟨((num_facts p h).2.2 c hc).1, ((num_facts p h).2.2 c hc).2.1⟩
theorem tx_clean {sh b : Nat} (hs : sh < 11) (hb : b < 32) : Clean (txOf sh b) := fun c hc => ⟨(tx_chars hs hb c hc).1, (tx_chars hs hb c hc).2.1⟩
theorem tx_free {sh b : Nat} (hs : sh < 11) (hb : b < 32) : 34 ∉ (txOf sh b).cps.toList ∧ 92 ∉ (txOf sh b).cps.toList := ⟨fun h => (tx_chars hs hb _ h).2.2.1 rfl, fun h => (tx_chars hs hb _ h).2.2.2 rfl⟩
theorem wd_clean {i : Nat} (h : i < 15) : Clean (wd i) := fun c hc => ⟨((f_wd i h).2.2.1 c hc).1, ((f_wd i h).2.2.1 c hc).2.1⟩
abbrev dataR (rs : List Rul) : List PyData := rs.map fun r => .list [.str r.p, .str r.n, .str r.g]
theorem reads_rules {h : Heap} : ∀ {rs : List Rul}, (∀ r ∈ rs, h.get? r.a = some r.obj) → ∃ as, ReadsAll h (refsR rs) (dataR rs) as
  | [], _ => ⟨_, .nil⟩
  | r :: rs, hm => by
    have h1 : Reads h (.ref r.a) (.list [.str r.p, .str r.n, .str r.g]) [r.a] := .list (hm r List.mem_cons_self) rfl rfl (.cons (.str _ _) (.cons (.str _ _) (.cons (.str _ _) .nil)))
    obtain ⟨as, h2⟩ := reads_rules (rs := rs) fun r hr => hm r (List.mem_cons_of_mem _ hr)
    exact ⟨_, .cons h1 h2⟩
theorem reads_waiting {h : Heap} {D : Addr} {rs : List Rul} (hl : h.IsList D (refsR rs).toArray) (hm : ∀ r ∈ rs, h.get? r.a = some r.obj) : ∃ as, Reads h (.ref D) (.list (dataR rs)) as := by
  obtain ⟨o, ho, hc, n, hd⟩ := id hl
  obtain ⟨as, h2⟩ := reads_rules hm
  exact ⟨_, .list ho hc hd h2⟩
theorem shaped_rules {rs : List Rul} (h : ∀ r ∈ rs, PyData.strOk r.p = true ∧ PyData.strOk r.n = true ∧ PyData.strOk r.g = true) : PySem.SeqAt.shaped (.list (dataR rs)) = true := by
  have h1 : ∀ rs : List Rul, (∀ r ∈ rs, PyData.strOk r.p = true ∧ PyData.strOk r.n = true ∧ PyData.strOk r.g = true) → PyData.canLayAll0 (dataR rs) = true := by
    intro rs
    induction rs with
    | nil => intro _; rfl
    | cons r rs ih =>
      intro h
      have h1 := h r List.mem_cons_self
      simp only [dataR, List.map_cons, PyData.canLayAll0, PyData.canLay0, h1.1, h1.2.1, h1.2.2, Bool.and_true, Bool.true_and]
      exact ih fun e he => h e (List.mem_cons_of_mem _ he)
  have h2 : ∀ rs : List Rul, PyData.depthAll (dataR rs) ≤ 1 := by
    intro rs
    induction rs with
    | nil => exact Nat.zero_le _
    | cons r rs ih => simp only [dataR, List.map_cons, PyData.depthAll, PyData.depth] at ih ⊢; omega
  have h4 : PyData.canLay0 (.list (dataR rs)) = true := by simp only [PyData.canLay0]; exact h1 rs h
  have h5 : (PyData.list (dataR rs)).depth ≤ 64 := by simp only [PyData.depth]; exact Nat.le_trans (Nat.add_le_add (h2 rs) (Nat.le_refl _)) (by decide)
  exact Bool.and_eq_true_iff.mpr ⟨h4, decide_eq_true h5⟩
theorem eqv_nil (rs : List Rul) : PyData.eqv (.list (dataR rs)) (.list []) = rs.isEmpty := by
  cases rs <;> rfl
theorem key_ok {rl : List (Nat × Nat)} {sh : Nat} {W : List Nat} {rs : List Rul} (hs : sh < 11) (h32 : ∀ r ∈ rl, r.1 < 32 ∧ r.2 < 32) (hn : rl.length ≤ 11) (hW : ∀ p ∈ W, p < rl.length) (hk : rs.map Rul.key = W.map (keyOf rl sh)) :
    ∀ r ∈ rs, PyData.strOk r.p = true ∧ PyData.strOk r.n = true ∧ PyData.strOk r.g = true := by
  intro r hr
  have : r.key ∈ W.map (keyOf rl sh) := by rw [← hk]; exact List.mem_map_of_mem hr
  obtain ⟨p, hp, e⟩ := List.mem_map.mp this
  have hpn := hW p hp
  have h1 : r.p = numOf p := (congrArg (·.1) e).symm
  have h2 : r.n = txOf sh (nd rl p) := (congrArg (·.2.1) e).symm
  have h3 : r.g = txOf sh (gv rl p) := (congrArg (·.2.2) e).symm
  have hb := nd_lt h32 p
  rw [h1, h2, h3]
  exact ⟨clean_ok (num_clean (by omega)), clean_ok (tx_clean hs hb.1), clean_ok (tx_clean hs hb.2)⟩
theorem ws_head {sh z : Nat} (hz : z < 32) (h0 : z ≠ 0) : ∃ fr, wsOf sh z = wd (sh + low z) :: fr := by
  unfold wsOf low
  rw [if_neg h0]
  have := f_bits5 z hz h0
  cases hq : bits5 z with
  | nil => exact absurd hq this
  | cons a r => exact ⟨_, rfl⟩
theorem nodup_len {n : Nat} {l : List Nat} (h : l.Nodup) (hl : ∀ p ∈ l, p < n) : l.length ≤ n := by
  have h1 := List.Nodup.length_le_of_subset (l₂ := List.range n) h fun p hp => List.mem_range.mpr (hl p hp)
  simpa using h1
theorem inv_len {rl : List (Nat × Nat)} {Ws : List Nat} {T : List (Nat × Nat)} {R : Nat} (I : Inv rl Ws T R) : Ws.length + T.length ≤ rl.length := by
  have := nodup_len I.nodup I.place
  simpa using this
end
section
section
variable {rl : List (Nat × Nat)} {sh : Nat} {es : List Ent} {T : List (Nat × Nat)} (hs : sh < 11) (h32 : ∀ r ∈ rl, r.1 < 32 ∧ r.2 < 32) (hn : rl.length ≤ 11) (hT : ∀ q ∈ T, q.1 < 5 ∧ q.2 < rl.length)
  (hes : (es.map fun e => (e.n, e.x)) = T.map (entOf rl sh))
include hs h32 hn hT
theorem ent_law {q : Nat × Nat} (hq : q ∈ T) : parse (entOf rl sh q).2 = keyOf rl sh q.2 ∧ Parses (entOf rl sh q).2 (parse (entOf rl sh q).2) ∧ Clean (entOf rl sh q).2 ∧ IsWord (entOf rl sh q).1 := by
  obtain ⟨h1, h2⟩ := hT q hq
  have hb := nd_lt h32 q.2
  have hp := num_facts q.2 (by omega)
  have f1 := (tx_free hs hb.1).1
  have f2 := (tx_free hs hb.2).1
  have p1 : 34 ∉ (numOf q.2).cps.toList := fun h => (hp.2.2 34 h).2.2.1 rfl
  have p2 : 59 ∉ (numOf q.2).cps.toList := fun h => (hp.2.2 59 h).2.2.2 rfl
  refine ⟨parse_law p1 p2 f1 f2, parses_law p1 p2 f1 f2 (by omega) (Nat.le_trans (tx_len hs hb.1).2 (by decide)) (Nat.le_trans (tx_len hs hb.2).2 (by decide)), clean_law (num_clean (by omega)) (tx_clean hs hb.1) (tx_clean hs hb.2), f_word _ (by omega)⟩
include hes
theorem ent_of {e : Ent} (he : e ∈ es) : ∃ q ∈ T, e.n = (entOf rl sh q).1 ∧ e.x = (entOf rl sh q).2 := by
  have h1 : (e.n, e.x) ∈ T.map (entOf rl sh) := by rw [← hes]; exact List.mem_map.mpr ⟨e, he, rfl⟩
  obtain ⟨q, hq, h2⟩ := List.mem_map.mp h1
  exact ⟨q, hq, by rw [h2], by rw [h2]⟩
theorem ents_word : ∀ e ∈ es, IsWord e.n := fun e he => by
  obtain ⟨q, hq, h1, _⟩ := ent_of hs h32 hn hT hes he
  rw [h1]; exact (ent_law hs h32 hn hT hq).2.2.2
theorem ents_ok : ∀ e ∈ es, PyData.strOk e.x = true := fun e he => by
  obtain ⟨q, hq, _, h2⟩ := ent_of hs h32 hn hT hes he
  rw [h2]; exact clean_ok (ent_law hs h32 hn hT hq).2.2.1
theorem ents_parse : ∀ e ∈ es, Parses e.x (parse e.x) := fun e he => by
  obtain ⟨q, hq, _, h2⟩ := ent_of hs h32 hn hT hes he
  rw [h2]; exact (ent_law hs h32 hn hT hq).2.1
theorem word_eq {q : Nat × Nat} (hq : q ∈ T) {j : Nat} (hj : j < 5) : ((entOf rl sh q).1 == wd (sh + j)) = (q.1 == j) := by
  have h1 := (hT q hq).1
  show (wd (sh + q.1) == wd (sh + j)) = _
  by_cases e : q.1 = j
  · rw [e]; simp
  · have : wd (sh + q.1) ≠ wd (sh + j) := fun h => e (by have := f_inj _ (by omega) _ (by omega) h; omega)
    rw [beq_eq_false_iff_ne.mpr this, beq_eq_false_iff_ne.mpr e]
theorem taken_is {z : Nat} (hz : z ≠ 0) : takenOf parse es (wsOf sh z) = (takenP T z).map (keyOf rl sh) := by
  unfold takenOf takenP wsOf
  rw [if_neg hz, List.flatMap_map, List.map_flatMap]
  refine flat_congr fun j hj => ?_
  have hj5 := (mem_bits5.mp hj).1
  have e1 : (es.filter fun e => e.n == wd (sh + j)).map (fun e => parse e.x) = (((es.map fun e => (e.n, e.x)).filter fun p => p.1 == wd (sh + j)).map fun p => parse p.2) := by
    rw [List.filter_map, List.map_map]; rfl
  rw [e1, hes, List.filter_map, List.map_map, List.map_map]
  have e2 : T.filter ((fun p : Str × Str => p.1 == wd (sh + j)) ∘ entOf rl sh) = T.filter fun q => q.1 == j := List.filter_congr fun q hq => word_eq hs h32 hn hT hes hq hj5
  rw [e2]
  exact List.map_congr_left fun q hq => (ent_law hs h32 hn hT (List.mem_filter.mp hq).1).1
theorem left_is {z : Nat} : ((leftOf es (wsOf sh z)).map fun e => (e.n, e.x)) = (leftT T z).map (entOf rl sh) := by
  have e1 : (leftOf es (wsOf sh z)).map (fun e => (e.n, e.x)) = ((es.map fun e => (e.n, e.x)).filter fun p => !(wsOf sh z).contains p.1) := by
    unfold leftOf
    rw [List.filter_map]; rfl
  rw [e1, hes, List.filter_map]
  unfold leftT
  congr 1
  refine List.filter_congr fun q hq => ?_
  have h1 := (hT q hq).1
  show (!(wsOf sh z).contains (wd (sh + q.1))) = _
  rw [contains_ws hs h1]
  congr 1
  cases hb : z.testBit q.1 with
  | true => rw [List.contains_eq_mem]; exact (decide_eq_true (mem_bits5.mpr ⟨h1, hb⟩)).symm
  | false =>
    rw [List.contains_eq_mem]
    refine (decide_eq_false fun h => ?_).symm
    rw [(mem_bits5.mp h).2] at hb; cases hb
end
end
section
abbrev prOf (e : Ent) : Str × Str := (e.n, e.x)
abbrev slt (a b : Str) : Bool := strKind.blt a.cps.toList b.cps.toList
/-- pairs of texts, as tuples are compared -/
def plt (a b : Str × Str) : Bool := if a.1 = b.1 then (if a.2 = b.2 then false else slt a.2 b.2) else slt a.1 b.1
theorem str_eq_of {a b : Str} (h : a.cps.toList = b.cps.toList) : a = b := by
  cases a; cases b
  simp only [Str.mk.injEq]
  exact Array.toList_inj.mp h
theorem slt_con {a b : Str} (ne : a ≠ b) (h : slt a b = false) : slt b a = true := by
  cases hq : slt b a with
  | true => rfl
  | false => exact absurd (str_eq_of (strKind.total _ _ h hq)) ne
theorem slt_ne {a b : Str} (h : slt a b = true) : a ≠ b := by
  rintro rfl
  have := strKind.irrefl a.cps.toList
  rw [show slt a a = strKind.blt a.cps.toList a.cps.toList from rfl, this] at h
  cases h
theorem slt_tr {a b c : Str} (h1 : slt a b = true) (h2 : slt b c = true) : slt a c = true := strKind.trans _ _ _ h1 h2
theorem plt_irr (a : Str × Str) : plt a a = false := by unfold plt; rw [if_pos rfl, if_pos rfl]
theorem plt_con {a b : Str × Str} (ne : a ≠ b) (h : plt a b = false) : plt b a = true := by
  unfold plt at h ⊢
  by_cases e : a.1 = b.1
  · have e2 : a.2 ≠ b.2 := fun q => ne (Prod.ext e q)
    rw [if_pos e, if_neg e2] at h
    rw [if_pos e.symm, if_neg e2.symm]
    exact slt_con e2 h
  · rw [if_neg e] at h
    rw [if_neg (Ne.symm e)]
    exact slt_con e h
theorem plt_tr {a b c : Str × Str} (h1 : plt a b = true) (h2 : plt b c = true) : plt a c = true := by
  unfold plt at h1 h2 ⊢
  by_cases e1 : a.1 = b.1
  · rw [if_pos e1] at h1
    by_cases e2 : a.2 = b.2
    · rw [if_pos e2] at h1; cases h1
    · rw [if_neg e2] at h1
      by_cases e3 : b.1 = c.1
      · rw [if_pos e3] at h2
        by_cases e4 : b.2 = c.2
        · rw [if_pos e4] at h2; cases h2
        · rw [if_neg e4] at h2
          have h3 := slt_tr h1 h2
          rw [if_pos (e1.trans e3), if_neg (slt_ne h3)]
          exact h3
      · rw [if_neg e3] at h2
        rw [if_neg (e1 ▸ e3), e1]; exact h2
  · rw [if_neg e1] at h1
    by_cases e3 : b.1 = c.1
    · rw [if_neg (e3 ▸ e1), ← e3]; exact h1
    · rw [if_neg e3] at h2
      have h3 := slt_tr h1 h2
      rw [if_neg (slt_ne h3)]; exact h3
/-- two rows in order with the same members are one -/
theorem sorted_uniq : ∀ {a b : List (Str × Str)}, a.Perm b → a.Pairwise (fun x y => plt x y = true) → b.Pairwise (fun x y => plt x y = true) → a = b
  | [], _, p, _, _ => p.nil_eq
  | x :: r, b, p, ha, hb => by
    cases b with
    | nil => exact absurd p.length_eq (by simp)
    | cons y t =>
      have hx : x ∈ y :: t := p.mem_iff.mp (.head _)
      have hy : y ∈ x :: r := p.mem_iff.mpr (.head _)
      have e : x = y := by
        rcases List.mem_cons.mp hx with h | h
        · exact h
        · rcases List.mem_cons.mp hy with h' | h'
          · exact h'.symm
          · have a1 := plt_tr ((List.pairwise_cons.mp ha).1 y h') ((List.pairwise_cons.mp hb).1 x h)
            rw [plt_irr] at a1; cases a1
      subst e
      rw [sorted_uniq (List.Perm.cons_inv p) (List.pairwise_cons.mp ha).2 (List.pairwise_cons.mp hb).2]
theorem short_sorted : ∀ {es : List Ent}, es.length < 2 → (es.map prOf).Pairwise (fun x y => plt x y = true)
  | [], _ => .nil
  | [_], _ => List.pairwise_singleton _ _
  | _ :: _ :: _, h => absurd h (by simp)
section
variable {prog : Program} {w : World} {A : Around} {E : Value → Shared → Prop} {s : Shared} {h₀ : Heap} {L l : Addr} {m : Str → Option Value} {news : List (Addr × Obj)} {es : List Ent} {Q : Value → Shared → Prop}
theorem sorted_short {vs : List Value} (hl : s.heap.IsList l vs.toArray) (h2 : vs.length < 2) (h : Q (.ref (s.heap.objs.size + 1)) { s with heap := sortedAll s.heap vs vs.toArray }) : wpAny (model prog w) A (call (.builtin "sorted") [.ref l]) Q E s := by
  refine Calls.call_function_entry kind_sorted plain_sorted entry_sorted (args_sorted1 _) ?_
  unfold Builtin.«sorted»
  refine wpAny_bind (m := checkCount "sorted" 1 1 _) (wpAny_pure ?_)
  refine wpAny_bind (collect_list hl ?_ (by rw [sizeLine_eq]; omega))
  refine wpAny_bind (wpAny_newList ?_ (by rw [sizeLine_eq]; omega))
  have hsz : ((s.heap.push (seqObj "list" #[] 0)).update s.heap.objs.size (Obj.mapSeq (· ++ vs.toArray))).objs.size = s.heap.objs.size + 1 := by
    rw [Heap.size_update, size_push']
  have hoL : (((s.heap.push (seqObj "list" #[] 0)).update s.heap.objs.size (Obj.mapSeq (· ++ vs.toArray))).push (seqObj "list" vs.toArray 0)).get? (s.heap.objs.size + 1) = some (seqObj "list" vs.toArray 0) := by
    rw [← hsz]; exact Heap.get?_push_size _ rfl
  show wpAny _ _ _ _ _ { s with heap := ((s.heap.push (seqObj "list" #[] 0)).update s.heap.objs.size (Obj.mapSeq (· ++ vs.toArray))).push (seqObj "list" vs.toArray 0) }
  rw [hsz]
  refine wpAny_bind (wpAny_holding (wpAny_call_entry slot_list_sort ⟨_, hoL, rfl⟩ entry_list_sort ?body (args_list_sort _)))
  case body =>
    unfold sortedAll sortedHeap at h
    generalize ((s.heap.push (seqObj "list" #[] 0)).update s.heap.objs.size (Obj.mapSeq (· ++ vs.toArray))).push (seqObj "list" vs.toArray 0) = H at hoL h ⊢
    generalize s.heap.objs.size + 1 = a at hoL h ⊢
    rw [list_sort_plain]
    have ha : a < H.objs.size := Heap.lt_size hoL
    refine wpAny_bind (listItems_at hoL rfl ?_)
    refine wpAny_bind (listUpdate_at hoL rfl ?_ (by rw [List.size_toArray, sizeLine_eq]; omega) (Nat.zero_le _))
    obtain ⟨e1, ho1⟩ : ∃ e1, (H.update a (Obj.mapSeq fun _ => #[])).get? a = some (seqObj "list" #[] e1) := ⟨_, get?_update_seq hoL (fun _ => #[])⟩
    refine wpAny_bind (seqEpoch_at ho1 rfl ?_)
    refine wpAny_bind (wpAny_newTuple ?_ (by show vs.length ≤ _; rw [sizeLine_eq]; omega))
    refine wpAny_bind (wpAny_newList ?_ (Nat.zero_le _))
    refine wpAny_holding ?_
    have ho6 : (((H.update a (Obj.mapSeq fun _ => #[])).push (seqObj "tuple" vs.toArray 0)).push (seqObj "list" #[] 0)).get? a = some (seqObj "list" #[] e1) := by
      rw [Heap.get?_push_ne _ _ _ (by rw [size_push', Heap.size_update]; exact Nat.ne_of_lt (Nat.lt_succ_of_lt ha)), Heap.get?_push_ne _ _ _ (by rw [Heap.size_update]; exact Nat.ne_of_lt ha)]
      exact ho1
    show wpAny (model prog w) _ _ _ _ { s with heap := ((H.update a (Obj.mapSeq fun _ => #[])).push (seqObj "tuple" vs.toArray 0)).push (seqObj "list" #[] 0) }
    dsimp only
    have hn2 : vs.toArray.size < 2 := by rw [List.size_toArray]; exact h2
    rw [if_pos hn2, if_pos hn2]
    refine wpAny_bind (wpAny_pure ?_)
    rw [StateT.run_pure]
    refine wpAny_bind (wpAny_pure ?_)
    dsimp only
    have eo : (arrOf (SortSt.mk' general' (vs.toArray.zip vs.toArray) #[] 7 none)).map (·.2) = vs.toArray := by
      show (vs.toArray.zip vs.toArray).map (·.2) = _
      apply Array.toList_inj.mp
      simp [List.map_snd_zip]
    rw [eo]
    refine wpAny_bind (seqEpoch_at ho6 rfl ?_)
    refine wpAny_bind (listUpdate_at ho6 rfl ?_ (hsz2 := by rw [List.size_toArray, sizeLine_eq]; omega))
    simp only [bne_self_eq_false, Bool.false_eq_true, if_false]
    exact wpAny_pure ⟨_, rfl, wpAny_pure ⟨_, rfl, h⟩⟩
theorem tups_of {h : Heap} : ∀ {es : List Ent}, (∀ e ∈ es, h.get? e.a = some e.obj) → KatTups h (refsOf es) (es.map fun e => .str e.n e.tn)
  | [], _ => .nil
  | e :: es, hm => .cons (hm e List.mem_cons_self) rfl rfl rfl (tups_of fun e he => hm e (List.mem_cons_of_mem _ he))
theorem refs_getD {i : Nat} (h : i < es.length) : (refsOf es).getD i Value.none = .ref (es[i]).a := by
  rw [List.getD_eq_getElem?_getD, List.getElem?_eq_getElem (by simpa using h)]
  simp
theorem lt_pair {e e' : Ent} {C : Bool → Shared → Prop} (h1 : s.heap.get? e.a = some e.obj) (h2 : s.heap.get? e'.a = some e'.obj) (h : C (plt (prOf e) (prOf e')) s) : wpAny (model prog w) A (keyLt' (tuples' (Value.type "str" != Value.type "tuple")) (.ref e.a) (.ref e'.a)) C E s := by
  have hb : (Value.type "str" != Value.type "tuple") = true := by decide +kernel
  rw [hb]
  refine kat_lt h1 rfl h2 rfl ?_
  show KatLex prog w A true _ C [(.str e.n e.tn, .str e'.n e'.tn), (.str e.x e.tx, .str e'.x e'.tx)] 0 s
  refine kat_cons (wpAny_eqBool_str ?_)
  unfold plt prOf at h
  by_cases e1 : e.n = e'.n
  · rw [decide_eq_true e1]
    rw [if_pos e1] at h
    refine kat_yes (kat_cons (wpAny_eqBool_str ?_))
    by_cases e2 : e.x = e'.x
    · rw [decide_eq_true e2]
      rw [if_pos e2] at h
      exact kat_yes (kat_nil h)
    · rw [decide_eq_false e2]
      rw [if_neg e2] at h
      exact kat_no (kat_one _ _ (lt_str h))
  · rw [decide_eq_false e1]
    rw [if_neg e1] at h
    exact kat_no (oneLt_str h)
/-- sorted, over a list of pairs of texts -/
theorem sorted_pairs {k : Nat} (F : Fr h₀ L s.heap m) (N : News h₀ L s.heap news) (hl : (l, listOf (refsOf es).toArray k) ∈ news) (hm : ∀ e ∈ es, (e.a, e.obj) ∈ news) (h64 : es.length < 64) (hd : (es.map prOf).Nodup)
    (h : ∀ D c h' es', Fr h₀ L h' m → News h₀ L h' ((D, listOf (refsOf es').toArray c) :: news) → es'.Perm es → (es'.map prOf).Pairwise (fun x y => plt x y = true) → Q (.ref D) { s with heap := h' }) :
    wpAny (model prog w) A (call (.builtin "sorted") [.ref l]) Q E s := by
  have hvl : (refsOf es).length = es.length := List.length_map _
  by_cases h2 : es.length < 2
  · refine sorted_short (vs := refsOf es) (led_list N hl) (by rw [hvl]; exact h2) ?_
    obtain ⟨e, he⟩ := sortedAll_at s.heap (refsOf es) (refsOf es).toArray
    have F' : Fr h₀ L (sortedAll s.heap (refsOf es) (refsOf es).toArray) m := F.kept fun _ _ => sortedAll_old
    have N' : News h₀ L (sortedAll s.heap (refsOf es) (refsOf es).toArray) ((s.heap.objs.size + 1, listOf (refsOf es).toArray e) :: news) := N.kept_cons F (fun _ _ => sortedAll_old) (Nat.le_succ _) he
    exact h _ e _ es F' N' (.refl _) (short_sorted h2)
  · have h2' : 2 ≤ (refsOf es).length := by rw [hvl]; omega
    refine kat_sorted F N (led_list N hl) h2' (by rw [hvl]; exact h64) fun D e1 h' F' N' hD => ?_
    have hm' : ∀ e ∈ es, h'.get? e.a = some e.obj := fun e he => (N' _ (List.mem_cons_of_mem _ (hm e he))).1
    refine kat_kind (fs := es.map fun e => .str e.n e.tn) (T := .type "str") (tups_of hm') (by rw [List.length_map]; omega) (fun v hv => ?_) (by decide +kernel) ?_
    · obtain ⟨e, _, rfl⟩ := List.mem_map.mp hv
      exact Looks.of_pure rfl
    let lt : Nat → Nat → Bool := fun i j => plt (((es.map prOf).getD i default)) ((es.map prOf).getD j default)
    have g : ∀ i, (hi : i < es.length) → (es.map prOf).getD i default = prOf es[i] := fun i hi => by
      rw [List.getD_eq_getElem?_getD, List.getElem?_map, List.getElem?_eq_getElem hi]; rfl
    have O : Ord (refsOf es).length lt := by
      rw [hvl]
      refine ⟨fun i _ => plt_irr _, fun i j k _ _ _ q1 q2 => plt_tr q1 q2, fun i j hi hj ne q => plt_con (fun q' => ?_) q⟩
      rw [g i hi, g j hj] at q'
      have h1 := List.pairwise_iff_getElem.mp hd
      rcases Nat.lt_or_gt_of_ne ne with q2 | q2
      · exact h1 i j (by simpa using hi) (by simpa using hj) q2 (by simpa using q')
      · exact h1 j i (by simpa using hj) (by simpa using hi) q2 (by simpa using q'.symm)
    obtain ⟨p, r1, r2, r3⟩ := run_sort O (by omega)
    have P := isP_of r3
    refine KRun.wp (s := { s with heap := h' }) (fun i j C hi hj hC => ?_) ?_ r1
    · rw [hvl] at hi hj
      have hC' : C (plt (prOf es[i]) (prOf es[j])) { s with heap := h' } := by
        have := hC
        show C _ _
        rw [← g i hi, ← g j hj]; exact this
      show wpAny _ _ (keyLt' _ ((refsOf es).getD i Value.none) ((refsOf es).getD j Value.none)) C _ _
      rw [refs_getD hi, refs_getD hj]
      exact lt_pair (hm' _ (List.getElem_mem hi)) (hm' _ (List.getElem_mem hj)) hC'
    · refine KasFin.intro F' N' (.head fun q hq => Nat.ne_of_lt (hD q hq)) fun h'' c F'' N'' => ?_
      have dft : Ent := ⟨0, default, 0, default, 0, 0⟩
      have hpl : ∀ i ∈ p.toList, i < es.length := fun i hi => by
        have := r3.toList.mem_iff.mp hi
        rw [hvl] at this
        simpa using this
      have e0 : (p.toList.map fun i => (refsOf es).getD i Value.none) = refsOf (p.toList.map fun i => es.getD i dft) := by
        show _ = List.map (fun e : Ent => Value.ref e.a) (p.toList.map fun i => es.getD i dft)
        rw [List.map_map]
        refine List.map_congr_left fun i hi => ?_
        rw [refs_getD (hpl i hi)]
        show _ = Value.ref (es.getD i dft).a
        rw [List.getD_eq_getElem?_getD, List.getElem?_eq_getElem (hpl i hi)]; rfl
      rw [e0] at N''
      refine h D c h'' _ F'' N'' ?_ ?_
      · have h3 : p.toList.Perm (List.range es.length) := by
          have := r3.toList
          rw [hvl] at this
          simpa using this
        refine (h3.map fun i => es.getD i dft).trans (List.Perm.of_eq ?_)
        refine List.ext_getElem (by simp) fun i h1 h2 => ?_
        simp [List.getElem?_eq_getElem h2]
      · rw [List.map_map]
        refine List.pairwise_map.mpr (List.pairwise_iff_getElem.mpr fun i j hi hj hij => ?_)
        have hi' : i < p.size := by simpa using hi
        have hj' : j < p.size := by simpa using hj
        have h4 := r2 i j hij (by rw [← P.size]; exact hj')
        have gi := hpl _ (List.getElem_mem hi)
        have gj := hpl _ (List.getElem_mem hj)
        rw [getD_of hi', getD_of hj'] at h4
        have h5 : plt ((es.map prOf).getD p[i] default) ((es.map prOf).getD p[j] default) = true := h4
        rw [g _ (by simpa using gi), g _ (by simpa using gj)] at h5
        show plt (prOf (es.getD p.toList[i] dft)) (prOf (es.getD p.toList[j] dft)) = true
        rw [List.getD_eq_getElem?_getD, List.getElem?_eq_getElem gi, List.getD_eq_getElem?_getD, List.getElem?_eq_getElem gj]
        simpa using h5
end
end
section
theorem num_inj : ∀ p : Nat, p < 11 → ∀ q : Nat, q < 11 → numOf p = numOf q → p = q := by decide +kernel
/-- what the first i places are due in the end -/
def dueE (rl : List (Nat × Nat)) (sh R i : Nat) : List (Str × Str) := ((List.range i).filter fun p => lack (nd rl p) R != 0).map fun p => entOf rl sh (low (lack (nd rl p) R), p)
section
variable {rl : List (Nat × Nat)} {sh R : Nat}
theorem due_yes {i : Nat} (h : lack (nd rl i) R ≠ 0) : dueE rl sh R (i + 1) = dueE rl sh R i ++ [entOf rl sh (low (lack (nd rl i) R), i)] := by
  unfold dueE
  rw [List.range_succ, List.filter_append, List.map_append, List.filter_cons_of_pos (by simpa using h)]; rfl
theorem due_no {i : Nat} (h : lack (nd rl i) R = 0) : dueE rl sh R (i + 1) = dueE rl sh R i := by
  unfold dueE
  rw [List.range_succ, List.filter_append, List.filter_cons_of_neg (by simpa using h)]; simp
theorem due_all : dueE rl sh R rl.length = (dueT rl R).map (entOf rl sh) := by
  unfold dueE dueT
  rw [List.map_map]; rfl
variable {T : List (Nat × Nat)} {es : List Ent} (hs : sh < 11) (h32 : ∀ r ∈ rl, r.1 < 32 ∧ r.2 < 32) (hn : rl.length ≤ 11) (hT : ∀ q ∈ T, q.1 < 5 ∧ q.2 < rl.length) (hnd : (T.map (·.2)).Nodup)
  (hes : (es.map fun e => (e.n, e.x)) = T.map (entOf rl sh))
include hs h32 hn hT hnd hes
theorem ents_nodup : (es.map prOf).Nodup := by
  show (es.map fun e => (e.n, e.x)).Nodup
  rw [hes]
  refine List.pairwise_map.mpr (List.Pairwise.imp_of_mem (fun {a b} ha hb ne e => ne ?_) (List.pairwise_map.mp hnd))
  have h1 := (ent_law hs h32 hn hT ha).1
  have h2 := (ent_law hs h32 hn hT hb).1
  rw [e, h2] at h1
  have h3 : numOf b.2 = numOf a.2 := congrArg (·.1) h1
  have ha' := (hT a ha).2
  have hb' := (hT b hb).2
  exact num_inj _ (by omega) _ (by omega) h3.symm
omit hnd in
theorem ents_clean : ∀ e ∈ es, PyData.strOk e.n = true ∧ PyData.strOk e.x = true := fun e he => by
  refine ⟨?_, ents_ok hs h32 hn hT hes e he⟩
  obtain ⟨q, hq, h1, _⟩ := ent_of hs h32 hn hT hes he
  rw [h1]
  have := (hT q hq).1
  exact clean_ok (wd_clean (i := sh + q.1) (by omega))
end
theorem pairs_eq {es ds : List Ent} (h : es.map prOf = ds.map prOf) : pairsOf es = pairsOf ds := by
  have e : ∀ l : List Ent, pairsOf l = (l.map prOf).map fun p => PyData.tuple [.str p.1, .str p.2] := fun l => by rw [List.map_map]; rfl
  rw [e, e, h]
/-- the two sorted rows are one -/
theorem both_sorted {es ds es' ds' : List Ent} (hp : (es.map prOf).Perm (ds.map prOf)) (p1 : es'.Perm es) (p2 : ds'.Perm ds) (s1 : (es'.map prOf).Pairwise (fun x y => plt x y = true)) (s2 : (ds'.map prOf).Pairwise (fun x y => plt x y = true)) : pairsOf es' = pairsOf ds' :=
  pairs_eq (sorted_uniq (((p1.map _).trans hp).trans (p2.map _).symm) s1 s2)
theorem due_dueT {rl : List (Nat × Nat)} {R : Nat} (h32 : ∀ r ∈ rl, r.1 < 32 ∧ r.2 < 32) (hR : R < 32) : ∀ q ∈ dueT rl R, q.1 < 5 ∧ q.2 < rl.length := by
  intro q hq
  obtain ⟨p, hp, rfl⟩ := List.mem_map.mp hq
  obtain ⟨hp1, hp2⟩ := List.mem_filter.mp hp
  exact ⟨(low_spec _ (lack_lt _ (nd_lt h32 p).1 _ hR) (by simpa using hp2)).1, List.mem_range.mp hp1⟩
theorem due_nodup {rl : List (Nat × Nat)} {R : Nat} : ((dueT rl R).map (·.2)).Nodup := by
  unfold dueT
  rw [List.map_map]
  have : ((fun q : Nat × Nat => q.2) ∘ fun p => (low (lack (nd rl p) R), p)) = id := rfl
  rw [this, List.map_id]
  exact List.nodup_range.filter _
theorem nm_ok : ∀ sh : Nat, sh < 11 → ∀ x ∈ nm sh, PyData.strOk x = true ∧ x.length ≤ 100 := by decide +kernel
theorem names_ok {sh : Nat} (hs : sh < 11) {nl : List (Str × Tok)} (h : nl.map (·.1) = (words15.drop sh).take 5) (hl : nl.length = 5) : Names nl :=
  ⟨hl, fun p hp => (nm_ok sh hs p.1 (by rw [show nm sh = nl.map (·.1) from h.symm]; exact List.mem_map_of_mem hp)).1, fun p hp => (nm_ok sh hs p.1 (by rw [show nm sh = nl.map (·.1) from h.symm]; exact List.mem_map_of_mem hp)).2⟩
/-- the local names while the due rows are laid -/
def DueM (m : Str → Option Value) (na ra x l : Addr) (R : Nat) : Prop := m (Str.ofString "names") = some (.ref na) ∧ m (Str.ofString "rules") = some (.ref ra) ∧ m (Str.ofString "table") = some (.ref x) ∧ m (Str.ofString "due") = some (.ref l) ∧ (∃ t, m (Str.ofString "reached") = some (.int (R : Int) t)) ∧ ∃ t, m (Str.ofString "least") = some (.int (R : Int) t)
end
section
inductive WhMark : Prop | intro
inductive DueMark : Prop | intro
inductive FinMark : Prop | intro
local macro_rules | `(tactic| walk_at "exec Assign cons ListComp") => `(tactic| refine Hold.of ?_)
local macro_rules | `(tactic| walk_at "CompSrc") => `(tactic| refine Hold.of ?_)
local macro_rules | `(tactic| k_in) => `(tactic| exact Frag.In.keeps (by k_asm) (Fr.keep (by k_asm)))
local macro_rules | `(tactic| walk_at "call builtin:list.append") => `(tactic| refine Hold.of ?_)
local macro_rules | `(tactic| walk_at "CompEnd ref") => `(tactic| refine Hold.of ?_)
local macro_rules | `(tactic| walk_at "exec For Name Call cons nil") => `(tactic| refine Hold.of ?_)
local macro_rules | `(tactic| walk_at "exec While") => `(tactic| refine Hold.of ?_)
local macro_rules | `(tactic| walk_at "call builtin:len") => `(tactic| refine Hold.of ?_)
local macro_rules | `(tactic| walk_at "subscriptTail Name Name ref int") => `(tactic| refine Hold.of ?_)
local macro_rules | `(tactic| walk_at "compareOp NotEq ref ref") => `(tactic| refine Hold.of ?_)
local macro_rules | `(tactic| walk_at "subscriptTail Name Slice ref ref") => `(tactic| ((with_reducible rename WhMark => whM); refine Hold.of ?_))
local macro_rules | `(tactic| walk_at "binaryOp Add ref ref") => `(tactic| ((with_reducible rename WhMark => whM); refine Hold.of ?_))
local macro_rules | `(tactic| walk_at "subscriptTail Name Constant ref int") => `(tactic| ((with_reducible rename WhMark => whM); k_here; k_dflt (refine' item_at (led_list ?N ?m) ?a ?b ?c ?_; (case N => k_asm); (case m => k_mem); (case a => decide); (case b => decide); (case c => exact rfl); k_whole)))
local macro_rules | `(tactic| walk_at "subscriptTail Call Constant ref int") => `(tactic| ((with_reducible rename DueMark => whD); k_here; k_dflt (refine' item_at (led_list ?N ?m) ?a ?b ?c ?_; (case N => k_asm); (case m => k_mem); (case a => decide); (case b => decide); (case c => exact rfl); k_whole)))
local macro_rules | `(tactic| walk_at "call builtin:str.split") => `(tactic| ((with_reducible rename DueMark => whD); refine Hold.of ?_))
local macro_rules | `(tactic| walk_at "call builtin:sorted") => `(tactic| refine Hold.of ?_)
local macro_rules | `(tactic| walk_at "compareOp Eq ref ref") => `(tactic| refine Hold.of ?_)
local macro_rules | `(tactic| walk_at "eval BoolOp") => `(tactic| ((with_reducible rename FinMark => whF); refine Hold.of ?_))
local macro_rules | `(tactic| walk_at "truthy bool") => `(tactic| ((with_reducible rename FinMark => whF); refine Hold.of ?_))
local macro_rules | `(tactic| walk_at "call ref") => `(tactic| (k_here; refine Hold.of ?_))
def rulesOf (xs : List Int) : List (Nat × Nat) := xs.map fun x => ((x.fmod 32).toNat, ((x.fdiv 32).fmod 32).toNat)
theorem ints_at {vs : List Value} {xs : List Int} {j : Nat} {v : Value} (h : IntsAre vs xs) (e : vs.toArray[j]? = some v) : ∃ hj : j < xs.length, ∃ t, v = .int (xs[j]) t := by
  have e' : vs[j]? = some v := by simpa using e
  induction h generalizing j with
  | nil => cases e'
  | cons n t r ih =>
    cases j with
    | zero => cases e'; exact ⟨by simp, _, rfl⟩
    | succ j =>
      obtain ⟨hj, t', hv⟩ := ih (j := j) (by simpa using e') (by simpa using e')
      exact ⟨by simpa using hj, t', hv⟩
theorem RulesIn.snoc {news : List (Addr × Obj)} {vs : List Value} {rs : List (Nat × Nat)} {v : Value} {r : Nat × Nat} (h : RulesIn news vs rs) (hr : ∃ T k ta tb, v = .ref T ∧ (T, tupOf #[.int (r.1 : Int) ta, .int (r.2 : Int) tb] k) ∈ news) : RulesIn news (vs ++ [v]) (rs ++ [r]) := by
  induction vs generalizing rs with
  | nil => cases rs with
    | nil => exact ⟨hr, trivial⟩
    | cons _ _ => exact h.elim
  | cons v' vs ih => cases rs with
    | nil => exact h.elim
    | cons r' rs => exact ⟨h.1, ih h.2⟩
theorem rng : ∀ n : Nat, n ≤ 11 → Builtin.Range.small 0 (n : Int) 1 = true ∧ Builtin.Range.rangeSize 0 (n : Int) 1 = ((n : Nat) : Int) := by decide +kernel
def LawM (m : Str → Option Value) (na ra : Addr) (way sh : Nat) : Prop := m (Str.ofString "names") = some (.ref na) ∧ m (Str.ofString "rules") = some (.ref ra) ∧ (∃ t, m (Str.ofString "way") = some (.int (way : Int) t)) ∧ ∃ t, m (Str.ofString "shift") = some (.int (sh : Int) t)
theorem mulpow (a sh : Nat) : (a : Int) * 2 ^ ((sh : Int)).toNat = ((a * 2 ^ sh : Nat) : Int) := by
  rw [Int.toNat_natCast]; push_cast; rfl
theorem sh_lt {a sh : Nat} (h : a < 32) (hs : sh ≤ 10) : a * 2 ^ sh < 2 ^ 15 := by
  have h1 : 2 ^ sh ≤ 2 ^ 10 := Nat.pow_le_pow_right (by decide) hs
  have h2 : a * 2 ^ sh ≤ 31 * 2 ^ 10 := Nat.mul_le_mul (by omega) h1
  omega
theorem led_ruleR {h₀ h : Heap} {L a l : Addr} {news : List (Addr × Obj)} {p : Str} {tp : Tok} {r : List Value} {kr k : Nat} {rs : List Rul} (N : News h₀ L h news) (ha : (a, listOf (Value.str p tp :: r).toArray kr) ∈ news) (hb : (l, listOf (refsR rs).toArray k) ∈ news) : a ≠ l := by
  refine led_ne2 N ha hb fun e => ?_
  have h3 : (Value.str p tp :: r).toArray = (refsR rs).toArray := by injection e
  have h4 : Value.str p tp :: r = refsR rs := by simpa using h3
  cases rs with
  | nil => cases h4
  | cons e es => cases h4
theorem fmod_nat (a : Nat) {n : Nat} (h : 0 < n) : (a : Int).fmod (n : Int) = ((a % n : Nat) : Int) := by
  rw [Int.fmod_eq_emod_of_nonneg _ (Int.natCast_nonneg n)]
  rfl
/-- what holds ahead of each turn of the while loop -/
def WhJ (w : World) (rl : List (Nat × Nat)) (sh way : Nat) (na ra x d l : Addr) (t : Tok) (BL : List (Addr × Obj)) (n : Nat) (m : Str → Option Value) (nw : List (Addr × Obj)) : Prop :=
  ∃ (W : List Nat) (T : List (Nat × Nat)) (R : Nat) (wa : Addr) (wk : Nat) (rs : List Rul) (es : List Ent) (k' : Nat) (tr tw ts : Tok), n = (32 - R) * 64 + W.length ∧ Inv rl W T R ∧
    m (Str.ofString "names") = some (.ref na) ∧ m (Str.ofString "rules") = some (.ref ra) ∧ m (Str.ofString "way") = some (.int (way : Int) tw) ∧ m (Str.ofString "shift") = some (.int (sh : Int) ts) ∧
    m (Str.ofString "waiting") = some (.ref wa) ∧ m (Str.ofString "table") = some (.ref x) ∧ m (Str.ofString "reached") = some (.int (R : Int) tr) ∧
    (wa, listOf (refsR rs).toArray wk) ∈ nw ∧ (∀ r ∈ rs, (r.a, r.obj) ∈ nw) ∧ rs.map Rul.key = W.map (keyOf rl sh) ∧ Tab w x d l t es k' nw ∧ (es.map fun e => (e.n, e.x)) = T.map (entOf rl sh) ∧ ∀ p ∈ BL, p ∈ nw
theorem rules_lt (xs : List Int) : ∀ r ∈ rulesOf xs, r.1 < 32 ∧ r.2 < 32 := by
  intro r hr
  obtain ⟨x, _, rfl⟩ := List.mem_map.mp hr
  have h1 := fmod_hi x (n := 32) (by decide)
  have h2 := fmod_lo x (n := 32) (by decide)
  have h3 := fmod_hi (x.fdiv 32) (n := 32) (by decide)
  have h4 := fmod_lo (x.fdiv 32) (n := 32) (by decide)
  exact ⟨by omega, by omega⟩
theorem int_small (x : Int) (n : Nat) (h0 : 0 ≤ x) (h1 : x < ((n + 1 : Nat) : Int)) : ∃ k : Nat, x = (k : Int) ∧ k ≤ n := ⟨x.toNat, by omega, by omega⟩
theorem walk_conv {V V' : Program} (hV : V = V') {K K' : Params → Frag} (hK : K = K') {loose : List Str} {lv : List (Str × WData)} {as : List Addr} {e : ∀ P, as = (K P).map (·.1)} {e' : ∀ P, as = (K' P).map (·.1)} {r : RowW} {d : DefRec} {kwd : List (Str × PySem.Expr)} {run : Value → List Value → Sem Value}
    (h : WalkO V' loose (XL V' lv) (kHook K' as e').says r d kwd run) : WalkO V loose (XL V lv) (kHook K as e).says r d kwd run := by
  subst hV; subst hK; exact h
/-! names that are taken, so that the head lays no second form of its largest parts (the compiled file has a lid) -/
theorem law_holds.tw5389484754426515990 : True := trivial
theorem law_holds.tw13190408463805328480 : True := trivial
theorem law_holds.tw2618386414584295968 : True := trivial
theorem law_holds.tw11910091767301035721 : True := trivial
theorem law_holds.tw11033014276260730671 : True := trivial
theorem law_holds.tw15759456685926392790 : True := trivial
theorem law_holds.tw7629946663754641087 : True := trivial
theorem law_holds.tw17635293115897599505 : True := trivial
theorem law_holds.tw6847655697494810383 : True := trivial
theorem law_holds.tw3049941959672503198 : True := trivial
theorem law_holds.tw607667584577438428 : True := trivial
theorem law_holds.tw10264638600885302300 : True := trivial
theorem law_holds.tw4614512636035447770 : True := trivial
theorem law_holds.tw15162217921772873613 : True := trivial
theorem law_holds.tw9634471323475708679 : True := trivial
theorem law_holds.tw2090888555730037645 : True := trivial
theorem law_holds.tw10666784280354678857 : True := trivial
theorem law_holds.tw9069877914133315304 : True := trivial
theorem law_holds.tw3756308257209627903 : True := trivial
theorem law_holds.tw8417186165934385351 : True := trivial
theorem law_holds.tw9682718004065560343 : True := trivial
theorem law_holds.tw15694993059591697976 : True := trivial
theorem law_holds.tw7185456241796803578 : True := trivial
theorem law_holds.tw13028658284911697911 : True := trivial
theorem law_holds.tw4464252984393422682 : True := trivial
theorem law_holds.tw12456547296908542839 : True := trivial
theorem law_holds.tw11347954631545130290 : True := trivial
theorem law_holds.tw6776455111828631412 : True := trivial
theorem law_holds.tw7356724547972884604 : True := trivial
theorem law_holds.tw3756957479349018193 : True := trivial
theorem law_holds.tw14051398506283589457 : True := trivial
theorem law_holds.tw14872900085578418628 : True := trivial
theorem law_holds.tw16563099163409725306 : True := trivial
theorem law_holds.tw11625900857008200698 : True := trivial
theorem law_holds.tw2006301483956418059 : True := trivial
theorem law_holds.tw7497986649931050792 : True := trivial
theorem law_holds.tw6709271908398517637 : True := trivial
theorem law_holds.tw4329158554759489670 : True := trivial
theorem law_holds.tw12342728606916771844 : True := trivial
theorem law_holds.tw1819975233463548508 : True := trivial
theorem law_holds.tw2124134355350193313 : True := trivial
theorem law_holds.tw9168033884955339765 : True := trivial
theorem law_holds.tw907578622648922086 : True := trivial
theorem law_holds.tw9255152265573255198 : True := trivial
theorem law_holds.tw9875236377963488844 : True := trivial
theorem law_holds.tw1905533677188600702 : True := trivial
theorem law_holds.tw15617896438947887921 : True := trivial
theorem law_holds.tw14983226153234331074 : True := trivial
theorem law_holds.tw6911747868599837429 : True := trivial
theorem law_holds.tw699380112222796084 : True := trivial
theorem law_holds.tw14390095281932903014 : True := trivial
theorem law_holds.tw5769158387606399586 : True := trivial
theorem law_holds.tw2075624079617657780 : True := trivial
theorem law_holds.tw11289095316329951393 : True := trivial
theorem law_holds.tw17911580528928914924 : True := trivial
theorem law_holds.tw14335913921861858828 : True := trivial
theorem law_holds.tw745255978533919091 : True := trivial
theorem law_holds.tw15014403891855920072 : True := trivial
theorem law_holds.tw2152083551845799040 : True := trivial
theorem law_holds.tw8369274380968253667 : True := trivial
theorem law_holds.tw3850375180904979519 : True := trivial
theorem law_holds.tw3186734533307500241 : True := trivial
theorem law_holds.tw12977093529070104392 : True := trivial
theorem law_holds.tw15883345262158282383 : True := trivial
theorem law_holds.tw1689763614830377041 : True := trivial
theorem law_holds.tw445335354869643106 : True := trivial
theorem law_holds.tw15609566024721092083 : True := trivial
theorem law_holds.tw3956099054510807996 : True := trivial
theorem law_holds.tw14545874151571354728 : True := trivial
theorem law_holds.tw8441880690091102137 : True := trivial
theorem law_holds.tw16947615914383616782 : True := trivial
theorem law_holds.tw11966672015165255308 : True := trivial
theorem law_holds.tw5112083995522966620 : True := trivial
theorem law_holds.tw4370086069003782432 : True := trivial
theorem law_holds.tw6896717019858035522 : True := trivial
theorem law_holds.tw2558664710541493025 : True := trivial
theorem law_holds.tw4515466672771955728 : True := trivial
theorem law_holds.tw12459966957829302596 : True := trivial
theorem law_holds.tw11097350217990362986 : True := trivial
theorem law_holds.tw8785698371604719795 : True := trivial
theorem law_holds.tw2322801206320994539 : True := trivial
theorem law_holds.tw8266603773606604290 : True := trivial
theorem law_holds.tw12889673554181485818 : True := trivial
theorem law_holds.tw3366817510852727610 : True := trivial
theorem law_holds.tw6723812968561706957 : True := trivial
theorem law_holds.tw653560878884961445 : True := trivial
theorem law_holds.tw3742325753681652743 : True := trivial
theorem law_holds.tw8249079356659094474 : True := trivial
theorem law_holds.tw13182730311906835528 : True := trivial
theorem law_holds.tw11100686419730198450 : True := trivial
theorem law_holds.tw2295933128562542503 : True := trivial
theorem law_holds.tw1186782194237197914 : True := trivial
theorem law_holds.tw13397297893571687751 : True := trivial
theorem law_holds.tw13800757232730249582 : True := trivial
theorem law_holds.tw8720880381367431298 : True := trivial
theorem law_holds.tw10028117763298573888 : True := trivial
theorem law_holds.tw2578278018795888234 : True := trivial
theorem law_holds.tw14925382992726071281 : True := trivial
theorem law_holds.tw6564709946809587534 : True := trivial
theorem law_holds.tw12419048959643632839 : True := trivial
theorem law_holds.tw8330938851228082562 : True := trivial
theorem law_holds.tw2102315897755806987 : True := trivial
theorem law_holds.tw7019463264422422977 : True := trivial
theorem law_holds.tw8191475993861738794 : True := trivial
theorem law_holds.tw15448297888555860652 : True := trivial
theorem law_holds.tw8857742495270377987 : True := trivial
theorem law_holds.tw14497384708736915567 : True := trivial
theorem law_holds.tw15472126771306010800 : True := trivial
theorem law_holds.tw7910590604623066228 : True := trivial
theorem law_holds.tw17237755526102222789 : True := trivial
theorem law_holds.tw4818577856007422655 : True := trivial
theorem law_holds.tw11098625913536864229 : True := trivial
theorem law_holds.tw10609929442622069884 : True := trivial
theorem law_holds.tw575232530192455986 : True := trivial
theorem law_holds.tw10486713781251687710 : True := trivial
theorem law_holds.tw13882729330811710610 : True := trivial
theorem law_holds.tw576407869801174206 : True := trivial
theorem law_holds.tw6861490101519172755 : True := trivial
theorem law_holds.tw7696488724909661519 : True := trivial
theorem law_holds.tw11609493526922420660 : True := trivial
theorem law_holds.tw17974257514489008736 : True := trivial
theorem law_holds.tw5920216800500632969 : True := trivial
theorem law_holds.tw11544315989524547432 : True := trivial
theorem law_holds.tw11097158420108258118 : True := trivial
theorem law_holds.tw15829985883664642994 : True := trivial
theorem law_holds.tw11017292853192552079 : True := trivial
theorem law_holds.tw455179833554555240 : True := trivial
theorem law_holds.tw18006792725990754497 : True := trivial
theorem law_holds.tw6860709855171689206 : True := trivial
theorem law_holds.tw8176227357466254829 : True := trivial
theorem law_holds.tw12835091436910803158 : True := trivial
theorem law_holds.tw8970147916757833333 : True := trivial
theorem law_holds.tw2139172203440323022 : True := trivial
theorem law_holds.tw4593294709026258786 : True := trivial
theorem law_holds.tw11182679623053108816 : True := trivial
theorem law_holds.tw18254337876149969668 : True := trivial
theorem law_holds.tw12296726922439171297 : True := trivial
theorem law_holds.tw16406091861079842607 : True := trivial
theorem law_holds.tw1928719863018725356 : True := trivial
theorem law_holds.tw18090433342136740992 : True := trivial
theorem law_holds.tw2269544990204364226 : True := trivial
theorem law_holds.tw8553002610548859549 : True := trivial
theorem law_holds.tw9207643191828677137 : True := trivial
theorem law_holds.tw8909828626151137519 : True := trivial
theorem law_holds.tw6727219029552735585 : True := trivial
theorem law_holds.tw16381176275627223697 : True := trivial
theorem law_holds.tw10958410103948607464 : True := trivial
theorem law_holds.tw4030767218360268280 : True := trivial
theorem law_holds.tw11223184984439025696 : True := trivial
theorem law_holds.tw6934448944433832347 : True := trivial
theorem law_holds.tw3912811242725288453 : True := trivial
theorem law_holds.tw2856731137302751260 : True := trivial
theorem law_holds.tw3910120701321347557 : True := trivial
theorem law_holds.tw10024239376800412576 : True := trivial
theorem law_holds.tw10371022188087798493 : True := trivial
theorem law_holds.tw11484002064277903863 : True := trivial
set_option Elab.async true in
theorem law_holds : Challenge.rw_pm0049_01.Holds := by
  w_on; o_law; k_head; (case hw => w_witness2)
  refine walk_conv (V' := view) (by kernel_rfl) (K' := kk.heap_1) (by kernel_rfl) (e' := fun _ => by kernel_rfl) ?_
  k_go0
  rename World => w₉
  k_steps
  rename List Int => script
  rename Fr _ _ _ _ => F₁
  rename News _ _ _ _ => N₁
  obtain ⟨sh, hsh, hsh10⟩ : ∃ sh : Nat, (7 + (List.take 5 script).sum).fmod 11 = (sh : Int) ∧ sh ≤ 10 := int_small _ 10 (fmod_lo _ (by decide)) (fmod_hi _ (by decide))
  obtain ⟨way, hway, hway10⟩ : ∃ way : Nat, ((7 + (List.take 5 script).sum).fdiv 11).fmod 1000 = (way : Int) ∧ way ≤ 999 := int_small _ 999 (fmod_lo _ (by decide)) (fmod_hi _ (by decide))
  rw [hsh, hway] at F₁
  rw [hsh]
  refine Hold.out (names_spec _ sh _ hsh10 _ _ _ _ _ _ _ _ _ _ _ _ _ _ _ _ _ _ _ _ _ (by k_asm) F₁ (by k_asm) N₁ (by k_asm) (by exact rfl) (by k_room) (by k_units) trivial ?_)
  intro r8 tl8 h8 tk8 F8 N8 l8 e8
  obtain ⟨na, nk, nl, e81, e82, e83⟩ := e8
  subst e81; subst e82
  simp only [List.cons_append, List.nil_append] at N8
  k_steps
  refine Hold.out ?_
  rename Fr _ _ _ _ => F₂
  rename News _ _ _ _ => N₂
  k_dflt (refine LCg.Assign_ListComp_U (F₀ := F₂) (by rfl) (by with_unfolding_all rfl) (by with_unfolding_all rfl) (by decide) (by rfl) (by decide) (by rfl) (by rfl) (by rfl) ?_)
  k_steps
  refine Hold.out ?_
  rename Fr _ _ _ _ => F₃
  rename News _ _ _ _ => N₃
  rename IntsAre _ _ => hxs
  rename List Value => ws₉
  have hxl := hxs.length
  have hx11 : ([261, 8, 129, 84, 1010, 32] ++ List.take 5 script : List Int).length ≤ 11 := by rw [List.length_append, List.length_take]; simp; omega
  generalize hxsd : ([261, 8, 129, 84, 1010, 32] ++ List.take 5 script : List Int) = xs at hxs hx11 hxl
  refine LCg.CompSrc.ledger (by rfl) F₃ N₃ List.mem_cons_self (by rw [List.size_toArray, hxl, sizeLine_eq]; omega) ?_
  intro g5
  refine comp_ind (fun j ys nw => RulesIn nw ys (rulesOf (xs.take j)) ∧ ∀ p ∈ _, p ∈ nw) ?_ ?_ ⟨trivial, fun p hp => hp⟩
  · rintro j ys nw hj ⟨hq1, hq2⟩ v I₃ oI₃ C₃ oC₃ D₃ m₂ h tk E'' hv hC hx F₃ N₃ off₃ ne
    obtain ⟨hj', t, hv'⟩ := ints_at hxs hv
    subst hv'
    k_steps
    rename_i T₉ _ F₉ N₉ l₉
    have e0 : rulesOf (xs.take (j + 1)) = rulesOf (xs.take j) ++ [(((xs[j]).fmod 32).toNat, (((xs[j]).fdiv 32).fmod 32).toNat)] := by
      unfold rulesOf
      rw [List.take_succ_eq_append_getElem hj', List.map_append]; rfl
    have e1 : ((((xs[j]).fmod 32).toNat : Nat) : Int) = (xs[j]).fmod 32 := Int.toNat_of_nonneg (fmod_lo _ (by decide))
    have e2 : (((((xs[j]).fdiv 32).fmod 32).toNat : Nat) : Int) = ((xs[j]).fdiv 32).fmod 32 := Int.toNat_of_nonneg (fmod_lo _ (by decide))
    refine Hold.out ?_
    refine LCg.CompEnd.intro F₉ N₉ ((T₉, _) :: nw) (fun p hp => mem_perm4 hp) ⟨⟨Nat.ne_of_gt l₉.1, Nat.ne_of_gt l₉.2.1, Nat.ne_of_gt l₉.2.2.1⟩, off₃⟩ (.inr ⟨_, List.mem_cons_of_mem _ (hq2 _ List.mem_cons_self), rfl, _, rfl⟩) ⟨?_, fun p hp => List.mem_cons_of_mem _ (hq2 p hp)⟩
    rw [e0]
    refine (hq1.mono fun p hp => List.mem_cons_of_mem _ hp).snoc ⟨T₉, 0, ?zta9, ?ztb9, rfl, ?zhm9⟩
    case zhm9 =>
      rw [e1, e2]
      exact List.mem_cons_self
  · rintro ys nw ⟨hq1, hq2⟩
    have e0 : xs.take ws₉.toArray.size = xs := by rw [List.size_toArray, hxl, List.take_length]
    rw [e0] at hq1
    intro D₄ h tk F₄ N₄ o4
    have hrl : ∀ r ∈ rulesOf xs, r.1 < 32 ∧ r.2 < 32 := rules_lt xs
    have hvl := hq1.length
    have hrn : (rulesOf xs).length = xs.length := List.length_map _
    generalize rulesOf xs = rl at *
    have hna := hq2 _ (List.mem_cons_of_mem _ (List.mem_cons_of_mem _ (List.mem_cons_of_mem _ List.mem_cons_self)))
    clear hq2
    dsimp only
    k_steps
    rename Fr _ _ _ _ => F₅
    rename News _ _ _ _ => N₅
    rename_i wa₅ _ _ _ l₅ _ _ _ _ _
    refine Hold.out (for_src ?_)
    k_steps
    have hyl : ys.toArray.size ≤ 11 := by rw [List.size_toArray, hvl, hrn]; exact hx11
    refine Hold.out (PySem.Calls.call_len_list (items := ys.toArray) ⟨_, (N₅ _ (List.mem_cons_of_mem _ List.mem_cons_self)).1, rfl, _, rfl⟩ (by omega) ?_)
    have hyl2 : ys.toArray.size = rl.length := by rw [List.size_toArray, hvl]
    rw [hyl2]
    k_steps
    have hrl11 : rl.length ≤ 11 := by rw [hrn]; exact hx11
    rename Fr _ _ _ _ => F₆
    rename News _ _ _ _ => N₆
    have hyn : ∀ p ∈ (D₄, LCg.lst ys) :: nw, p.1 < l₅ := by
      rename _ ∧ AllLt _ _ => z
      intro p hp
      rcases List.mem_cons.mp hp with rfl | hp
      · exact z.1
      · exact allLt_mem z.2 p hp
    refine for_range (n := rl.length) (fun i m nwc => LawM m na D₄ way sh ∧ m (Str.ofString "waiting") = some (.ref l₅) ∧ ∃ wk rs, (l₅, listOf (refsR rs).toArray wk) ∈ nwc ∧ (∀ r ∈ rs, (r.a, r.obj) ∈ nwc) ∧ rs.map Rul.key = (List.range i).map (keyOf rl sh) ∧ ∀ p ∈ (D₄, LCg.lst ys) :: nw, p ∈ nwc) (by rfl) (by assumption) (rng _ hrl11).1 (rng _ hrl11).2 F₆ N₆ ⟨⟨rfl, rfl, ⟨_, rfl⟩, ⟨_, rfl⟩⟩, rfl, 0, [], List.mem_cons_self, (fun r hr => by cases hr), rfl, fun p hp => List.mem_cons_of_mem _ hp⟩ ?_ ?_
    · rintro i t₁ m₁ nwc h tk I oI E' hi ⟨⟨hm1, hm2, ⟨tw, hm3⟩, ⟨ts, hm4⟩⟩, hm5, wk, rs, hw1, hw2, hw3, hw4⟩ F₇ N₇ off
      rw [Int.zero_add]
      k_steps
      rename Fr _ _ _ _ => F₈
      rename News _ _ _ _ => N₈
      have hiy : i < ys.length := by rw [hvl]; exact hi
      obtain ⟨⟨rn, rg⟩, hr1, T₈, k₈, ta, tb, hv₈, hm₈⟩ := hq1.get (i := i) (v := ys[i]) (List.getElem?_eq_getElem hiy)
      have hT8 : (T₈, tupOf #[.int (rn : Int) ta, .int (rg : Int) tb] k₈) ∈ nwc := hw4 _ (List.mem_cons_of_mem _ hm₈)
      have hrm := hrl _ (List.mem_of_getElem? hr1)
      refine Hold.out (item_at (vs := ys) (v := .ref T₈) (led_list N₈ (List.mem_cons_of_mem _ (hw4 _ List.mem_cons_self))) (Int.natCast_nonneg i) (by omega) (by rw [Int.toNat_natCast, List.getElem?_eq_getElem hiy, hv₈]) ?_)
      k_steps
      rename Fr _ _ _ _ => F₈
      rename News _ _ _ _ => N₈
      rw [mulpow rn sh]
      refine Hold.out (pretty_spec _ (rn * 2 ^ sh) _ (sh_lt hrm.1 hsh10) _ _ _ _ _ _ _ _ _ _ _ _ _ _ _ _ _ _ _ _ _ (by k_asm) F₈ (by k_asm) N₈ (by k_asm) (by exact rfl) (by k_room) (by k_units) trivial ?_)
      intro r8 tl8 h8 tk8 F8 N8 l8 e8
      obtain ⟨e81, t8, e82⟩ := e8
      subst e81; subst e82
      rw [List.nil_append] at N8
      clear F₈ N₈
      k_steps
      rename Fr _ _ _ _ => F₈
      rename News _ _ _ _ => N₈
      rw [mulpow rg sh]
      refine Hold.out (pretty_spec _ (rg * 2 ^ sh) _ (sh_lt hrm.2 hsh10) _ _ _ _ _ _ _ _ _ _ _ _ _ _ _ _ _ _ _ _ _ (by k_asm) F₈ (by k_asm) N₈ (by k_asm) (by exact rfl) (by k_room) (by k_units) trivial ?_)
      intro r8 tl8 h8 tk8 F8 N8 l8 e8
      obtain ⟨e81, t8, e82⟩ := e8
      subst e81; subst e82
      rw [List.nil_append] at N8
      clear F₈ N₈
      k_steps
      rename_i a₇ _ F₉ N₉ l₇
      have hrs : rs.length = i := by have := congrArg List.length hw3; simpa using this
      have hl5 := off _ hw1
      have hal : a₇ ≠ l₅ := Nat.ne_of_gt (allLt_mem l₇.2 _ hw1)
      have hkey : keyOf rl sh i = (numOf i, txOf sh rn, txOf sh rg) := by
        unfold keyOf nd gv
        rw [List.getD_eq_getElem?_getD, hr1]; rfl
      obtain ⟨R₇, hR1, hR2, N₉⟩ : ∃ R : Rul, R.a = a₇ ∧ R.key = keyOf rl sh i ∧ News _ _ _ ((a₇, R.obj) :: (I, oI) :: nwc) := ⟨⟨a₇, numOf i, txOf sh rn, txOf sh rg, _, _, _, 0⟩, rfl, hkey.symm, N₉⟩
      refine Hold.out ?_
      refine append_led (l := l₅) (its := (refsR rs).toArray) (k := wk) F₉ N₉ (List.mem_cons_of_mem _ (List.mem_cons_of_mem _ hw1)) (by simp; omega) ?_
      intro h6 F6 N6
      k_steps
      have inF : ∀ p ∈ nwc, p.1 ≠ l₅ → p ∈ nwc.filter (fun p => p.1 ≠ l₅) := fun p hp h => List.mem_filter.mpr ⟨hp, by simpa using h⟩
      refine TurnPost.next (nw' := (l₅, listOf ((refsR rs).toArray.push (.ref a₇)) (wk + 1)) :: (a₇, R₇.obj) :: nwc.filter (fun p => p.1 ≠ l₅)) F6 (fun p hp => ?_) (fun p hp => ?_) trivial ⟨⟨by exact (if_neg (by decide)).trans ((if_neg (by decide)).trans ((if_neg (by decide)).trans hm1)), by exact (if_neg (by decide)).trans ((if_neg (by decide)).trans ((if_neg (by decide)).trans hm2)), ⟨tw, by exact (if_neg (by decide)).trans ((if_neg (by decide)).trans ((if_neg (by decide)).trans hm3))⟩, ⟨ts, by exact (if_neg (by decide)).trans ((if_neg (by decide)).trans ((if_neg (by decide)).trans hm4))⟩⟩, by exact (if_neg (by decide)).trans ((if_neg (by decide)).trans ((if_neg (by decide)).trans hm5)), wk + 1, rs ++ [R₇], ?_, ?_, ?_, ?_⟩
      · rcases List.mem_cons.mp hp with rfl | hp
        · exact N6 _ (List.mem_cons_of_mem _ (List.mem_filter.mpr ⟨List.mem_cons_of_mem _ List.mem_cons_self, by simpa using hl5.symm⟩))
        · rcases List.mem_cons.mp hp with rfl | hp
          · exact N6 _ List.mem_cons_self
          · rcases List.mem_cons.mp hp with rfl | hp
            · exact N6 _ (List.mem_cons_of_mem _ (List.mem_filter.mpr ⟨List.mem_cons_self, by simpa using hal⟩))
            · obtain ⟨q1, q2⟩ := List.mem_filter.mp hp
              exact N6 _ (List.mem_cons_of_mem _ (List.mem_filter.mpr ⟨List.mem_cons_of_mem _ (List.mem_cons_of_mem _ q1), q2⟩))
      · rcases List.mem_cons.mp hp with rfl | hp
        · exact hl5
        · rcases List.mem_cons.mp hp with rfl | hp
          · exact Nat.ne_of_gt l₇.1
          · exact off _ (List.mem_filter.mp hp).1
      · rw [show refsR (rs ++ [R₇]) = refsR rs ++ [.ref a₇] by simp [hR1]]
        simp
      · intro r hr
        rcases List.mem_append.mp hr with hr | hr
        · exact List.mem_cons_of_mem _ (List.mem_cons_of_mem _ (inF _ (hw2 r hr) (led_ruleR N₇ (List.mem_cons_of_mem _ (hw2 r hr)) (List.mem_cons_of_mem _ hw1))))
        · rw [List.mem_singleton.mp hr, hR1]
          exact List.mem_cons_of_mem _ List.mem_cons_self
      · rw [List.map_append, hw3, List.range_succ, List.map_append, List.map_cons, List.map_nil, hR2]; rfl
      · intro p hp
        exact List.mem_cons_of_mem _ (List.mem_cons_of_mem _ (inF _ (hw4 p hp) (Nat.ne_of_lt (hyn p hp))))
    · rintro m₁ nwc h tk E' ⟨⟨hm1, hm2, ⟨tw, hm3⟩, ⟨ts, hm4⟩⟩, hm5, wk, rs, hw1, hw2, hw3, hw4⟩ F₇ N₇
      k_steps
      rename Fr _ _ _ _ => F₈
      rename News _ _ _ _ => N₈
      refine Hold.out (headers_spec _ _ _ _ _ _ _ _ _ _ _ _ _ _ _ _ _ _ _ _ _ _ (by k_asm) F₈ (by k_asm) N₈ (by k_asm) (by exact rfl) (by k_room) (by k_units) trivial ?_)
      intro r8 tl8 h8 tk8 F8 N8 l8 e8
      obtain ⟨hx, hd₀, hl₀, ht₀, e81, e82⟩ := e8
      subst e81; subst e82
      have l8₀ := l8
      have hw4₀ := hw4
      simp only [List.cons_append, List.nil_append] at N8
      clear F₈ N₈
      k_steps
      rename Fr _ _ _ _ => F₈
      rename News _ _ _ _ => N₈
      refine Hold.out (While_inv2 (WhJ w₉ rl sh way na D₄ hx hd₀ hl₀ ht₀ ((D₄, LCg.lst ys) :: nw)) (n₀ := (32 - 0) * 64 + rl.length) F₈ N₈ ?_ ?_)
      · refine ⟨List.range rl.length, [], 0, l₅, wk, rs, [], 0, _, tw, ts, by rw [List.length_range], inv_start hrl rfl, by exact (if_neg (by decide)).trans ((if_neg (by decide)).trans hm1), by exact (if_neg (by decide)).trans ((if_neg (by decide)).trans hm2), by exact (if_neg (by decide)).trans ((if_neg (by decide)).trans hm3), by exact (if_neg (by decide)).trans ((if_neg (by decide)).trans hm4), by exact (if_neg (by decide)).trans ((if_neg (by decide)).trans hm5), by exact (if_neg (by decide)).trans (if_pos rfl), by exact if_pos rfl, List.mem_cons_of_mem _ (List.mem_cons_of_mem _ (List.mem_cons_of_mem _ hw1)), fun r hr => List.mem_cons_of_mem _ (List.mem_cons_of_mem _ (List.mem_cons_of_mem _ (hw2 r hr))), hw3, ?_, rfl, fun p hp => List.mem_cons_of_mem _ (List.mem_cons_of_mem _ (List.mem_cons_of_mem _ (hw4 p hp)))⟩
        exact ⟨⟨List.mem_cons_of_mem _ List.mem_cons_self, List.mem_cons_of_mem _ (List.mem_cons_of_mem _ List.mem_cons_self), List.mem_cons_self⟩, ⟨(fun e he => by cases he), (fun e he => by cases he), Nat.zero_le _⟩⟩
      · rintro n m₂ nw₂ h tk F₉ N₉ ⟨Ws, Tt, R, wa, wk, rs, es, k', tr₉, tw, ts, rfl, Iv, hm1, hm2, hm3, hm4, hm5, hm6, hm7, hw1, hw2, hw3, hT, hes, hB⟩
        k_steps
        rename Fr _ _ _ _ => F₁₀
        rename News _ _ _ _ => N₁₀
        have hWn : ∀ p ∈ Ws, p < rl.length := fun p hp => Iv.place p (List.mem_append_left _ hp)
        obtain ⟨as, hrd⟩ := reads_waiting (D := wa) (led_list N₁₀ (List.mem_cons_of_mem _ hw1)) (fun r hr => (N₁₀ _ (List.mem_cons_of_mem _ (hw2 r hr))).1)
        refine Hold.out (ne_dataH hrd (reads_newData (ys := []) (led_list (vs := []) N₁₀ List.mem_cons_self) .nil) (shaped_rules (key_ok (by omega) hrl hrl11 hWn hw3)) rfl (by k_units) ?_)
        rw [eqv_nil]
        cases hrs : rs.isEmpty with
        | true =>
          have hrs0 : rs = [] := List.isEmpty_iff.mp hrs
          have hW0 : Ws = [] := by
            rw [hrs0] at hw3
            cases Ws with
            | nil => rfl
            | cons _ _ => cases hw3
          rw [hW0] at Iv
          have hRe := inv_end hrl Iv
          have hpm := end_perm hrl Iv
          have hD4 := hB _ List.mem_cons_self
          have hna₂ : (na, listOf (strValues nl).toArray nk) ∈ nw₂ := hB _ (List.mem_cons_of_mem _ hna)
          have hqB : RulesIn nw₂ ys rl := hq1.mono fun p hp => hB p (List.mem_cons_of_mem _ hp)
          have whD : DueMark := .intro
          clear hrd
          k_steps
          rename Fr _ _ _ _ => F₂₀
          rename News _ _ _ _ => N₂₀
          refine Hold.out (least_spec _ D₄ ys rl _ (by rw [hvl]; exact hrl11) hrl _ _ _ _ _ _ _ _ _ _ _ _ _ _ _ _ _ _ _ _ _ (by k_asm) F₂₀ (by k_asm) N₂₀ (by k_asm) (by exact rfl) (by k_room) (by k_units) ⟨by k_mem, hqB.mono fun p hp => by k_mem⟩ ?_)
          intro r8 tl8 h8 tk8 F8 N8 l8 e8
          obtain ⟨e81, t8, e82⟩ := e8
          subst e81; subst e82
          rw [List.nil_append] at N8
          rw [← hRe]
          clear F₂₀ N₂₀
          k_steps
          rename Fr _ _ _ _ => F₂₁
          rename News _ _ _ _ => N₂₁
          rename _ ∧ AllLt _ nw₂ => hl₆
          rename_i l₆ _ _ _ _
          refine Hold.out (for_src ?_)
          k_steps
          refine Hold.out (PySem.Calls.call_len_list (items := ys.toArray) ⟨_, (N₂₁ (D₄, LCg.lst ys) (by k_mem)).1, rfl, _, rfl⟩ (by omega) ?_)
          rw [hyl2]
          k_steps
          rename Fr _ _ _ _ => F₂₂
          rename News _ _ _ _ => N₂₂
          have hnl5 : nl.length = 5 := by
            have := congrArg List.length e83
            rw [List.length_map, List.length_take, List.length_drop, show words15.length = 15 from rfl] at this
            omega
          have hNm := names_ok (by omega) e83 hnl5
          have hyn₂ : ∀ p ∈ nw₂, p.1 < l₆ := fun p hp => allLt_mem hl₆.2 p hp
          refine for_range (n := rl.length) (fun i m nwc => DueM m na D₄ hx l₆ R ∧ ∃ dk ds, (l₆, listOf (refsOf ds).toArray dk) ∈ nwc ∧ (∀ e ∈ ds, (e.a, e.obj) ∈ nwc) ∧ ds.map prOf = dueE rl sh R i ∧ ∀ p ∈ nw₂, p ∈ nwc) (by rfl) (by assumption) (rng _ hrl11).1 (rng _ hrl11).2 F₂₂ N₂₂ ⟨⟨(by (repeat (refine (if_neg (by decide)).trans ?_)); first | assumption | exact if_pos rfl), (by (repeat (refine (if_neg (by decide)).trans ?_)); first | assumption | exact if_pos rfl), (by (repeat (refine (if_neg (by decide)).trans ?_)); first | assumption | exact if_pos rfl), (by (repeat (refine (if_neg (by decide)).trans ?_)); first | assumption | exact if_pos rfl), ⟨tr₉, (by (repeat (refine (if_neg (by decide)).trans ?_)); first | assumption | exact if_pos rfl)⟩, ⟨t8, (by (repeat (refine (if_neg (by decide)).trans ?_)); first | assumption | exact if_pos rfl)⟩⟩, 0, [], List.mem_cons_self, (fun e he => by cases he), rfl, fun p hp => by k_mem⟩ ?_ ?_
          · rintro i t₁ m₁ nwc h tk I oI E' hi ⟨⟨d1, d2, d3, d4, ⟨tq, d5⟩, ⟨tl, d6⟩⟩, dk, ds, hu1, hu2, hu3, hu4⟩ F₇ N₇ off
            rw [Int.zero_add]
            k_steps
            rename Fr _ _ _ _ => F₈
            rename News _ _ _ _ => N₈
            have hiy : i < ys.length := by rw [hvl]; exact hi
            obtain ⟨⟨rn, rg⟩, hr1, T₈, k₈, ta, tb, hv₈, hm₈⟩ := hq1.get (i := i) (v := ys[i]) (List.getElem?_eq_getElem hiy)
            have hT8 : (T₈, tupOf #[.int (rn : Int) ta, .int (rg : Int) tb] k₈) ∈ nwc := hu4 _ (hB _ (List.mem_cons_of_mem _ hm₈))
            have hrm := hrl _ (List.mem_of_getElem? hr1)
            have hna₃ := hu4 _ hna₂
            refine Hold.out (item_at (vs := ys) (v := .ref T₈) (led_list N₈ (List.mem_cons_of_mem _ (hu4 _ hD4))) (Int.natCast_nonneg i) (by omega) (by rw [Int.toNat_natCast, List.getElem?_eq_getElem hiy, hv₈]) ?_)
            k_steps
            · have hlk := lack_lt _ hrm.1 _ Iv.lt
              rw [lack_is _ hrm.1 _ Iv.lt]
              have hl0 : lack rn R ≠ 0 := by
                intro e
                have h1 : Builtin.bitAnd (rn : Int) (Builtin.bitNot (R : Int)) ≠ 0 := by assumption
                rw [lack_is _ hrm.1 _ Iv.lt, e] at h1
                exact h1 rfl
              generalize hlz : lack rn R = z at hlk hl0 ⊢
              have htl := tx_len (sh := sh) (by omega) hlk
              k_steps
              rename Fr _ _ _ _ => F₂₃
              rename News _ _ _ _ => N₂₃
              refine Hold.out (told_spec _ z _ na nk nl hlk hNm _ _ _ _ _ _ _ _ _ _ _ _ _ _ _ _ _ _ _ _ _ (by k_asm) F₂₃ (by k_asm) N₂₃ (by k_asm) (by exact rfl) (by k_room) (by k_units) (List.mem_cons_of_mem _ hna₃) ?_)
              intro r8 tl8 h8 tk8 F8 N8 l8 e8
              obtain ⟨e81, t8, e82⟩ := e8
              subst e81; subst e82
              rw [List.nil_append] at N8
              rw [e83, tx_told (by omega) hlk]
              clear F₂₃ N₂₃
              k_steps
              refine Hold.out (KSpl.split1 (by k_asm) (by k_asm) (by decide) ?_ (by rw [sizeLine_eq]; omega))
              intro D pl h₁ k₁ e₁ a₁ F₁ N₁ l₁
              rw [tx_split (by omega) hlk] at e₁
              obtain ⟨fr, hfr⟩ := ws_head (sh := sh) hlk hl0
              rw [hfr] at e₁
              obtain ⟨_, _, ksplR, ksplE⟩ := KSpl.cons_of e₁
              subst ksplR
              simp only [strValues, List.map_cons] at N₁
              have hrm1 : rn < 32 := hrm.1
              have hrm2 : rg < 32 := hrm.2
              have hi11 : i < 11 := Nat.lt_of_lt_of_le hi hrl11
              k_steps
              rename Fr _ _ _ _ => F₂₃
              rename News _ _ _ _ => N₂₃
              refine Hold.out (told_spec _ rn _ na nk nl hrm1 hNm _ _ _ _ _ _ _ _ _ _ _ _ _ _ _ _ _ _ _ _ _ (by k_asm) F₂₃ (by k_asm) N₂₃ (by k_asm) (by exact rfl) (by k_room) (by k_units) (List.mem_cons_of_mem _ (List.mem_cons_of_mem _ hna₃)) ?_)
              intro r8 tl8 h8 tk8 F8 N8 l8 e8
              obtain ⟨e81, t8, e82⟩ := e8
              subst e81; subst e82
              rw [List.nil_append] at N8
              rw [e83, tx_told (by omega) hrm1]
              clear F₂₃ N₂₃
              k_steps
              rename Fr _ _ _ _ => F₂₃
              rename News _ _ _ _ => N₂₃
              refine Hold.out (told_spec _ rg _ na nk nl hrm2 hNm _ _ _ _ _ _ _ _ _ _ _ _ _ _ _ _ _ _ _ _ _ (by k_asm) F₂₃ (by k_asm) N₂₃ (by k_asm) (by exact rfl) (by k_room) (by k_units) (List.mem_cons_of_mem _ (List.mem_cons_of_mem _ hna₃)) ?_)
              intro r8 tl8 h8 tk8 F8 N8 l8 e8
              obtain ⟨e81, t8, e82⟩ := e8
              subst e81; subst e82
              rw [List.nil_append] at N8
              rw [e83, tx_told (by omega) hrm2]
              clear F₂₃ N₂₃
              k_steps
              rename Fr _ _ _ _ => F₂₃
              rename News _ _ _ _ => N₂₃
              refine Hold.out (text_spec _ (numOf i) (txOf sh rn) (txOf sh rg) _ _ _ (Nat.le_trans (num_facts i hi11).2.1 (by decide)) (Nat.le_trans (tx_len (by omega) hrm1).2 (by decide)) (Nat.le_trans (tx_len (by omega) hrm2).2 (by decide)) _ _ _ _ _ _ _ _ _ _ _ _ _ _ _ _ _ _ _ _ _ (by k_asm) F₂₃ (by k_asm) N₂₃ (by k_asm) (by exact rfl) (by k_room) (by k_units) trivial ?_)
              intro r8 tl8 h8 tk8 F8 N8 l8 e8
              obtain ⟨e81, t8, e82⟩ := e8
              subst e81; subst e82
              rw [List.nil_append] at N8
              clear F₂₃ N₂₃
              k_steps
              rename Fr _ _ _ _ => F₉
              rename News _ _ _ _ => N₉
              rename_i a₇ _ l₇
              have hnd : nd rl i = rn := by
                unfold nd
                rw [List.getD_eq_getElem?_getD, hr1]; rfl
              have hgv : gv rl i = rg := by
                unfold gv
                rw [List.getD_eq_getElem?_getD, hr1]; rfl
              have hkey : entOf rl sh (low (lack (nd rl i) R), i) = (wd (sh + low z), lawText (numOf i) (txOf sh rn) (txOf sh rg)) := by
                unfold entOf
                rw [hnd, hgv, hlz]
              have hl0' : lack (nd rl i) R ≠ 0 := by rw [hnd, hlz]; exact hl0
              have hal : a₇ ≠ l₆ := Nat.ne_of_gt (allLt_mem l₇.2.2 _ hu1)
              have hl6 := off _ hu1
              have hdl : ds.length = (dueE rl sh R i).length := by have := congrArg List.length hu3; simpa using this
              have hdl2 : ds.length ≤ i := by
                rw [hdl]; unfold dueE
                rw [List.length_map]
                exact Nat.le_trans (List.length_filter_le _ _) (by rw [List.length_range]; exact Nat.le_refl _)
              obtain ⟨E₇, hE1, hE2, N₉⟩ : ∃ E : Ent, E.a = a₇ ∧ prOf E = entOf rl sh (low (lack (nd rl i) R), i) ∧ News _ _ _ ((a₇, E.obj) :: _ :: (I, oI) :: nwc) := ⟨⟨a₇, wd (sh + low z), _, lawText (numOf i) (txOf sh rn) (txOf sh rg), _, 0⟩, rfl, hkey.symm, N₉⟩
              refine Hold.out ?_
              refine append_led (l := l₆) (its := (refsOf ds).toArray) (k := dk) F₉ N₉ (List.mem_cons_of_mem _ (List.mem_cons_of_mem _ (List.mem_cons_of_mem _ hu1))) (by simp; omega) ?_
              intro h6 F6 N6
              k_steps
              have inF : ∀ p ∈ nwc, p.1 ≠ l₆ → p ∈ nwc.filter (fun p => p.1 ≠ l₆) := fun p hp h => List.mem_filter.mpr ⟨hp, by simpa using h⟩
              refine TurnPost.next (nw' := (l₆, listOf ((refsOf ds).toArray.push (.ref a₇)) (dk + 1)) :: (a₇, E₇.obj) :: nwc.filter (fun p => p.1 ≠ l₆)) F6 (fun p hp => ?_) (fun p hp => ?_) trivial ⟨⟨(by (repeat (refine (if_neg (by decide)).trans ?_)); first | assumption | exact if_pos rfl), (by (repeat (refine (if_neg (by decide)).trans ?_)); first | assumption | exact if_pos rfl), (by (repeat (refine (if_neg (by decide)).trans ?_)); first | assumption | exact if_pos rfl), (by (repeat (refine (if_neg (by decide)).trans ?_)); first | assumption | exact if_pos rfl), ⟨tq, (by (repeat (refine (if_neg (by decide)).trans ?_)); first | assumption | exact if_pos rfl)⟩, ⟨tl, (by (repeat (refine (if_neg (by decide)).trans ?_)); first | assumption | exact if_pos rfl)⟩⟩, dk + 1, ds ++ [E₇], ?_, ?_, ?_, ?_⟩
              · rcases List.mem_cons.mp hp with rfl | hp
                · exact N6 _ (List.mem_cons_of_mem _ (List.mem_filter.mpr ⟨List.mem_cons_of_mem _ (List.mem_cons_of_mem _ List.mem_cons_self), by simpa using hl6.symm⟩))
                · rcases List.mem_cons.mp hp with rfl | hp
                  · exact N6 _ List.mem_cons_self
                  · rcases List.mem_cons.mp hp with rfl | hp
                    · exact N6 _ (List.mem_cons_of_mem _ (List.mem_filter.mpr ⟨List.mem_cons_self, by simpa using hal⟩))
                    · obtain ⟨q1, q2⟩ := List.mem_filter.mp hp
                      exact N6 _ (List.mem_cons_of_mem _ (List.mem_filter.mpr ⟨List.mem_cons_of_mem _ (List.mem_cons_of_mem _ (List.mem_cons_of_mem _ q1)), q2⟩))
              · rcases List.mem_cons.mp hp with rfl | hp
                · exact hl6
                · rcases List.mem_cons.mp hp with rfl | hp
                  · exact Nat.ne_of_gt l₇.2.1
                  · exact off _ (List.mem_filter.mp hp).1
              · rw [show refsOf (ds ++ [E₇]) = refsOf ds ++ [.ref a₇] by simp [hE1]]
                simp
              · intro e he
                rcases List.mem_append.mp he with he | he
                · exact List.mem_cons_of_mem _ (List.mem_cons_of_mem _ (inF _ (hu2 e he) (led_ne N₇ (List.mem_cons_of_mem _ (hu2 e he)) (List.mem_cons_of_mem _ hu1) (by show (Value.type "tuple") ≠ Value.type "list"; decide))))
                · rw [List.mem_singleton.mp he, hE1]
                  exact List.mem_cons_of_mem _ List.mem_cons_self
              · rw [List.map_append, hu3, due_yes hl0', List.map_cons, List.map_nil, hE2]
              · intro p hp
                exact List.mem_cons_of_mem _ (List.mem_cons_of_mem _ (inF _ (hu4 p hp) (Nat.ne_of_lt (hyn₂ p hp))))
            · have hl0 : lack rn R = 0 := by
                have h1 : Builtin.bitAnd (rn : Int) (Builtin.bitNot (R : Int)) = 0 := by assumption
                rw [lack_is _ hrm.1 _ Iv.lt] at h1
                exact_mod_cast h1
              have hnd : nd rl i = rn := by
                unfold nd
                rw [List.getD_eq_getElem?_getD, hr1]; rfl
              rename Fr _ _ _ _ => F₉
              rename News _ _ _ _ => N₉
              exact TurnPost.next (nw' := nwc) F₉ (fun p hp => N₉ p hp) off trivial ⟨⟨(by (repeat (refine (if_neg (by decide)).trans ?_)); first | assumption | exact if_pos rfl), (by (repeat (refine (if_neg (by decide)).trans ?_)); first | assumption | exact if_pos rfl), (by (repeat (refine (if_neg (by decide)).trans ?_)); first | assumption | exact if_pos rfl), (by (repeat (refine (if_neg (by decide)).trans ?_)); first | assumption | exact if_pos rfl), ⟨tq, (by (repeat (refine (if_neg (by decide)).trans ?_)); first | assumption | exact if_pos rfl)⟩, ⟨tl, (by (repeat (refine (if_neg (by decide)).trans ?_)); first | assumption | exact if_pos rfl)⟩⟩, dk, ds, hu1, hu2, hu3.trans (due_no (by rw [hnd]; exact hl0)).symm, hu4⟩
          · rintro m₁ nwc h tk E' ⟨⟨d1, d2, d3, d4, ⟨tq, d5⟩, ⟨tl, d6⟩⟩, dk, ds, hu1, hu2, hu3, hu4⟩ F₇ N₇
            have whF : FinMark := .intro
            k_steps
            refine Hold.out ?_
            with_reducible refine BoolOp_and ?_
            k_steps
            refine Hold.out ?_
            first | rw [show ((R : Int) == (R : Int)) = true from beq_self_eq_true _] | rw [beq_self_eq_true]
            refine wpAny_truthy_bool ?_
            rw [if_pos rfl]
            rename FinMark => whF
            clear whF
            with_reducible refine BoolOp_one ?_
            have hy1 := hu4 _ hT.hd.inst
            have hy2 := hu4 _ hT.hd.dict
            have hy3 := hu4 _ hT.hd.list
            k_steps
            have hTtl := inv_len Iv
            have hel : es.length = Tt.length := by have := congrArg List.length hes; simpa using this
            have hdl : ds.length = Tt.length := by have := congrArg List.length (hu3.trans due_all); rw [List.length_map, List.length_map] at this; rw [this, hpm.length_eq]
            have hel11 : es.length ≤ 11 := by simp at hTtl; omega
            have hdl11 : ds.length ≤ 11 := by omega
            have hT₃ := hT.mono fun p hp => hu4 p hp
            have hRlt := Iv.lt
            have hTt : ∀ q ∈ Tt, q.1 < 5 ∧ q.2 < rl.length := fun q hq => ⟨(Iv.tab q hq).1, Iv.place q.2 (List.mem_append_right _ (List.mem_map_of_mem hq))⟩
            have hTn : (Tt.map (·.2)).Nodup := by have := Iv.nodup; simpa using this
            have hds : (ds.map fun e => (e.n, e.x)) = (dueT rl R).map (entOf rl sh) := hu3.trans due_all
            have hep : (es.map prOf).Perm (ds.map prOf) := by
              rw [show es.map prOf = Tt.map (entOf rl sh) from hes, show ds.map prOf = (dueT rl R).map (entOf rl sh) from hds]
              exact hpm.map _
            have hen := ents_nodup (by omega) hrl hrl11 hTt hTn hes
            have hdn := ents_nodup (by omega) hrl hrl11 (due_dueT hrl hRlt) due_nodup hds
            have hec := ents_clean (by omega) hrl hrl11 hTt hes
            have hdc := ents_clean (by omega) hrl hrl11 (due_dueT hrl hRlt) hds
            rename Fr _ _ _ _ => F₃₀
            rename News _ _ _ _ => N₃₀
            refine Hold.out (wpAny_call (items_spec w₉ hx hd₀ hl₀ ht₀ (refsOf es) k' (by simp; omega) _ _ _ _ _ _ _ _ _ _ _ _ _ _ _ _ _ _ _ _ _ (by k_asm) F₃₀ (by k_asm) N₃₀ (by k_asm) (by exact rfl) (by k_room) (by k_units) hT₃.hd ?_))
            intro r8 nw9 h8 tk8 F8 N8 e8
            obtain ⟨a6, e81, hlt6, e82⟩ := e8
            subst e81; subst e82
            dsimp only
            clear F₃₀ N₃₀
            k_steps
            refine Hold.out (sorted_pairs F8 N8 List.mem_cons_self (fun e he => List.mem_cons_of_mem _ (hT₃.es.mem e he)) (by omega) hen ?_)
            intro D₁ c₁ h₁ es₁ F₁ N₁ pm₁ so₁
            clear F8 N8
            k_steps
            rename Fr _ _ _ _ => F₃₁
            rename News _ _ _ _ => N₃₁
            refine Hold.out (sorted_pairs F₃₁ N₃₁ (by k_mem) (fun e he => List.mem_cons_of_mem _ (List.mem_cons_of_mem _ (hu2 e he))) (by omega) hdn ?_)
            intro D₂ c₂ h₂ ds₂ F₂ N₂ pm₂ so₂
            clear F₃₁ N₃₁
            k_steps
            refine Hold.out ?_
            have ra := reads_tab (led_list N₂ (List.mem_cons_of_mem _ List.mem_cons_self)) fun e he => (N₂ _ (List.mem_cons_of_mem _ (List.mem_cons_of_mem _ (List.mem_cons_of_mem _ (hT₃.es.mem e (pm₁.mem_iff.mp he)))))).1
            have rb := reads_tab (led_list N₂ List.mem_cons_self) fun e he => (N₂ _ (List.mem_cons_of_mem _ (List.mem_cons_of_mem _ (List.mem_cons_of_mem _ (hu2 e (pm₂.mem_iff.mp he)))))).1
            have sa := shaped_tab fun e he => hec e (pm₁.mem_iff.mp he)
            have sb := shaped_tab fun e he => hdc e (pm₂.mem_iff.mp he)
            refine eq_dataH ra rb sa sb (by k_units) ?_
            rw [both_sorted hep pm₁ pm₂ so₁ so₂, PySem.SeqAt.eqv_refl _ (PySem.SeqAt.canLay_of_shaped sb)]
            clear ra rb sa sb
            dsimp only
            k_steps
        | false =>
          have hlen : rs.length = Ws.length := by have := congrArg List.length hw3; simpa using this
          have hlp : 0 < Ws.length := by
            rw [← hlen]
            cases rs with
            | nil => cases hrs
            | cons _ _ => simp
          have hW11 : Ws.length ≤ 11 := by
            have h1 : Ws.Nodup := (List.nodup_append.mp Iv.nodup).1
            exact Nat.le_trans (nodup_len h1 hWn) hrl11
          clear hrd
          have whM : WhMark := .intro
          k_steps
          rename News _ _ _ _ => N₁₁
          have hrl₀ : ∀ r ∈ rs, r.a ≠ hl₀ := fun r hr => led_rule N₁₁ (List.mem_cons_of_mem _ (hw2 r hr)) (List.mem_cons_of_mem _ hT.hd.list)
          have hL := led_list N₁₁ (List.mem_cons_of_mem _ hw1)
          refine Hold.out ?_
          have hsz : (refsR rs).toArray.size = Ws.length := by simp [hlen]
          refine' PySem.Calls.call_len_list (items := (refsR rs).toArray) ?zhl9 ?zhf9 ?_
          case zhl9 => exact hL
          case zhf9 => rw [hsz]; omega
          rw [hsz]
          k_steps
          rename Fr _ _ _ _ => F₁₂
          rename News _ _ _ _ => N₁₂
          rw [fmod_nat way hlp] at F₁₂
          rw [fmod_nat way hlp]
          have htl : way % Ws.length < Ws.length := Nat.mod_lt _ hlp
          generalize way % Ws.length = t at F₁₂ htl ⊢
          have htr : t < rs.length := by omega
          have hW1 : Ws[t]? = some Ws[t] := List.getElem?_eq_getElem htl
          have hkr : (rs[t]).key = keyOf rl sh Ws[t] := by
            have h1 : (rs.map Rul.key)[t]? = (Ws.map (keyOf rl sh))[t]? := by rw [hw3]
            simpa [List.getElem?_map, htr, htl] using h1
          have hwr := hw2 rs[t] (List.getElem_mem htr)
          generalize hr₉ : rs[t] = r₉ at hkr hwr
          replace hwr : (r₉.a, listOf #[.str r₉.p r₉.tp, .str r₉.n r₉.tn, .str r₉.g r₉.tg] r₉.k) ∈ nw₂ := hwr
          refine Hold.out (item_at (vs := refsR rs) (v := .ref r₉.a) (led_list N₁₂ (List.mem_cons_of_mem _ hw1)) (Int.natCast_nonneg t) (by omega) (by rw [Int.toNat_natCast, List.getElem?_map, List.getElem?_eq_getElem htr, hr₉]; rfl) ?_)
          k_steps
          rename Fr _ _ _ _ => F₁₃
          rename News _ _ _ _ => N₁₃
          refine Hold.out ?_
          k_dflt (refine' slice_tmp (zs := refsR (rs.take t)) ?sF ?sN ?sl ?sp ?sq ?se ?_ ?ss ?sz; (case sF => exact F₁₃); (case sN => exact N₁₃); (case sl => exact led_list N₁₃ (List.mem_cons_of_mem _ hw1)); (case sp => exact IsPart.none); (case sq => exact IsPart.int _ _); (case se => (rw [slicePick_upto _ _ (by rw [hsz]; omega)]; simp [List.map_take])); (case ss => with_unfolding_all rfl); (case sz => (rw [hsz, sizeLine_eq]; omega)))
          intro D₁₃ h13 F₁₄ N₁₄ l₁₃
          clear F₁₃ N₁₃
          k_steps
          rename Fr _ _ _ _ => F₁₃
          rename News _ _ _ _ => N₁₃
          refine Hold.out ?_
          k_dflt (refine' slice_tmp (zs := refsR (rs.drop (t + 1))) ?sF ?sN ?sl ?sp ?sq ?se ?_ ?ss ?sz; (case sF => exact F₁₃); (case sN => exact N₁₃); (case sl => exact led_list N₁₃ (List.mem_cons_of_mem _ (List.mem_cons_of_mem _ hw1))); (case sp => exact IsPart.int _ _); (case sq => exact IsPart.none); (case se => (rw [show ((t : Int) + 1) = ((t + 1 : Nat) : Int) from rfl, slicePick_from _ _ (by rw [hsz]; omega)]; simp [List.map_drop])); (case ss => with_unfolding_all rfl); (case sz => (rw [hsz, sizeLine_eq]; omega)))
          intro D₁₄ h14 F₁₅ N₁₅ l₁₄
          clear F₁₃ N₁₃
          k_steps
          refine Hold.out ?_
          dsimp only
          refine' P.add_list (items := (refsR (rs.take t)).toArray) (items2 := (refsR (rs.drop (t + 1))).toArray) ?zhl9 ?zhb9 ?_ ?zhs9
          case zhl9 => exact (N₁₅ _ (List.mem_cons_of_mem _ List.mem_cons_self)).1
          case zhb9 => exact (N₁₅ _ List.mem_cons_self).1
          case zhs9 => simp only [List.size_toArray, List.length_map, List.length_take, List.length_drop, sizeLine_eq]; omega
          have hjoin : (refsR (rs.take t)).toArray ++ (refsR (rs.drop (t + 1))).toArray = (refsR (rs.take t ++ rs.drop (t + 1))).toArray := by simp
          rw [hjoin]
          have N₁₆ := N₁₅.push F₁₅ (listOf (refsR (rs.take t ++ rs.drop (t + 1))).toArray 0)
          have F₁₆ := F₁₅.push (listOf (refsR (rs.take t ++ rs.drop (t + 1))).toArray 0)
          have hfr₁₆ : ∀ p ∈ nw₂, p.1 < h14.objs.size := fun p hp => Heap.lt_size (N₁₅ p (List.mem_cons_of_mem _ (List.mem_cons_of_mem _ (List.mem_cons_of_mem _ hp)))).1
          have N₁₇ : News _ _ _ ((h14.objs.size, listOf (refsR (rs.take t ++ rs.drop (t + 1))).toArray 0) :: nw₂) := fun p hp => by
            rcases List.mem_cons.mp hp with rfl | hp
            · exact N₁₆ _ List.mem_cons_self
            · exact N₁₆ _ (List.mem_cons_of_mem _ (List.mem_cons_of_mem _ (List.mem_cons_of_mem _ (List.mem_cons_of_mem _ hp))))
          clear N₁₆ N₁₅ F₁₅
          generalize hw9 : h14.objs.size = w₁₆ at N₁₇ hfr₁₆ ⊢
          have hnl5 : nl.length = 5 := by
            have := congrArg List.length e83
            rw [List.length_map, List.length_take, List.length_drop, show words15.length = 15 from rfl] at this
            omega
          have hWt : (32 - R) * 64 + (Ws.take t ++ Ws.drop (t + 1)).length < (32 - R) * 64 + Ws.length := by
            rw [List.length_append, List.length_take, List.length_drop]; omega
          have hsubr : ∀ r ∈ rs.take t ++ rs.drop (t + 1), r ∈ rs := fun r hr => by
            rcases List.mem_append.mp hr with hr | hr
            · exact List.mem_of_mem_take hr
            · exact List.mem_of_mem_drop hr
          have hkt : (rs.take t ++ rs.drop (t + 1)).map Rul.key = (Ws.take t ++ Ws.drop (t + 1)).map (keyOf rl sh) := by
            rw [List.map_append, List.map_append, List.map_take, List.map_drop, hw3, List.map_take, List.map_drop]
          have hBl : ∀ p ∈ (D₄, LCg.lst ys) :: nw, p.1 ≠ hl₀ := fun p hp => Nat.ne_of_lt (l8₀ p (hw4₀ p hp) _ List.mem_cons_self)
          have hna₂ : (na, listOf (strValues nl).toArray nk) ∈ nw₂ := hB _ (List.mem_cons_of_mem _ hna)
          have hkp : r₉.p = numOf Ws[t] := congrArg (·.1) hkr
          have hkn : r₉.n = txOf sh (nd rl Ws[t]) := congrArg (·.2.1) hkr
          have hkg : r₉.g = txOf sh (gv rl Ws[t]) := congrArg (·.2.2) hkr
          have hb₉ := nd_lt hrl Ws[t]
          have hf1 : ((bitF (nl.map (·.1)) (Txt.split r₉.n (Str.ofString ", ")) 5).map fun (k : Nat) => (2 : Int) ^ k).sum = (nd rl Ws[t] : Int) := by
            rw [e83, hkn]; exact tx_flags (by omega) hb₉.1
          have hf2 : ((bitF (nl.map (·.1)) (Txt.split r₉.g (Str.ofString ", ")) 5).map fun (k : Nat) => (2 : Int) ^ k).sum = (gv rl Ws[t] : Int) := by
            rw [e83, hkg]; exact tx_flags (by omega) hb₉.2
          k_steps
          rename Fr _ _ _ _ => F₂₀
          rename News _ _ _ _ => N₂₀
          refine Hold.out (flags_spec _ r₉.n _ na nk nl (by rw [hkn]; exact Nat.le_trans (tx_len (by omega) hb₉.1).2 (by decide)) hnl5 _ _ _ _ _ _ _ _ _ _ _ _ _ _ _ _ _ _ _ _ _ (by k_asm) F₂₀ (by k_asm) N₂₀ (by k_asm) (by exact rfl) (by k_room) (by k_units) (List.mem_cons_of_mem _ hna₂) ?_)
          intro r8 tl8 h8 tk8 F8 N8 l8 e8
          obtain ⟨e81, t8, e82⟩ := e8
          subst e81; subst e82
          rw [List.nil_append] at N8
          rw [hf1]
          clear F₂₀ N₂₀
          k_steps
          rename Fr _ _ _ _ => F₂₀
          rename News _ _ _ _ => N₂₀
          refine Hold.out (flags_spec _ r₉.g _ na nk nl (by rw [hkg]; exact Nat.le_trans (tx_len (by omega) hb₉.2).2 (by decide)) hnl5 _ _ _ _ _ _ _ _ _ _ _ _ _ _ _ _ _ _ _ _ _ (by k_asm) F₂₀ (by k_asm) N₂₀ (by k_asm) (by exact rfl) (by k_room) (by k_units) (List.mem_cons_of_mem _ hna₂) ?_)
          intro r8 tl8 h8 tk8 F8 N8 l8 e8
          obtain ⟨e81, t8, e82⟩ := e8
          subst e81; subst e82
          rw [List.nil_append] at N8
          rw [hf2]
          clear F₂₀ N₂₀
          k_steps
          · have hlk := lack_lt _ hb₉.1 _ Iv.lt
            rw [lack_is _ hb₉.1 _ Iv.lt]
            have hl0 : lack (nd rl Ws[t]) R ≠ 0 := by
              intro e
              have h1 : Builtin.bitAnd (nd rl Ws[t] : Int) (Builtin.bitNot (R : Int)) ≠ 0 := by assumption
              rw [lack_is _ hb₉.1 _ Iv.lt, e] at h1
              exact h1 rfl
            generalize hlz : lack (nd rl Ws[t]) R = z at hlk hl0 ⊢
            k_steps
            rename Fr _ _ _ _ => F₂₀
            rename News _ _ _ _ => N₂₀
            rw [mulpow z sh]
            obtain ⟨fr, hfr⟩ := ws_head (sh := sh) hlk hl0
            have hlow := (low_spec z hlk hl0).1
            have hwd := f_wd (sh + low z) (by omega)
            have hTl := inv_len Iv
            have hel : es.length = Tt.length := by have := congrArg List.length hes; simpa using this
            have hpn : Ws[t] < 11 := Nat.lt_of_lt_of_le (hWn _ (List.getElem_mem htl)) hrl11
            refine Hold.out (wpAny_call (lay_spec w₉ hx hd₀ hl₀ r₉.a ht₀ es k' r₉.k r₉.p r₉.n r₉.g (wd (sh + low z)) r₉.tp r₉.tn r₉.tg _ (z * 2 ^ sh) (sh_lt hlk hsh10) (Nat.le_trans (tx_len (sh := sh) (by omega) hlk).2 (by decide)) fr (by rw [← hfr]; exact tx_split (by omega) hlk) (by omega)
              (by rw [hkp]; exact Nat.le_trans (num_facts _ hpn).2.1 (by decide)) (by omega) (by rw [hkn]; exact Nat.le_trans (tx_len (by omega) hb₉.1).2 (by decide)) (by rw [hkg]; exact Nat.le_trans (tx_len (by omega) hb₉.2).2 (by decide)) (by rw [hkn]; exact (tx_len (by omega) hb₉.1).1) (by rw [hkg]; exact (tx_len (by omega) hb₉.2).1)
              (wd_clean (by omega)) (by rw [hkp]; exact num_clean hpn) (by rw [hkn]; exact tx_clean (by omega) hb₉.1) (by rw [hkg]; exact tx_clean (by omega) hb₉.2) (by rw [hkn]; exact (tx_free (by omega) hb₉.1).1) (by rw [hkn]; exact (tx_free (by omega) hb₉.1).2) (by rw [hkg]; exact (tx_free (by omega) hb₉.2).1) (by rw [hkg]; exact (tx_free (by omega) hb₉.2).2)
              _ _ _ _ _ _ _ _ _ _ _ _ _ _ _ _ _ _ _ _ _ (by k_asm) F₂₀ (by k_asm) N₂₀ (by k_asm) (by exact rfl) (by k_room) (by k_units) ⟨hT.mono fun p hp => List.mem_cons_of_mem _ hp, List.mem_cons_of_mem _ hwr⟩ ?_))
            intro r8 nw₃ h8 tk8 F8 N8 e8
            obtain ⟨e₉, k₂, he1, he2, hT', hK, e82⟩ := e8
            subst e82
            clear F₂₀ N₂₀
            k_steps
            rename Fr _ _ _ _ => F₂₁
            rename News _ _ _ _ => N₂₁
            have hwl : w₁₆ ≠ hl₀ := Nat.ne_of_gt (hfr₁₆ _ hT.hd.list)
            refine ⟨_, _, _, nw₃, (32 - R) * 64 + (Ws.take t ++ Ws.drop (t + 1)).length, rfl, F₂₁, N₂₁, hWt, Ws.take t ++ Ws.drop (t + 1), Tt ++ [(low z, Ws[t])], R, w₁₆, 0, rs.take t ++ rs.drop (t + 1), es ++ [e₉], k₂, tr₉, tw, ts, rfl, hlz ▸ inv_lay hrl Iv hW1 (by rw [hlz]; exact hl0), (by (repeat (refine (if_neg (by decide)).trans ?_)); first | assumption | exact if_pos rfl), (by (repeat (refine (if_neg (by decide)).trans ?_)); first | assumption | exact if_pos rfl), (by (repeat (refine (if_neg (by decide)).trans ?_)); first | assumption | exact if_pos rfl), (by (repeat (refine (if_neg (by decide)).trans ?_)); first | assumption | exact if_pos rfl), (by (repeat (refine (if_neg (by decide)).trans ?_)); first | assumption | exact if_pos rfl), (by (repeat (refine (if_neg (by decide)).trans ?_)); first | assumption | exact if_pos rfl), (by (repeat (refine (if_neg (by decide)).trans ?_)); first | assumption | exact if_pos rfl), hK _ List.mem_cons_self hwl, (fun r hr => hK _ (List.mem_cons_of_mem _ (hw2 r (hsubr r hr))) (hrl₀ r (hsubr r hr))), hkt, hT', ?_, fun p hp => hK _ (List.mem_cons_of_mem _ (hB p hp)) (hBl p hp)⟩
            rw [List.map_append, List.map_append, hes, List.map_cons, List.map_nil, List.map_cons, List.map_nil, he1, he2, hkp, hkn, hkg]; rfl
          · have hlk := lack_lt _ hb₉.2 _ Iv.lt
            rw [lack_is _ hb₉.2 _ Iv.lt]
            have hl0 : lack (nd rl Ws[t]) R = 0 := by
              have h1 : Builtin.bitAnd (nd rl Ws[t] : Int) (Builtin.bitNot (R : Int)) = 0 := by assumption
              rw [lack_is _ hb₉.1 _ Iv.lt] at h1
              exact_mod_cast h1
            have hg0 : lack (gv rl Ws[t]) R ≠ 0 := by
              intro e
              have h1 : Builtin.bitAnd (gv rl Ws[t] : Int) (Builtin.bitNot (R : Int)) ≠ 0 := by assumption
              rw [lack_is _ hb₉.2 _ Iv.lt, e] at h1
              exact h1 rfl
            generalize hlz : lack (gv rl Ws[t]) R = z at hlk hg0 ⊢
            k_steps
            rename Fr _ _ _ _ => F₂₀
            rename News _ _ _ _ => N₂₀
            rw [mulpow z sh]
            have hTl := inv_len Iv
            have hel : es.length = Tt.length := by have := congrArg List.length hes; simpa using this
            have hTt : ∀ q ∈ Tt, q.1 < 5 ∧ q.2 < rl.length := fun q hq => ⟨(Iv.tab q hq).1, Iv.place q.2 (List.mem_append_right _ (List.mem_map_of_mem hq))⟩
            refine Hold.out (wpAny_call (take_spec w₉ hx hd₀ hl₀ ht₀ _ es k' (z * 2 ^ sh) (sh_lt hlk hsh10) (Nat.le_trans (tx_len (sh := sh) (by omega) hlk).2 (by decide)) (wsOf sh z) (tx_split (by omega) hlk) (ws_len sh z) (fun x hx => ws_word (by omega) hg0 hx) (ws_nodup (by omega)) (ents_word (by omega) hrl hrl11 hTt hes) (ents_ok (by omega) hrl hrl11 hTt hes) parse (ents_parse (by omega) hrl hrl11 hTt hes) (by omega)
              _ _ _ _ _ _ _ _ _ _ _ _ _ _ _ _ _ _ _ _ _ (by k_asm) F₂₀ (by k_asm) N₂₀ (by k_asm) (by exact rfl) (by k_room) (by k_units) (hT.mono fun p hp => List.mem_cons_of_mem _ hp) ?_))
            intro r8 nw₃ h8 tk8 F8 N8 e8
            obtain ⟨ai, ki, rs₂, k₂, e82, ht1, ht2, ht3, hT', hK⟩ := e8
            subst e82
            rw [taken_is (by omega) hrl hrl11 hTt hes hg0] at ht3
            have hwl : w₁₆ ≠ hl₀ := Nat.ne_of_gt (hfr₁₆ _ hT.hd.list)
            have hw₃ := hK _ List.mem_cons_self hwl
            clear F₂₀ N₂₀
            have hIt := inv_take hrl Iv hW1 hl0 (by rw [hlz]; exact hg0)
            rw [hlz] at hIt
            have hTl2 := inv_len hIt
            have hgr := or_grow _ Iv.lt _ hb₉.2 (by rw [hlz]; exact hg0)
            rw [hlz] at hgr
            have hor : Builtin.bitOr (R : Int) (Builtin.bitAnd (gv rl Ws[t] : Int) (Builtin.bitNot (R : Int))) = ((R ||| z : Nat) : Int) := by
              rw [lack_is _ hb₉.2 _ Iv.lt, hlz, or_is _ Iv.lt _ hlk]
            have hrs2 : rs₂.length = (takenP Tt z).length := by have := congrArg List.length ht3; simpa using this
            rw [List.length_append] at hTl2
            k_steps
            rename Fr _ _ _ _ => F₂₁
            rename News _ _ _ _ => N₂₁
            refine Hold.out ?_
            dsimp only
            refine' P.add_list (items := (refsR (rs.take t ++ rs.drop (t + 1))).toArray) (items2 := (refsR rs₂).toArray) ?zhl9 ?zhb9 ?_ ?zhs9
            case zhl9 => exact (N₂₁ _ hw₃).1
            case zhb9 => exact (N₂₁ _ ht1).1
            case zhs9 => simp only [List.size_toArray, List.length_map, List.length_append, List.length_take, List.length_drop, sizeLine_eq]; omega
            have hjoin : (refsR (rs.take t ++ rs.drop (t + 1))).toArray ++ (refsR rs₂).toArray = (refsR ((rs.take t ++ rs.drop (t + 1)) ++ rs₂)).toArray := by simp
            rw [hjoin]
            have N₂₂ := N₂₁.push F₂₁ (listOf (refsR ((rs.take t ++ rs.drop (t + 1)) ++ rs₂)).toArray 0)
            have F₂₂ := F₂₁.push (listOf (refsR ((rs.take t ++ rs.drop (t + 1)) ++ rs₂)).toArray 0)
            clear N₂₁ F₂₁
            k_steps
            rename Fr _ _ _ _ => F₂₃
            rename News _ _ _ _ => N₂₃
            refine ⟨_, _, _, _ :: nw₃, (32 - (R ||| z)) * 64 + ((Ws.take t ++ Ws.drop (t + 1)) ++ takenP Tt z).length, rfl, F₂₃, N₂₃, ?_, (Ws.take t ++ Ws.drop (t + 1)) ++ takenP Tt z, leftT Tt z, R ||| z, _, 0, (rs.take t ++ rs.drop (t + 1)) ++ rs₂, leftOf es (wsOf sh z), k₂, _, tw, ts, rfl, hIt, (by (repeat (refine (if_neg (by decide)).trans ?_)); first | assumption | exact if_pos rfl), (by (repeat (refine (if_neg (by decide)).trans ?_)); first | assumption | exact if_pos rfl), (by (repeat (refine (if_neg (by decide)).trans ?_)); first | assumption | exact if_pos rfl), (by (repeat (refine (if_neg (by decide)).trans ?_)); first | assumption | exact if_pos rfl), (by (repeat (refine (if_neg (by decide)).trans ?_)); first | assumption | exact if_pos rfl), (by (repeat (refine (if_neg (by decide)).trans ?_)); first | assumption | exact if_pos rfl), (by (repeat (refine (if_neg (by decide)).trans ?_)); refine (if_pos rfl).trans ?_; exact congrArg (fun q => some (Value.int q _)) hor), List.mem_cons_self, (fun r hr => ?_), ?_, hT'.mono (fun p hp => List.mem_cons_of_mem _ hp), left_is (by omega) hrl hrl11 hTt hes, fun p hp => List.mem_cons_of_mem _ (hK _ (List.mem_cons_of_mem _ (hB p hp)) (hBl p hp))⟩
            · rw [List.length_append]; omega
            · refine List.mem_cons_of_mem _ ?_
              rcases List.mem_append.mp hr with hr | hr
              · exact hK _ (List.mem_cons_of_mem _ (hw2 r (hsubr r hr))) (hrl₀ r (hsubr r hr))
              · exact ht2 r hr
            · rw [List.map_append, hkt, ht3]; exact List.map_append.symm
          · have hl0 : lack (nd rl Ws[t]) R = 0 := by
              have h1 : Builtin.bitAnd (nd rl Ws[t] : Int) (Builtin.bitNot (R : Int)) = 0 := by assumption
              rw [lack_is _ hb₉.1 _ Iv.lt] at h1
              exact_mod_cast h1
            have hg0 : lack (gv rl Ws[t]) R = 0 := by
              have h1 : Builtin.bitAnd (gv rl Ws[t] : Int) (Builtin.bitNot (R : Int)) = 0 := by assumption
              rw [lack_is _ hb₉.2 _ Iv.lt] at h1
              exact_mod_cast h1
            rename Fr _ _ _ _ => F₂₁
            rename News _ _ _ _ => N₂₁
            exact ⟨_, _, _, _ :: nw₂, (32 - R) * 64 + (Ws.take t ++ Ws.drop (t + 1)).length, rfl, F₂₁, N₂₁, hWt, Ws.take t ++ Ws.drop (t + 1), Tt, R, w₁₆, 0, rs.take t ++ rs.drop (t + 1), es, k', tr₉, tw, ts, rfl, inv_skip hrl Iv hW1 hl0 hg0, (by (repeat (refine (if_neg (by decide)).trans ?_)); first | assumption | exact if_pos rfl), (by (repeat (refine (if_neg (by decide)).trans ?_)); first | assumption | exact if_pos rfl), (by (repeat (refine (if_neg (by decide)).trans ?_)); first | assumption | exact if_pos rfl), (by (repeat (refine (if_neg (by decide)).trans ?_)); first | assumption | exact if_pos rfl), (by (repeat (refine (if_neg (by decide)).trans ?_)); first | assumption | exact if_pos rfl), (by (repeat (refine (if_neg (by decide)).trans ?_)); first | assumption | exact if_pos rfl), (by (repeat (refine (if_neg (by decide)).trans ?_)); first | assumption | exact if_pos rfl), List.mem_cons_self, (fun r hr => List.mem_cons_of_mem _ (hw2 r (hsubr r hr))), hkt, hT.mono (fun p hp => List.mem_cons_of_mem _ hp), hes, fun p hp => List.mem_cons_of_mem _ (hB p hp)⟩
end
end
end
end Mine
theorem PySem.Challenge.cw_pm0049_01_holds : PySem.Challenge.rw_pm0049_01.Holds := by
  exact Mine.law_holds

