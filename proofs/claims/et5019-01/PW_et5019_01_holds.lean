import PyProof.Rows.All
import Wide.All
import OpenK.AllK
import Wide.FinOn
import PySem.Challenge.RW_et5019_01
open PySem PySem.W PyProof.Rows
set_option Elab.async false
namespace Mine
/-! The road. 1. The plain law: what the function reads off a row (litB) is what the law reckons, wherever the function does not raise (okB).
2. A contract for each def: _law_next (NextHolds), _law_row (RowHolds), _is_string_literal and _law_due (TextHolds): its answer, and what it leaves of the ledger.
3. The two loops by what stands between their turns (row_loop, law_loop). 4. The law: the walk, with a contract at each call. -/
-- 1. the plain law
abbrev prefs : List Str := [Str.ofString "u", Str.ofString "U", Str.ofString "b", Str.ofString "B", Str.ofString "r", Str.ofString "R"]
abbrev quots : List Str := [Str.ofString "\"", Str.ofString "'"]
abbrev signs : List Str := [Str.ofString "u", Str.ofString "U", Str.ofString "b", Str.ofString "B", Str.ofString "r", Str.ofString "R",
              Str.ofString "f", Str.ofString "F", Str.ofString "\"", Str.ofString "'", Str.ofString "\"",
              Str.ofString "'", Str.ofString "x", Str.ofString " ", Str.ofString "1", Str.ofString "("]
/-- where the function does not raise -/
def okB (r : Str) : Prop := r.length ≠ 0 → prefs.any (fun x => x == Txt.item r 0) = true → 2 ≤ r.length
/-- what both read off a row -/
def litB (r : Str) : Bool := if r.length = 0 then false else if prefs.any (fun x => x == Txt.item r 0) then quots.any (fun x => x == Txt.item r 1) else quots.any (fun x => x == Txt.item r 0)

theorem item_one {r : Str} (h : r.length = 1) : Txt.item r 0 = r := by
  obtain ⟨a⟩ := r
  have h' : a.size = 1 := h
  obtain ⟨l⟩ := a
  match l, h' with
  | [c], _ => rfl
theorem ok_one {r : Str} (h : (r.length : Int) = 1) (hp : prefs.any (fun x => x == r) = false) : okB r := by
  intro _ h2
  rw [item_one (by omega), hp] at h2
  cases h2
theorem ok_other {r : Str} (h : (r.length : Int) ≠ 1) : okB r := fun h0 _ => by omega
theorem ok_long {r x : Str} (h : (r.length : Int) = 1) (hx : x.length = 1) : okB (r ++ x) := fun _ _ => by rw [Str.length_append]; omega
theorem sign_len (n : Nat) : (signs.getD n Str.empty).length ≤ 1 := by
  rcases Nat.lt_or_ge n 16 with h | h
  · have all : ∀ n < 16, (signs.getD n Str.empty).length ≤ 1 := by decide
    exact all n h
  · have e : signs.getD n Str.empty = Str.empty := by
      rw [List.getD_eq_getElem?_getD, List.getElem?_eq_none (by exact h)]
      rfl
    rw [e]
    decide
theorem row_len {r : Str} {n q : Nat} (h : r.length ≤ q) : (r ++ signs.getD n Str.empty).length ≤ q + 1 := by
  have := sign_len n
  rw [Str.length_append]
  omega

-- the function's five ends
theorem quots_any (y : Str) : quots.any (fun x => x == y) = (y == Str.ofString "\"" || y == Str.ofString "'") := by
  simp only [List.any_cons, List.any_nil, Bool.or_false]
  rw [Bool.beq_comm (a := Str.ofString "\""), Bool.beq_comm (a := Str.ofString "'")]
theorem lit_p1 {r : Str} (h0 : (r.length : Int) ≠ 0) (hp : prefs.any (fun x => x == Txt.item r 0) = true) (hq : (Txt.item r 1 == Str.ofString "\"") = true) : (Txt.item r 1 == Str.ofString "\"") = litB r := by
  unfold litB
  rw [if_neg (by omega), if_pos hp, quots_any, hq]; rfl
theorem lit_p2 {r : Str} (h0 : (r.length : Int) ≠ 0) (hp : prefs.any (fun x => x == Txt.item r 0) = true) (hq : (Txt.item r 1 == Str.ofString "\"") = false) : (Txt.item r 1 == Str.ofString "'") = litB r := by
  unfold litB
  rw [if_neg (by omega), if_pos hp, quots_any, hq]; rfl
theorem lit_q1 {r : Str} (h0 : (r.length : Int) ≠ 0) (hp : prefs.any (fun x => x == Txt.item r 0) = false) (hq : (Txt.item r 0 == Str.ofString "\"") = true) : (Txt.item r 0 == Str.ofString "\"") = litB r := by
  unfold litB
  rw [if_neg (by omega), if_neg (by rw [hp]; decide), quots_any, hq]; rfl
theorem lit_q2 {r : Str} (h0 : (r.length : Int) ≠ 0) (hp : prefs.any (fun x => x == Txt.item r 0) = false) (hq : (Txt.item r 0 == Str.ofString "\"") = false) : (Txt.item r 0 == Str.ofString "'") = litB r := by
  unfold litB
  rw [if_neg (by omega), if_neg (by rw [hp]; decide), quots_any, hq]; rfl
theorem lit_e {r : Str} (h0 : (r.length : Int) = 0) : false = litB r := by
  unfold litB
  rw [if_pos (by omega)]
-- the law's four ends
theorem due_e {r : Str} (h : (r == Str.ofString "") = true) : false = litB r := by
  have e : r = Str.ofString "" := eq_of_beq h
  subst e
  rfl
theorem due_q {r : Str} (h0 : 1 ≤ r.length) (hq : quots.any (fun x => x == Txt.item r 0) = true) : true = litB r := by
  have hp : prefs.any (fun x => x == Txt.item r 0) = false := by
    rw [quots_any] at hq
    rcases Bool.or_eq_true_iff.mp hq with h | h <;> (rw [eq_of_beq h]; decide)
  unfold litB
  rw [if_neg (by omega), if_neg (by rw [hp]; decide), hq]
theorem due_p {r : Str} (h0 : 1 ≤ r.length) (hp : prefs.any (fun x => x == Txt.item r 0) = true) : quots.any (fun x => x == Txt.item r 1) = litB r := by
  unfold litB
  rw [if_neg (by omega), if_pos hp]
theorem due_n {r : Str} (h0 : 1 ≤ r.length) (hq : quots.any (fun x => x == Txt.item r 0) = false) (hp : prefs.any (fun x => x == Txt.item r 0) = false) : prefs.any (fun x => x == Txt.item r 0) = litB r := by
  unfold litB
  rw [if_neg (by omega), if_neg (by rw [hp]; decide), hp, hq]
-- 3. the loops
abbrev stObj (D : Addr) (i : Int) (ti : Tok) (j : Int) (tj : Tok) (n1 : Nat) : Obj := W.listOf #[.ref D, .int i ti, .int j tj] n1
theorem row_loop {prog : Program} {w : World} {A : Around} {E : Value → Shared → Prop} {s : Shared} {env : Env} {h₀ : Heap} {x : Str} {body : List Stmt} {Q : Flow → Shared → Prop}
    {ra : Addr} {M : Int} {t₀ u₀ v₀ : Tok} {m₀ : Str → Option Value} {S D : Addr} {i j : Int} {ti tj trow : Tok} {n1 : Nat} {X : Addr × Obj} {tail : List (Addr × Obj)}
    (hh : A.handled = none) (hr : IsRange s.heap ra 0 M 1 t₀ u₀ v₀) (hM0 : 0 ≤ M) (hM : M < 1000) (F : Fr h₀ env.locals s.heap m₀)
    (N : News h₀ env.locals s.heap ((S, stObj D i ti j tj n1) :: X :: tail)) (hrow : m₀ (Str.ofString "row") = some (.str (Str.ofString "") trow))
    (hi : 0 ≤ i) (hj : 0 ≤ j) (hj2 : j < 2147483647)
    (turn : ∀ (i j : Int) (ti tj tr tx : Tok) (r : Str) (k : Int) (q : Nat) (h : Heap) (tk : Nat) (own : List (Addr × Obj)) (Qt : Flow → Shared → Prop),
      (q : Int) < M → OwnOff own (S :: X.1 :: tail.map (·.1)) → 0 ≤ i → 0 ≤ j → j < 2147483647 → r.length ≤ q →
      Fr h₀ env.locals h (fun y => if y = x then some (.int k tx) else if y = Str.ofString "row" then some (.str r tr) else m₀ y) →
      News h₀ env.locals h ((S, stObj D i ti j tj n1) :: X :: (tail ++ own)) →
      (∀ (i' j' : Int) (ti' tj' tr' : Tok) (r' : Str) (h' : Heap) (tk' : Nat) (m' : Str → Option Value), 0 ≤ i' → 0 ≤ j' → j' < 2147483647 → r'.length ≤ q + 1 →
        Fr h₀ env.locals h' m' → m' (Str.ofString "row") = some (.str r' tr') → (∀ z, z ≠ x → z ≠ Str.ofString "row" → m' z = m₀ z) →
        News h₀ env.locals h' ((S, stObj D i' ti' j' tj' n1) :: X :: (tail ++ own)) → Qt .next { s with heap := h', toks := tk' }) →
      wpAny (model prog w) A (execs body env) Qt E { s with heap := h, toks := tk })
    (done : ∀ (i j : Int) (ti tj tr : Tok) (r : Str) (u : Str → Option Value) (h : Heap) (tk : Nat), 0 ≤ i → 0 ≤ j → j < 2147483647 → (r.length : Int) ≤ M →
      Fr h₀ env.locals h (fun y => if y = x then u y else if y = Str.ofString "row" then some (.str r tr) else m₀ y) →
      News h₀ env.locals h ((S, stObj D i ti j tj n1) :: X :: tail) → Q .next { s with heap := h, toks := tk }) (hx : (x == Str.ofString "row") = false) :
    wpAny (model prog w) A (pyIter (.ref ra)) (fun it s₂ => LoopAtV prog w A h₀ env x body Q E it s₂) E s := by
  refine kst_range (σ := Int × Tok × Int × Tok × Str × Tok) (fun c => (S, stObj D c.1 c.2.1 c.2.2.1 c.2.2.2.1 n1) :: X :: tail) (fun c => [(Str.ofString "row", .str c.2.2.2.2.1 c.2.2.2.2.2)])
    (fun c => 0 ≤ c.1 ∧ 0 ≤ c.2.2.1 ∧ c.2.2.1 < 2147483647) [] (fun pre c => c.2.2.2.2.1.length ≤ pre.length) ⟨i, ti, j, tj, Str.ofString "", trow⟩
    hh hr (small_one (by omega) (by omega) (by omega) (by omega)) (rangeSize_nat _ _) F N ⟨hi, hj, hj2⟩ ?_ ?_ ?_ ?_
  · intro p hp
    cases List.mem_singleton.mp hp
    exact hrow
  · show (Str.ofString "").length ≤ 0
    decide
  · intro c pre k tx u h tk own hk hlt hoff hf hP F' N'
    refine turn c.1 c.2.2.1 c.2.1 c.2.2.2.1 c.2.2.2.2.2 tx c.2.2.2.2.1 k pre.length h tk own _ (by omega) hoff hf.1 hf.2.1 hf.2.2 hP ?_ N' ?_
    · have e : (fun y => if y = x then some (Value.int k tx) else kstB (fun z => if ([] : List Str).contains z then u z else m₀ z) [(Str.ofString "row", Value.str c.2.2.2.2.1 c.2.2.2.2.2)] y) = fun y => if y = x then some (Value.int k tx) else if y = Str.ofString "row" then some (Value.str c.2.2.2.2.1 c.2.2.2.2.2) else m₀ y := by
        funext y
        simp [kstB]
      exact e ▸ F'
    · intro i' j' ti' tj' tr' r' h' tk' m' hi' hj' hj2' hl' F'' hrow' hrest N''
      refine kst_end (σ := Int × Tok × Int × Tok × Str × Tok) ⟨i', ti', j', tj', r', tr'⟩ F'' N'' ?_ ?_ rfl ⟨hi', hj', hj2'⟩ ?_ ?_ ?_
      · intro p hp
        simp only [List.mem_cons, List.mem_append] at hp ⊢
        rcases hp with hp | hp | hp <;> simp [hp]
      · intro p hp
        simp [hp]
      · intro p hp
        cases List.mem_singleton.mp hp
        exact hrow'
      · intro z hz hz2 _
        exact hrest z hz (hz2 _ (List.mem_singleton.mpr rfl))
      · simp only [List.length_append, List.length_singleton]
        exact hl'
  · intro c u h tk hf hP F' N'
    refine done c.1 c.2.2.1 c.2.1 c.2.2.2.1 c.2.2.2.2.2 c.2.2.2.2.1 u h tk hf.1 hf.2.1 hf.2.2 ?_ ?_ N'
    · have := hP
      rw [rangeKs_length] at this
      omega
    · have e : (fun y => if y = x then u y else kstB (fun z => if ([] : List Str).contains z then u z else m₀ z) [(Str.ofString "row", Value.str c.2.2.2.2.1 c.2.2.2.2.2)] y) = fun y => if y = x then u y else if y = Str.ofString "row" then some (Value.str c.2.2.2.2.1 c.2.2.2.2.2) else m₀ y := by
        funext y
        simp [kstB]
      exact e ▸ F'
theorem law_loop {prog : Program} {w : World} {A : Around} {E : Value → Shared → Prop} {s : Shared} {env : Env} {h₀ : Heap} {x : Str} {body : List Stmt} {Q : Flow → Shared → Prop}
    {ra : Addr} {M : Int} {t₀ u₀ v₀ : Tok} {m₀ : Str → Option Value} {S D du dt : Addr} {i j : Int} {ti tj : Tok} {n1 : Nat} {X : Addr × Obj}
    (hh : A.handled = none) (hr : IsRange s.heap ra 0 M 1 t₀ u₀ v₀) (hM0 : 0 ≤ M) (hM : M < 1000) (F : Fr h₀ env.locals s.heap m₀)
    (N : News h₀ env.locals s.heap [(S, stObj D i ti j tj n1), X, (du, W.listOf #[] 0), (dt, W.listOf #[] 0)])
    (hi : 0 ≤ i) (hj : 0 ≤ j) (hj2 : j < 2147483647)
    (turn : ∀ (i j : Int) (ti tj tx : Tok) (dv tv : List Value) (ss : List Str) (nd nt : Nat) (k : Int) (q : Nat) (u : Str → Option Value) (h : Heap) (tk : Nat) (own : List (Addr × Obj)) (Qt : Flow → Shared → Prop),
      (q : Int) < M → OwnOff own [S, X.1, du, dt] → 0 ≤ i → 0 ≤ j → j < 2147483647 → StrsAre dv ss → StrsAre tv ss → ss.length ≤ q → dv.length ≤ q → tv.length ≤ q →
      Fr h₀ env.locals h (fun y => if y = x then some (.int k tx) else if y = Str.ofString "row" then u y else m₀ y) →
      News h₀ env.locals h ((S, stObj D i ti j tj n1) :: X :: (du, W.listOf dv.toArray nd) :: (dt, W.listOf tv.toArray nt) :: own) →
      (∀ (i' j' : Int) (ti' tj' : Tok) (dv' tv' : List Value) (ss' : List Str) (nd' nt' : Nat) (h' : Heap) (tk' : Nat) (m' : Str → Option Value), 0 ≤ i' → 0 ≤ j' → j' < 2147483647 → StrsAre dv' ss' → StrsAre tv' ss' → ss'.length ≤ q + 1 →
        Fr h₀ env.locals h' m' → (∀ z, z ≠ x → z ≠ Str.ofString "row" → m' z = m₀ z) →
        News h₀ env.locals h' ((S, stObj D i' ti' j' tj' n1) :: X :: (du, W.listOf dv'.toArray nd') :: (dt, W.listOf tv'.toArray nt') :: own) → Qt .next { s with heap := h', toks := tk' }) →
      wpAny (model prog w) A (execs body env) Qt E { s with heap := h, toks := tk })
    (done : ∀ (i j : Int) (ti tj : Tok) (dv tv : List Value) (ss : List Str) (nd nt : Nat) (u : Str → Option Value) (h : Heap) (tk : Nat), 0 ≤ i → 0 ≤ j → j < 2147483647 → StrsAre dv ss → StrsAre tv ss → ss.length < 1000 → dv.length < 1000 → tv.length < 1000 →
      Fr h₀ env.locals h (fun y => if y = x then u y else if y = Str.ofString "row" then u y else m₀ y) →
      News h₀ env.locals h [(S, stObj D i ti j tj n1), X, (du, W.listOf dv.toArray nd), (dt, W.listOf tv.toArray nt)] → Q .next { s with heap := h, toks := tk }) :
    wpAny (model prog w) A (pyIter (.ref ra)) (fun it s₂ => LoopAtV prog w A h₀ env x body Q E it s₂) E s := by
  refine kst_range (σ := Int × Tok × Int × Tok × List Value × List Value × List Str × Nat × Nat) (fun c => [(S, stObj D c.1 c.2.1 c.2.2.1 c.2.2.2.1 n1), X, (du, W.listOf c.2.2.2.2.1.toArray c.2.2.2.2.2.2.2.1), (dt, W.listOf c.2.2.2.2.2.1.toArray c.2.2.2.2.2.2.2.2)]) (fun c => [])
    (fun c => 0 ≤ c.1 ∧ 0 ≤ c.2.2.1 ∧ c.2.2.1 < 2147483647 ∧ StrsAre c.2.2.2.2.1 c.2.2.2.2.2.2.1 ∧ StrsAre c.2.2.2.2.2.1 c.2.2.2.2.2.2.1) [Str.ofString "row"] (fun pre c => c.2.2.2.2.2.2.1.length ≤ pre.length) ⟨i, ti, j, tj, [], [], [], 0, 0⟩
    hh hr (small_one (by omega) (by omega) (by omega) (by omega)) (rangeSize_nat _ _) F N ⟨hi, hj, hj2, .nil, .nil⟩ (fun _ hp => nomatch hp) (Nat.le_refl 0) ?_ ?_
  · intro c pre k tx u h tk own hk hlt hoff hf hP F' N'
    have hP' : c.2.2.2.2.2.2.1.length ≤ pre.length := hP
    refine turn c.1 c.2.2.1 c.2.1 c.2.2.2.1 tx c.2.2.2.2.1 c.2.2.2.2.2.1 c.2.2.2.2.2.2.1 c.2.2.2.2.2.2.2.1 c.2.2.2.2.2.2.2.2 k pre.length u h tk own _ (by omega) hoff hf.1 hf.2.1 hf.2.2.1 hf.2.2.2.1 hf.2.2.2.2 hP' ?_ ?_ ?_ N' ?_
    · rw [hf.2.2.2.1.length]; exact hP'
    · rw [hf.2.2.2.2.length]; exact hP'
    · have e : (fun y => if y = x then some (Value.int k tx) else kstB (fun z => if [Str.ofString "row"].contains z then u z else m₀ z) [] y) = fun y => if y = x then some (Value.int k tx) else if y = Str.ofString "row" then u y else m₀ y := by
        funext y
        simp [kstB]
      exact e ▸ F'
    · intro i' j' ti' tj' dv' tv' ss' nd' nt' h' tk' m' hi' hj' hj2' hd' ht' hl' F'' hrest N''
      refine kst_end (σ := Int × Tok × Int × Tok × List Value × List Value × List Str × Nat × Nat) ⟨i', ti', j', tj', dv', tv', ss', nd', nt'⟩ F'' N'' ?_ ?_ rfl ⟨hi', hj', hj2', hd', ht'⟩ (fun _ hp => nomatch hp) ?_ ?_
      · intro p hp
        exact List.mem_append_left own hp
      · intro p hp
        exact List.mem_append_right [(S, stObj D i' ti' j' tj' n1), X, (du, W.listOf dv'.toArray nd'), (dt, W.listOf tv'.toArray nt')] hp
      · intro z hz _ hc
        refine hrest z hz ?_
        intro e
        subst e
        revert hc
        decide
      · simp only [List.length_append, List.length_singleton]
        exact hl'
  · intro c u h tk hf hP F' N'
    have hP' : c.2.2.2.2.2.2.1.length ≤ (M - 0).toNat := by
      have := hP
      rwa [rangeKs_length] at this
    refine done c.1 c.2.2.1 c.2.1 c.2.2.2.1 c.2.2.2.2.1 c.2.2.2.2.2.1 c.2.2.2.2.2.2.1 c.2.2.2.2.2.2.2.1 c.2.2.2.2.2.2.2.2 u h tk hf.1 hf.2.1 hf.2.2.1 hf.2.2.2.1 hf.2.2.2.2 (by omega) ?_ ?_ ?_ N'
    · rw [hf.2.2.2.1.length]; omega
    · rw [hf.2.2.2.2.length]; omega
    · have e : (fun y => if y = x then u y else kstB (fun z => if [Str.ofString "row"].contains z then u z else m₀ z) [] y) = fun y => if y = x then u y else if y = Str.ofString "row" then u y else m₀ y := by
        funext y
        simp [kstB]
      exact e ▸ F'
-- 2. the contracts
def NextHolds (f : Addr) (prog : Program) (w : World) (K : Frag) (p : Program) (loose : List Str) (mean : ExcName → Option Value) (mg mb : Str → Option Value) : Prop :=
  ∀ (dp un : Nat) (gd : Option (List Code)) (cn : Str) (cs : Scope) (a : Addr) (ccd : Value) (cl : List (Str × Addr)) (outer : List Env) (A₀ : Around) (base h₀ : Heap) (L : Addr) (m : Str → Option Value) (s : Shared) (Q E : Value → Shared → Prop)
    (S D : Addr) (rest : List (Addr × Obj)) (vs : List Value) (ns : List Int) (i j k : Int) (ti tj tk : Tok) (n1 n2 : Nat),
    Below A₀ base outer h₀ → Fr h₀ L s.heap m → K.In h₀ → News h₀ L s.heap ((S, stObj D i ti j tj n1) :: (D, W.listOf vs.toArray n2) :: rest) → Top p loose mean mg mb h₀ → cs.kind = .function → D ≠ S → OwnOff rest [S] → IntsAre vs ns → ns.length < 1000 → 0 ≤ i → 0 ≤ j → j < 2147483647 → 0 < k → dp + 1 < recursionLimit → un + 8 < cLine →
    (∀ (i' j' v : Int) (ti' tj' t : Tok) (h' : Heap) (tk' : Nat), 0 ≤ i' → 0 ≤ j' → j' < 2147483647 → 0 ≤ v → v < k → Fr h₀ L h' m → News h₀ L h' ((S, stObj D i' ti' j' tj' n1) :: (D, W.listOf vs.toArray n2) :: rest) → Q (.int v t) { s with heap := h', toks := tk' }) →
    wpAny (model prog w) (ktrTop dp un gd cn cs L a ccd cl outer) (call (.ref f) [.ref S, .int k tk]) Q E s
theorem NextHolds.use {f : Addr} {prog : Program} {w : World} {K : Frag} {p : Program} {loose : List Str} {mean : ExcName → Option Value} {mg mb : Str → Option Value} (C : NextHolds f prog w K p loose mean mg mb)
    {dp un : Nat} {gd : Option (List Code)} {cn : Str} {cs : Scope} {a : Addr} {ccd : Value} {cl : List (Str × Addr)} {outer : List Env} {A₀ : Around} {base h₀ : Heap} {L : Addr} {m : Str → Option Value} {s : Shared} {Q E : Value → Shared → Prop}
    {S D : Addr} {rest : List (Addr × Obj)} {vs : List Value} {ns : List Int} {i j k : Int} {ti tj tk : Tok} {n1 n2 : Nat}
    (hB : Below A₀ base outer h₀) (hF : Fr h₀ L s.heap m) (hX : K.In h₀) (hN : News h₀ L s.heap ((S, stObj D i ti j tj n1) :: (D, W.listOf vs.toArray n2) :: rest)) (hT : Top p loose mean mg mb h₀) (hk : cs.kind = .function) (hDS : D ≠ S) (hoff : OwnOff rest [S]) (hI : IntsAre vs ns) (hlen : ns.length < 1000) (hi : 0 ≤ i) (hj : 0 ≤ j) (hj2 : j < 2147483647) (hk0 : 0 < k) (hd : dp + 1 < recursionLimit) (hu : un + 8 < cLine)
    (ret : ∀ (i' j' v : Int) (ti' tj' t : Tok) (h' : Heap) (tk' : Nat), 0 ≤ i' → 0 ≤ j' → j' < 2147483647 → 0 ≤ v → v < k → Fr h₀ L h' m → News h₀ L h' ((S, stObj D i' ti' j' tj' n1) :: (D, W.listOf vs.toArray n2) :: rest) → Q (.int v t) { s with heap := h', toks := tk' }) :
    wpAny (model prog w) (ktrTop dp un gd cn cs L a ccd cl outer) (call (.ref f) [.ref S, .int k tk]) Q E s :=
  C _ _ _ _ _ _ _ _ _ _ _ _ _ _ _ _ _ _ _ _ _ _ _ _ _ _ _ _ _ _ hB hF hX hN hT hk hDS hoff hI hlen hi hj hj2 hk0 hd hu ret
def RowHolds (f : Addr) (prog : Program) (w : World) (K : Frag) (p : Program) (loose : List Str) (mean : ExcName → Option Value) (mg mb : Str → Option Value) : Prop :=
  ∀ (dp un : Nat) (gd : Option (List Code)) (cn : Str) (cs : Scope) (a : Addr) (ccd : Value) (cl : List (Str × Addr)) (outer : List Env) (A₀ : Around) (base h₀ : Heap) (L : Addr) (m : Str → Option Value) (s : Shared) (Q E : Value → Shared → Prop)
    (S D : Addr) (rest : List (Addr × Obj)) (vs : List Value) (ns : List Int) (i j : Int) (ti tj : Tok) (n1 n2 : Nat),
    Below A₀ base outer h₀ → Fr h₀ L s.heap m → K.In h₀ → News h₀ L s.heap ((S, stObj D i ti j tj n1) :: (D, W.listOf vs.toArray n2) :: rest) → Top p loose mean mg mb h₀ → cs.kind = .function → D ≠ S → OwnOff rest [S] → IntsAre vs ns → ns.length < 1000 → 0 ≤ i → 0 ≤ j → j < 2147483647 → dp + 3 < recursionLimit → un + 24 < cLine →
    (∀ (i' j' : Int) (ti' tj' t : Tok) (r : Str) (h' : Heap) (tk' : Nat), 0 ≤ i' → 0 ≤ j' → j' < 2147483647 → r.length < 1000 → okB r → Fr h₀ L h' m → News h₀ L h' ((S, stObj D i' ti' j' tj' n1) :: (D, W.listOf vs.toArray n2) :: rest) → Q (.str r t) { s with heap := h', toks := tk' }) →
    wpAny (model prog w) (ktrTop dp un gd cn cs L a ccd cl outer) (call (.ref f) [.ref S]) Q E s
theorem RowHolds.use {f : Addr} {prog : Program} {w : World} {K : Frag} {p : Program} {loose : List Str} {mean : ExcName → Option Value} {mg mb : Str → Option Value} (C : RowHolds f prog w K p loose mean mg mb)
    {dp un : Nat} {gd : Option (List Code)} {cn : Str} {cs : Scope} {a : Addr} {ccd : Value} {cl : List (Str × Addr)} {outer : List Env} {A₀ : Around} {base h₀ : Heap} {L : Addr} {m : Str → Option Value} {s : Shared} {Q E : Value → Shared → Prop}
    {S D : Addr} {rest : List (Addr × Obj)} {vs : List Value} {ns : List Int} {i j : Int} {ti tj : Tok} {n1 n2 : Nat}
    (hB : Below A₀ base outer h₀) (hF : Fr h₀ L s.heap m) (hX : K.In h₀) (hN : News h₀ L s.heap ((S, stObj D i ti j tj n1) :: (D, W.listOf vs.toArray n2) :: rest)) (hT : Top p loose mean mg mb h₀) (hk : cs.kind = .function) (hDS : D ≠ S) (hoff : OwnOff rest [S]) (hI : IntsAre vs ns) (hlen : ns.length < 1000) (hi : 0 ≤ i) (hj : 0 ≤ j) (hj2 : j < 2147483647) (hd : dp + 3 < recursionLimit) (hu : un + 24 < cLine)
    (ret : ∀ (i' j' : Int) (ti' tj' t : Tok) (r : Str) (h' : Heap) (tk' : Nat), 0 ≤ i' → 0 ≤ j' → j' < 2147483647 → r.length < 1000 → okB r → Fr h₀ L h' m → News h₀ L h' ((S, stObj D i' ti' j' tj' n1) :: (D, W.listOf vs.toArray n2) :: rest) → Q (.str r t) { s with heap := h', toks := tk' }) :
    wpAny (model prog w) (ktrTop dp un gd cn cs L a ccd cl outer) (call (.ref f) [.ref S]) Q E s :=
  C _ _ _ _ _ _ _ _ _ _ _ _ _ _ _ _ _ _ _ _ _ _ _ _ _ _ _ _ hB hF hX hN hT hk hDS hoff hI hlen hi hj hj2 hd hu ret
def TextHolds (f : Addr) (prog : Program) (w : World) (K : Frag) (p : Program) (loose : List Str) (mean : ExcName → Option Value) (mg mb : Str → Option Value) : Prop :=
  ∀ (dp un : Nat) (gd : Option (List Code)) (cn : Str) (cs : Scope) (a : Addr) (ccd : Value) (cl : List (Str × Addr)) (outer : List Env) (A₀ : Around) (base h₀ : Heap) (L : Addr) (m : Str → Option Value) (s : Shared) (Q E : Value → Shared → Prop)
    (news : List (Addr × Obj)) (r : Str) (t : Tok),
    Below A₀ base outer h₀ → Fr h₀ L s.heap m → K.In h₀ → News h₀ L s.heap news → Top p loose mean mg mb h₀ → cs.kind = .function → r.length < 1000 → okB r → dp + 1 < recursionLimit → un + 8 < cLine →
    (∀ (h' : Heap) (tk' : Nat), Fr h₀ L h' m → News h₀ L h' news → Q (.bool (litB r)) { s with heap := h', toks := tk' }) →
    wpAny (model prog w) (ktrTop dp un gd cn cs L a ccd cl outer) (call (.ref f) [.str r t]) Q E s
theorem TextHolds.use {f : Addr} {prog : Program} {w : World} {K : Frag} {p : Program} {loose : List Str} {mean : ExcName → Option Value} {mg mb : Str → Option Value} (C : TextHolds f prog w K p loose mean mg mb)
    {dp un : Nat} {gd : Option (List Code)} {cn : Str} {cs : Scope} {a : Addr} {ccd : Value} {cl : List (Str × Addr)} {outer : List Env} {A₀ : Around} {base h₀ : Heap} {L : Addr} {m : Str → Option Value} {s : Shared} {Q E : Value → Shared → Prop}
    {news : List (Addr × Obj)} {r : Str} {t : Tok}
    (hB : Below A₀ base outer h₀) (hF : Fr h₀ L s.heap m) (hX : K.In h₀) (hN : News h₀ L s.heap news) (hT : Top p loose mean mg mb h₀) (hk : cs.kind = .function) (hlen : r.length < 1000) (hok : okB r) (hd : dp + 1 < recursionLimit) (hu : un + 8 < cLine)
    (ret : ∀ (h' : Heap) (tk' : Nat), Fr h₀ L h' m → News h₀ L h' news → Q (.bool (litB r)) { s with heap := h', toks := tk' }) :
    wpAny (model prog w) (ktrTop dp un gd cn cs L a ccd cl outer) (call (.ref f) [.str r t]) Q E s :=
  C _ _ _ _ _ _ _ _ _ _ _ _ _ _ _ _ _ _ _ _ hB hF hX hN hT hk hlen hok hd hu ret
theorem with_c {K : Frag} {h : Heap} {prog p : Program} {w : World} {loose : List Str} {mean : ExcName → Option Value} {mg mb : Str → Option Value} (C : Program → World → Frag → Program → List Str → (ExcName → Option Value) → (Str → Option Value) → (Str → Option Value) → Prop)
    {α : Type} {A : Around} {t : Sem α} {Q : α → Shared → Prop} {E : Value → Shared → Prop} {s : Shared} (_X : K.In h) (_T : Top p loose mean mg mb h)
    (c : C prog w K p loose mean mg mb) (k : C prog w K p loose mean mg mb → wpAny (model prog w) A t Q E s) : wpAny (model prog w) A t Q E s := k c
theorem rot3 {h₀ h : Heap} {L : Addr} {x a b : Addr × Obj} {r : List (Addr × Obj)} (N : News h₀ L h (x :: a :: b :: r)) : News h₀ L h (a :: b :: x :: r) := by
  intro p hp
  refine N p ?_
  simp only [List.mem_cons] at hp ⊢
  rcases hp with hp | hp | hp | hp <;> simp [hp]
theorem off_cons {a S : Addr} {o : Obj} {r : List (Addr × Obj)} (h : a ≠ S) (hr : OwnOff r [S]) : OwnOff ((a, o) :: r) [S] := by
  intro p hp b hb
  cases List.mem_singleton.mp hb
  rcases List.mem_cons.mp hp with rfl | hp
  · exact h
  · exact hr p hp _ (List.mem_singleton.mpr rfl)
theorem off_app {S : Addr} {r own : List (Addr × Obj)} {l : List Addr} (hr : OwnOff r [S]) (h : OwnOff own l) (hS : S ∈ l) : OwnOff (r ++ own) [S] := by
  intro p hp b hb
  cases List.mem_singleton.mp hb
  rcases List.mem_append.mp hp with hp | hp
  · exact hr p hp _ (List.mem_singleton.mpr rfl)
  · exact h p hp _ hS
theorem drop4 {h₀ h : Heap} {L : Addr} {x a b c : Addr × Obj} {r : List (Addr × Obj)} (N : News h₀ L h (x :: a :: b :: c :: r)) : News h₀ L h (a :: b :: r) := by
  intro p hp
  refine N p ?_
  simp only [List.mem_cons] at hp ⊢
  rcases hp with hp | hp | hp <;> simp [hp]
theorem drop3 {h₀ h : Heap} {L : Addr} {a b c : Addr × Obj} {r : List (Addr × Obj)} (N : News h₀ L h (a :: b :: c :: r)) : News h₀ L h (a :: b :: r) := by
  intro p hp
  refine N p ?_
  simp only [List.mem_cons] at hp ⊢
  rcases hp with hp | hp | hp <;> simp [hp]
theorem drop1 {h₀ h : Heap} {L : Addr} {x : Addr × Obj} {r : List (Addr × Obj)} (N : News h₀ L h (x :: r)) : News h₀ L h r := fun p hp => N p (.tail _ hp)
theorem ret_b {h₀ h' : Heap} {L : Addr} {m : Str → Option Value} {news : List (Addr × Obj)} {s : Shared} {Q : Value → Shared → Prop} {tk' : Nat} {b c : Bool}
    (ret : ∀ (h' : Heap) (tk' : Nat), Fr h₀ L h' m → News h₀ L h' news → Q (.bool c) { s with heap := h', toks := tk' }) (e : b = c) (F : Fr h₀ L h' m) (N : News h₀ L h' news) : Q (.bool b) { s with heap := h', toks := tk' } := by
  subst e
  exact ret h' tk' F N
theorem ok_at {r : Str} (hok : okB r) (h0 : (r.length : Int) ≠ 0) (hp : prefs.any (fun x => x == Txt.item r 0) = true) : (1 : Int) < r.length := by
  have := hok (by omega) hp
  omega
theorem ok_at1 {r : Str} (hok : okB r) (h0 : 1 ≤ r.length) (hp : prefs.any (fun x => x == Txt.item r 0) = true) : (1 : Int) < r.length := by
  have := hok (by omega) hp
  omega
theorem rot22 {h₀ h : Heap} {L : Addr} {x y a b : Addr × Obj} {r : List (Addr × Obj)} (N : News h₀ L h (x :: y :: a :: b :: r)) : News h₀ L h (a :: b :: x :: y :: r) := by
  intro p hp
  refine N p ?_
  simp only [List.mem_cons] at hp ⊢
  rcases hp with hp | hp | hp | hp | hp <;> simp [hp]
theorem off_nil {S : Addr} : OwnOff [] [S] := fun _ hp => nomatch hp
theorem off_sub {S : Addr} {own : List (Addr × Obj)} {l : List Addr} (h : OwnOff own l) (hS : S ∈ l) : OwnOff own [S] := by
  intro p hp b hb
  cases List.mem_singleton.mp hb
  exact h p hp _ hS
theorem snoc_strs {vs : List Value} {ss : List Str} (h : StrsAre vs ss) (y : Str) (t : Tok) : StrsAre (vs ++ [.str y t]) (ss ++ [y]) := PyProof.Rows.StrsAre.append' h (.cons y t .nil)
theorem eq_strs_same {prog : Program} {w : World} {A : Around} {E : Value → Shared → Prop} {s : Shared} {l b : Addr} {vs us : List Value} {ss : List Str} {Q : Value → Shared → Prop} (hl : s.heap.IsList l vs.toArray) (hi : StrsAre vs ss) (hb : s.heap.IsList b us.toArray) (hi' : StrsAre us ss)
    (hu : A.units < cLine) (h : Q (.bool true) s) : wpAny (model prog w) A (compareOp .Eq (.ref l) (.ref b)) Q E s := by
  refine PySem.SeqAt.eq_listAt (e := fun _ => true) hl hb (by simp [hi.length, hi'.length]) hu ?_ (by rw [show (List.range vs.toArray.size).all (fun _ => true) = true from List.all_eq_true.mpr fun _ _ => rfl]; exact h)
  intro j h1 h2
  have e1 : vs[j]? = some vs.toArray[j] := by simp at h1; simp [h1]
  have e2 : us[j]? = some us.toArray[j] := by simp at h2; simp [h2]
  obtain ⟨y, t, ey, hy⟩ := StrsAre.item hi j _ e1
  obtain ⟨z, u, ez, hz⟩ := StrsAre.item hi' j _ e2
  rw [hy] at hz
  cases hz
  rw [ey, ez]
  have := (eqGives_str y y t u).at A.in1 s
  simpa using this
-- 4. the law
end Mine
open Mine
local macro_rules | `(tactic| walk_at "compareOp In str ref") => `(tactic| (k_here; k_dflt (refine' in_tuple_strs (tupK (Frag.In.keeps ?X (Fr.keep ?F)) ?l) ?s ?_; (case F => k_asm); (case X => k_asm); (case l => k_is); (case s => (repeat constructor)))))
local macro_rules | `(tactic| walk_at "subscriptTail Name Constant str int") => `(tactic| ((have hOk9 := ok_at (by assumption) (by assumption) (by assumption)); refine item_str (by decide) (by omega) (by omega) ?_; intro _))
local macro_rules | `(tactic| walk_at "subscriptTail Name Constant str int") => `(tactic| ((have hOk9 := ok_at1 (by assumption) (by assumption) (by assumption)); refine item_str (by decide) (by omega) (by omega) ?_; intro _))
local macro_rules | `(tactic| walk_at "compareOp Eq ref ref") => `(tactic| (k_here; k_dflt (refine' eq_strs_same ?k1 ?k2 ?k3 ?k4 ?k5 ?_; (case k1 => exact News.isList (by k_asm) (by k_mem)); (case k2 => assumption); (case k3 => exact News.isList (by k_asm) (by k_mem)); (case k4 => assumption); (case k5 => ktr_units))))
set_option maxRecDepth 100000 in
set_option maxHeartbeats 8000000 in
theorem PySem.Challenge.cw_et5019_01_holds : PySem.Challenge.rw_et5019_01.Holds := by
  w_on
  o_law
  k_head
  (case hw => w_witness2)
  w_strict (
  k_go0
  refine with_c (TextHolds 22) (by assumption) (by assumption) ?lit ?_
  case lit =>
    repeat (rename_i hx9; clear hx9)
    unfold TextHolds
    intro dp un gd cn cs a ccd cl outer A₀ base h₀ L m s Q E news r t hB hF hX hN hT hk hlen hok hd hu hret
    refine wpAny_call ?_
    k_dflt cell_enter
    k_steps
    all_goals (refine' ret_b hret ?ze ?zF ?zN; (case zF => assumption); (case zN => assumption); (case ze => first | exact lit_e (by assumption) | exact lit_p1 (by assumption) (by assumption) (by assumption) | exact lit_p2 (by assumption) (by assumption) (by assumption) | exact lit_q1 (by assumption) (by assumption) (by assumption) | exact lit_q2 (by assumption) (by assumption) (by assumption)))
  intro hLit
  refine with_c (TextHolds 43) (by assumption) (by assumption) ?due ?_
  case due =>
    clear hLit
    repeat (rename_i hx9; clear hx9)
    unfold TextHolds
    intro dp un gd cn cs a ccd cl outer A₀ base h₀ L m s Q E news r t hB hF hX hN hT hk hlen hok hd hu hret
    refine wpAny_call ?_
    k_dflt cell_enter
    k_steps
    all_goals (refine' ret_b hret ?ze ?zF ?zN; (case zF => assumption); (case zN => first | exact drop1 (by assumption) | exact drop1 (drop1 (by assumption))); (case ze => first | exact due_e (by assumption) | exact due_q (by assumption) (by assumption) | exact due_p (by assumption) (by assumption) | exact due_n (by assumption) (by assumption) (by assumption)))
  intro hDue
  refine with_c (NextHolds 29) (by assumption) (by assumption) ?next ?_
  case next =>
    clear hLit hDue
    repeat (rename_i hx9; clear hx9)
    unfold NextHolds
    intro dp un gd cn cs a ccd cl outer A₀ base h₀ L m s Q E S D rest vs ns i j k ti tj tk n1 n2 hB hF hX hN hT hk hDS hoff hI hlen hi hj hj2 hk0 hd hu hret
    refine wpAny_call ?_
    k_dflt cell_enter
    k_steps
    all_goals (refine' hret _ _ _ _ _ _ _ _ ?za ?zb ?zc ?zd ?ze ?zF ?zN; (case zF => assumption); (case zN => assumption); (case za => omega); (case zb => exact fmod_lo _ (by decide)); (case zc => exact fmod_hi _ (by decide)); (case zd => exact fmod_lo _ hk0); (case ze => exact fmod_hi _ hk0))
  intro hNext
  refine with_c (RowHolds 36) (by assumption) (by assumption) ?row ?_
  case row =>
    clear hLit hDue
    revert hNext
    repeat (rename_i hx9; clear hx9)
    intro hNext
    unfold RowHolds
    intro dp un gd cn cs a ccd cl outer A₀ base h₀ L m s Q E S D rest vs ns i j ti tj n1 n2 hB hF hX hN hT hk hDS hoff hI hlen hi hj hj2 hd hu hret
    refine wpAny_call ?_
    k_dflt cell_enter
    repeat' (first | ((fail_if_success (with_reducible show wpAny _ _ (call (Value.ref _) _) _ _ _)); (fail_if_success (with_reducible show wpAny _ _ (pyIter (Value.ref _)) _ _ _)); first | (k_unfold; (try dsimp only)) | walk1 | (dsimp only; walk1) | (leave1; (try dsimp only))) | fail "no step")
    refine' NextHolds.use hNext ?zB ?zF ?zX (rot3 ?zN) ?zT ?zK hDS ?zoff hI hlen hi hj hj2 ?zk ?zd ?zu ?_
    case zB => k_asm
    case zF => k_asm
    case zX => k_asm
    case zN => k_asm
    case zT => k_asm
    case zK => exact rfl
    case zoff => exact off_cons (by k_ne) hoff
    case zk => decide
    case zd => ktr_room
    case zu => ktr_units
    intro i1 j1 v1 ti1 tj1 t1 h1 tk1 hi1 hj1 hj21 hv0 hvk F1 N1
    (try dsimp only)
    repeat' (first | ((fail_if_success (with_reducible show wpAny _ _ (call (Value.ref _) _) _ _ _)); (fail_if_success (with_reducible show wpAny _ _ (pyIter (Value.ref _)) _ _ _)); first | (k_unfold; (try dsimp only)) | walk1 | (dsimp only; walk1) | (leave1; (try dsimp only))) | fail "no step")
    (rename Fr _ _ _ _ => lF'); (rename News _ _ _ _ => lN'); (rename IsRange _ _ _ _ _ _ _ _ => rgX)
    with_unfolding_all refine' row_loop (by rfl) rgX hv0 (by omega) lF' lN' (by rfl) hi1 hj1 hj21 ?zturn ?zdone (by decide)
    all_goals clear lF' lN' rgX
    case zturn =>
      intro i2 j2 ti2 tj2 tr2 tx2 r2 k2 q2 h2 tk2 own2 Qt hq2 hoff2 hi2 hj2' hj22 hr2 F2 N2 nxt
      (try dsimp only)
      repeat' (first | ((fail_if_success (with_reducible show wpAny _ _ (call (Value.ref _) _) _ _ _)); (fail_if_success (with_reducible show wpAny _ _ (pyIter (Value.ref _)) _ _ _)); first | (k_unfold; (try dsimp only)) | walk1 | (dsimp only; walk1) | (leave1; (try dsimp only))) | fail "no step")
      refine' NextHolds.use hNext ?zB ?zF ?zX ?zN ?zT ?zK hDS ?zoff hI hlen hi2 hj2' hj22 ?zk ?zd ?zu ?_
      case zB => k_asm
      case zF => k_asm
      case zX => k_asm
      case zN => k_asm
      case zT => k_asm
      case zK => exact rfl
      case zoff => exact off_app (off_cons (by k_ne) hoff) hoff2 (.head _)
      case zk => decide
      case zd => ktr_room
      case zu => ktr_units
      clear N2 F2
      intro i4 j4 v4 ti4 tj4 t4 h4 tk4 hi4 hj4 hj24 hv40 hv4k F4 N4
      (try dsimp only)
      simp only [List.cons_append] at N4
      k_steps
      refine' nxt i4 j4 ti4 tj4 _ _ _ _ _ hi4 hj4 hj24 ?zl ?zF ?zrow ?zrest ?zN
      case zF => assumption
      case zrow => exact rfl
      case zrest => (intro z h1 h2; simp only [h1, h2, if_false])
      case zN => ((rename News _ _ _ _ => lN9); exact lN9)
      case zl => exact row_len hr2
    case zdone =>
      intro i3 j3 ti3 tj3 tr3 r3 u3 h3 tk3 hi3 hj3 hj32 hr3 F3 N3
      (try dsimp only)
      k_steps
      · refine' hret i3 j3 ti3 tj3 _ _ _ _ hi3 hj3 hj32 ?zg1 (ok_long (by assumption) (by decide)) ?zF ?zN
        case zF => assumption
        case zN => exact drop4 (by assumption)
        case zg1 =>
          rw [Str.length_append, show (Str.ofString "x").length = 1 by decide]
          omega
      · refine' hret i3 j3 ti3 tj3 _ _ _ _ hi3 hj3 hj32 ?zg1 (ok_one (by assumption) (by assumption)) ?zF ?zN
        case zF => assumption
        case zN => exact drop4 (by assumption)
        case zg1 => omega
      · refine' hret i3 j3 ti3 tj3 _ _ _ _ hi3 hj3 hj32 ?zg1 (ok_other (by assumption)) ?zF ?zN
        case zF => assumption
        case zN => exact drop3 (by assumption)
        case zg1 => omega
  intro hRow
  (try dsimp only)
  repeat' (first | ((fail_if_success (with_reducible show wpAny _ _ (call (Value.ref _) _) _ _ _)); (fail_if_success (with_reducible show wpAny _ _ (pyIter (Value.ref _)) _ _ _)); first | (k_unfold; (try dsimp only)) | walk1 | (dsimp only; walk1) | (leave1; (try dsimp only))) | fail "no step")
  refine' NextHolds.use hNext ?zB ?zF ?zX (rot22 ?zN) ?zT ?zK ?zDS ?zoff ?zI ?zlen ?zi ?zj ?zj2 ?zk ?zd ?zu ?_
  case zF => k_asm
  case zN => k_asm
  case zB => k_asm
  case zX => k_asm
  case zT => k_asm
  case zK => exact rfl
  case zDS => k_ne
  case zoff => exact off_cons (by k_ne) (off_cons (by k_ne) off_nil)
  case zI => assumption
  case zlen => omega
  case zi => decide
  case zj => decide
  case zj2 => decide
  case zk => decide
  case zd => ktr_room
  case zu => ktr_units
  intro i1 j1 v1 ti1 tj1 t1 h1 tk1 hi1 hj1 hj21 hv0 hvk F1 N1
  (try dsimp only)
  repeat' (first | ((fail_if_success (with_reducible show wpAny _ _ (call (Value.ref _) _) _ _ _)); (fail_if_success (with_reducible show wpAny _ _ (pyIter (Value.ref _)) _ _ _)); first | (k_unfold; (try dsimp only)) | walk1 | (dsimp only; walk1) | (leave1; (try dsimp only))) | fail "no step")
  (rename Fr _ _ _ _ => lF'); (rename News _ _ _ _ => lN'); (rename IsRange _ _ _ _ _ _ _ _ => rgX)
  with_unfolding_all refine' law_loop (by rfl) rgX (by omega) (by omega) lF' lN' hi1 hj1 hj21 ?zturn ?zdone
  all_goals clear lF' lN' rgX
  case zturn =>
      intro i2 j2 ti2 tj2 tx2 dv2 tv2 ss2 nd2 nt2 k2 q2 u2 h2 tk2 own2 Qt hq2 hoff2 hi2 hj2 hj22 hdv2 htv2 hss2 hdl2 htl2 F2 N2 nxt
      (try dsimp only)
      repeat' (first | ((fail_if_success (with_reducible show wpAny _ _ (call (Value.ref _) _) _ _ _)); (fail_if_success (with_reducible show wpAny _ _ (pyIter (Value.ref _)) _ _ _)); first | (k_unfold; (try dsimp only)) | walk1 | (dsimp only; walk1) | (leave1; (try dsimp only))) | fail "no step")
      refine' RowHolds.use hRow ?zB ?zF ?zX ?zN ?zT ?zK ?zDS ?zoff ?zI ?zlen hi2 hj2 hj22 ?zd ?zu ?_
      case zF => k_asm
      case zN => k_asm
      case zB => k_asm
      case zX => k_asm
      case zI => assumption
      case zT => k_asm
      case zK => exact rfl
      case zDS => k_ne
      case zoff => exact off_cons (by k_ne) (off_cons (by k_ne) (off_sub hoff2 (.head _)))
      case zlen => omega
      case zd => ktr_room
      case zu => ktr_units
      clear N2 F2
      intro i3 j3 ti3 tj3 t3 r3 h3 tk3 hi3 hj3 hj32 hrl3 hok3 F3 N3
      (try dsimp only)
      repeat' (first | ((fail_if_success (with_reducible show wpAny _ _ (call (Value.ref _) _) _ _ _)); (fail_if_success (with_reducible show wpAny _ _ (pyIter (Value.ref _)) _ _ _)); first | (k_unfold; (try dsimp only)) | walk1 | (dsimp only; walk1) | (leave1; (try dsimp only))) | fail "no step")
      refine' TextHolds.use hLit ?zB ?zF ?zX ?zN ?zT ?zK ?zl ?zo ?zd ?zu ?_
      case zF => k_asm
      case zN => k_asm
      case zB => k_asm
      case zX => k_asm
      case zT => k_asm
      case zK => exact rfl
      case zl => assumption
      case zo => assumption
      case zd => ktr_room
      case zu => ktr_units
      intro h4 tk4 F4 N4
      (try dsimp only)
      repeat' (first | ((fail_if_success (with_reducible show wpAny _ _ (call (Value.ref _) _) _ _ _)); (fail_if_success (with_reducible show wpAny _ _ (pyIter (Value.ref _)) _ _ _)); first | (k_unfold; (try dsimp only)) | walk1 | (dsimp only; walk1) | (leave1; (try dsimp only))) | fail "no step")
      refine' TextHolds.use hDue ?zB ?zF ?zX ?zN ?zT ?zK ?zl ?zo ?zd ?zu ?_
      case zF => k_asm
      case zN => k_asm
      case zB => k_asm
      case zX => k_asm
      case zT => k_asm
      case zK => exact rfl
      case zl => assumption
      case zo => assumption
      case zd => ktr_room
      case zu => ktr_units
      intro h5 tk5 F5 N5
      (try dsimp only)
      k_steps
      refine' nxt i3 j3 ti3 tj3 _ _ _ _ _ _ _ _ hi3 hj3 hj32 (snoc_strs hdv2 _ _) (snoc_strs htv2 _ _) ?zl ?zF ?zrest ?zN
      case zF => assumption
      case zrest => (intro z h1 h2; simp only [h1, h2, if_false])
      case zN => ((rename News _ _ _ _ => lN9); (simp only [List.push_toArray] at lN9); exact lN9)
      case zl => (rw [List.length_append, List.length_singleton]; omega)
  case zdone =>
      intro i3 j3 ti3 tj3 dv3 tv3 ss3 nd3 nt3 u3 h3 tk3 hi3 hj3 hj32 hdv3 htv3 hsl3 hdl3 htl3 F3 N3
      (try dsimp only)
      k_steps
      all_goals (first | done | fail "a goal is left"))
