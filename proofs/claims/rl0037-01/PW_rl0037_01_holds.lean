import PyProof.Rows.All
import Wide.All
import OpenK.AllK
import Wide.FinOn
import PySem.Challenge.RW_rl0037_01
set_option Elab.async false
set_option compiler.extract_closed false
set_option linter.unusedVariables false
section PartP1
namespace Mine
/-! alignments of two lists: the plain side of the distance -/
inductive Al (c : Nat → Nat → Nat) : List Nat → List Nat → Nat → Prop
  | nil : Al c [] [] 0
  | del {x a b n} : Al c a b n → Al c (x :: a) b (n + 2)
  | ins {y a b n} : Al c a b n → Al c a (y :: b) (n + 2)
  | sub {x y a b n} : Al c a b n → Al c (x :: a) (y :: b) (n + c x y)
structure Cost (c : Nat → Nat → Nat) : Prop where
  le : ∀ x y, c x y ≤ 2
  self : ∀ x, c x x = 0
  symm : ∀ x y, c x y = c y x
def IsDist (c : Nat → Nat → Nat) (a b : List Nat) (n : Nat) : Prop := Al c a b n ∧ ∀ m, Al c a b m → n ≤ m
section
variable {c : Nat → Nat → Nat}
theorem Al.symm (hc : Cost c) {a b n} (h : Al c a b n) : Al c b a n := by
  induction h with
  | nil => exact .nil
  | del _ ih => exact .ins ih
  | ins _ ih => exact .del ih
  | sub _ ih => rename_i x y a b n _; rw [hc.symm x y]; exact .sub ih
theorem Al.append {a b n a' b' n'} (h : Al c a b n) (h' : Al c a' b' n') : Al c (a ++ a') (b ++ b') (n + n') := by
  induction h with
  | nil => simpa using h'
  | del _ ih => have := Al.del (x := ‹Nat›) ih; rw [show ∀ n : Nat, n + 2 + n' = n + n' + 2 from fun n => by lia]; exact .del ih
  | ins _ ih => rw [show ∀ n : Nat, n + 2 + n' = n + n' + 2 from fun n => by lia]; exact .ins ih
  | sub _ ih => rename_i x y _ _ n _; rw [show n + c x y + n' = n + n' + c x y from by lia]; exact .sub ih
theorem Al.reverse {a b n} (h : Al c a b n) : Al c a.reverse b.reverse n := by
  induction h with
  | nil => exact .nil
  | del _ ih => rename_i x _ _ _ _; simpa using ih.append (.del (x := x) .nil)
  | ins _ ih => rename_i x _ _ _ _; simpa using ih.append (.ins (y := x) .nil)
  | sub _ ih => rename_i x y _ _ _ _; simpa using ih.append (.sub (x := x) (y := y) .nil)
theorem Al.nil_left {b n} (h : Al c [] b n) : n = 2 * b.length := by
  generalize ha : ([] : List Nat) = a at h
  induction h with
  | nil => rfl
  | del _ _ => cases ha
  | ins _ ih => have := ih ha; simp; lia
  | sub _ _ => cases ha
theorem Al.all_ins (b : List Nat) : Al c [] b (2 * b.length) := by
  induction b with
  | nil => exact .nil
  | cons y b ih => simpa [Nat.mul_add] using Al.ins (y := y) ih
theorem Al.all_del (a : List Nat) : Al c a [] (2 * a.length) := by
  induction a with
  | nil => exact .nil
  | cons y b ih => simpa [Nat.mul_add] using Al.del (x := y) ih
theorem Al.nil_right {a n} (h : Al c a [] n) : n = 2 * a.length := by
  generalize hb : ([] : List Nat) = b at h
  induction h with
  | nil => rfl
  | del _ ih => have := ih hb; simp; lia
  | ins _ _ => cases hb
  | sub _ _ => cases hb
theorem Al.len {a b n} (h : Al c a b n) : 2 * b.length ≤ 2 * a.length + n ∧ 2 * a.length ≤ 2 * b.length + n := by
  induction h with
  | nil => simp
  | del _ ih => simp; lia
  | ins _ ih => simp; lia
  | sub _ ih => simp; lia
/-- the first steps -/
theorem Al.cases_cons {x y a b n} (h : Al c (x :: a) (y :: b) n) : (∃ m, n = m + 2 ∧ Al c a (y :: b) m) ∨ (∃ m, n = m + 2 ∧ Al c (x :: a) b m) ∨ (∃ m, n = m + c x y ∧ Al c a b m) := by
  cases h with
  | del h => exact .inl ⟨_, rfl, h⟩
  | ins h => exact .inr (.inl ⟨_, rfl, h⟩)
  | sub h => exact .inr (.inr ⟨_, rfl, h⟩)
theorem Al.dropR (hc : Cost c) {a y b m} (h : Al c a (y :: b) m) : ∃ k, k ≤ m + 2 ∧ Al c a b k := by
  generalize hb : y :: b = b' at h
  induction h generalizing y b with
  | nil => cases hb
  | del _ ih => obtain ⟨k, hk, h⟩ := ih hb; exact ⟨k + 2, by lia, .del h⟩
  | ins h _ => cases hb; exact ⟨_, by lia, h⟩
  | sub h _ => cases hb; exact ⟨_, by lia, .del h⟩
theorem Al.dropL (hc : Cost c) {a x b m} (h : Al c (x :: a) b m) : ∃ k, k ≤ m + 2 ∧ Al c a b k := by
  obtain ⟨k, hk, h⟩ := (h.symm hc).dropR hc
  exact ⟨k, hk, h.symm hc⟩
theorem IsDist.cons (hc : Cost c) {x a b n} (h : IsDist c a b n) : IsDist c (x :: a) (x :: b) n := by
  refine ⟨by simpa [hc.self] using h.1.sub (x := x) (y := x), fun m hm => ?_⟩
  rcases hm.cases_cons with ⟨k, rfl, hk⟩ | ⟨k, rfl, hk⟩ | ⟨k, rfl, hk⟩
  · obtain ⟨j, hj, hk⟩ := hk.dropR hc; have := h.2 _ hk; lia
  · obtain ⟨j, hj, hk⟩ := hk.dropL hc; have := h.2 _ hk; lia
  · have := h.2 _ hk; lia
theorem IsDist.prefix (hc : Cost c) {p a b n} (h : IsDist c a b n) : IsDist c (p ++ a) (p ++ b) n := by
  induction p with
  | nil => exact h
  | cons x p ih => exact ih.cons hc
theorem IsDist.reverse {a b n} (h : IsDist c a b n) : IsDist c a.reverse b.reverse n :=
  ⟨h.1.reverse, fun m hm => h.2 m (by simpa using hm.reverse)⟩
theorem IsDist.suffix (hc : Cost c) {p a b n} (h : IsDist c a b n) : IsDist c (a ++ p) (b ++ p) n := by
  have := (h.reverse.prefix hc (p := p.reverse)).reverse
  simpa using this
theorem IsDist.symm (hc : Cost c) {a b n} (h : IsDist c a b n) : IsDist c b a n := ⟨h.1.symm hc, fun m hm => h.2 m (hm.symm hc)⟩
theorem IsDist.uniq {a b n m} (h : IsDist c a b n) (h' : IsDist c a b m) : n = m := Nat.le_antisymm (h.2 _ h'.1) (h'.2 _ h.1)
theorem IsDist.nil_left (b : List Nat) : IsDist c [] b (2 * b.length) := ⟨.all_ins b, fun m hm => by rw [hm.nil_left]; lia⟩
theorem IsDist.nil_right (a : List Nat) : IsDist c a [] (2 * a.length) := ⟨.all_del a, fun m hm => by rw [hm.nil_right]; lia⟩
theorem IsDist.self (hc : Cost c) (a : List Nat) : IsDist c a a 0 := by
  have := (IsDist.nil_left (c := c) []).suffix hc (p := a)
  simpa using this

/-- the distance by recursion -/
def ed (c : Nat → Nat → Nat) : List Nat → List Nat → Nat
  | [], b => 2 * b.length
  | x :: a, [] => 2 * (x :: a).length
  | x :: a, y :: b => min (min (ed c (x :: a) b) (ed c a (y :: b)) + 2) (ed c a b + c x y)
theorem ed_isDist : ∀ (a b : List Nat), IsDist c a b (ed c a b)
  | [], b => by simpa [ed] using IsDist.nil_left (c := c) b
  | x :: a, [] => by simpa [ed] using IsDist.nil_right (c := c) (x :: a)
  | x :: a, y :: b => by
    have h1 := ed_isDist (x :: a) b
    have h2 := ed_isDist a (y :: b)
    have h3 := ed_isDist a b
    rw [ed]
    constructor
    · by_cases q : min (ed c (x :: a) b) (ed c a (y :: b)) + 2 ≤ ed c a b + c x y
      · rw [Nat.min_eq_left q]
        by_cases r : ed c (x :: a) b ≤ ed c a (y :: b)
        · rw [Nat.min_eq_left r]; exact .ins h1.1
        · rw [Nat.min_eq_right (by lia)]; exact .del h2.1
      · rw [Nat.min_eq_right (by lia)]; exact .sub h3.1
    · intro m hm
      rcases hm.cases_cons with ⟨k, rfl, hk⟩ | ⟨k, rfl, hk⟩ | ⟨k, rfl, hk⟩
      · have := h2.2 _ hk; lia
      · have := h1.2 _ hk; lia
      · have := h3.2 _ hk; lia
theorem ed_nil_right (a : List Nat) : ed c a [] = 2 * a.length := by cases a <;> simp [ed]
theorem ed_nil_left (b : List Nat) : ed c [] b = 2 * b.length := by simp [ed]
/-- the table's cell: the first i of b, the first j of a -/
def cell (c : Nat → Nat → Nat) (a b : List Nat) (i j : Nat) : Nat := ed c (b.take i).reverse (a.take j).reverse
theorem cell_zero_left (a b : List Nat) (j : Nat) (hj : j ≤ a.length) : cell c a b 0 j = 2 * j := by simp [cell, ed, hj]
theorem cell_zero_right (a b : List Nat) (i : Nat) (hi : i ≤ b.length) : cell c a b i 0 = 2 * i := by simp [cell, ed_nil_right, hi]
theorem cell_succ (a b : List Nat) (i j : Nat) (hi : i < b.length) (hj : j < a.length) :
    cell c a b (i + 1) (j + 1) = min (min (cell c a b (i + 1) j) (cell c a b i (j + 1)) + 2) (cell c a b i j + c b[i] a[j]) := by
  have e1 : (b.take (i + 1)).reverse = b[i] :: (b.take i).reverse := by rw [List.take_succ_eq_append_getElem hi]; simp
  have e2 : (a.take (j + 1)).reverse = a[j] :: (a.take j).reverse := by rw [List.take_succ_eq_append_getElem hj]; simp
  simp only [cell, e1, e2, ed]
theorem cell_end (hc : Cost c) (a b : List Nat) : IsDist c a b (cell c a b b.length a.length) := by
  have := (ed_isDist (c := c) b.reverse a.reverse).reverse.symm hc
  simpa [cell] using this
/-- an alignment of a whole is one of the first part -/
theorem Al.split {p q b n} (h : Al c (p ++ q) b n) : ∃ b₁ b₂ n₁ n₂, b = b₁ ++ b₂ ∧ n = n₁ + n₂ ∧ Al c p b₁ n₁ ∧ Al c q b₂ n₂ := by
  generalize ha : p ++ q = a at h
  induction h generalizing p with
  | nil => obtain ⟨rfl, rfl⟩ := List.append_eq_nil_iff.mp ha; exact ⟨[], [], 0, 0, rfl, rfl, .nil, .nil⟩
  | del h ih =>
    rename_i x a b n
    cases p with
    | nil => exact ⟨[], b, 0, n + 2, rfl, by simp, .nil, by simp at ha; subst ha; exact .del h⟩
    | cons y p =>
      simp at ha
      obtain ⟨rfl, rfl⟩ := ha
      obtain ⟨b₁, b₂, n₁, n₂, rfl, rfl, h₁, h₂⟩ := ih rfl
      exact ⟨b₁, b₂, n₁ + 2, n₂, rfl, by lia, .del h₁, h₂⟩
  | ins h ih =>
    rename_i y a b n
    obtain ⟨b₁, b₂, n₁, n₂, rfl, rfl, h₁, h₂⟩ := ih ha
    exact ⟨y :: b₁, b₂, n₁ + 2, n₂, rfl, by lia, .ins h₁, h₂⟩
  | sub h ih =>
    rename_i x y a b n
    cases p with
    | nil => exact ⟨[], y :: b, 0, n + c x y, rfl, by simp, .nil, by simp at ha; subst ha; exact .sub h⟩
    | cons z p =>
      simp at ha
      obtain ⟨rfl, rfl⟩ := ha
      obtain ⟨b₁, b₂, n₁, n₂, rfl, rfl, h₁, h₂⟩ := ih rfl
      exact ⟨y :: b₁, b₂, n₁ + c z y, n₂, rfl, by lia, .sub h₁, h₂⟩
theorem cell_one_le (hc : Cost c) (a b : List Nat) (i : Nat) (hi : i < b.length) (ha : 0 < a.length) : cell c a b (i + 1) 1 ≤ 2 * (i + 1) := by
  rw [cell_succ a b i 0 hi ha, cell_zero_right a b i (by lia)]
  have := hc.le b[i] a[0]
  lia
theorem dist_ge_row (hc : Cost c) {a b : List Nat} {i n k : Nat} (hi : i < b.length) (ha : 0 < a.length) (h : ∀ j, j < a.length → k ≤ cell c a b (i + 1) (j + 1)) (hd : IsDist c a b n) : k ≤ n := by
  have hs := hd.1.symm hc
  rw [← List.take_append_drop (i + 1) b] at hs
  obtain ⟨a₁, a₂, n₁, n₂, he, rfl, h₁, _⟩ := hs.split
  have hl : a₁ = a.take a₁.length := by rw [he]; simp
  have hle : a₁.length ≤ a.length := by rw [he]; simp
  have h₂ := h₁.reverse
  have h₃ : cell c a b (i + 1) a₁.length ≤ n₁ := by
    unfold cell
    rw [← hl]
    exact (ed_isDist _ _).2 _ h₂
  cases hq : a₁.length with
  | zero =>
    rw [hq, cell_zero_right a b (i + 1) (by lia)] at h₃
    have := h 0 ha
    have := cell_one_le hc a b i hi ha
    simp only [Nat.zero_add] at *
    lia
  | succ j =>
    rw [hq] at h₃
    have := h j (by lia)
    lia
end
end Mine
end PartP1
section PartP3
namespace Mine
/-! the nearest nests: the plain side -/
section
variable (c : Nat → Nat → Nat) (pairs : List (Nat × Nat)) (core : List Nat)
/-- a nest: the middle, or a nest between the signs of a pair; k pairs -/
inductive Nest : List Nat → Nat → Prop
  | core : Nest core 0
  | wrap {N : List Nat} {k : Nat} {p : Nat × Nat} : p ∈ pairs → Nest N k → Nest (p.1 :: N ++ [p.2]) (k + 1)
/-- a way: its price, what stands ahead, the nests within, what stands behind -/
abbrev Way := Nat × List Nat × List (List Nat) × List Nat
abbrev Res := Nat × List (List Nat)
/-- the ways of a stretch with first sign h, last sign l: rb of the rest behind the first, ra of the rest ahead of the last, ri of what is between (of two signs or more) -/
def waysOf (one : Bool) (h l : Nat) (rb ra : Res) (ri : Option Res) : List Way :=
  [(rb.1 + 2, [], rb.2, []), (ra.1 + 2, [], ra.2, [])] ++ (if one then core.map (fun m => (c h m, [], [core], [])) else []) ++
  pairs.flatMap fun p => [(rb.1 + c h p.1 + 2, [p.1], rb.2, [p.2]), (ra.1 + 2 + c l p.2, [p.1], ra.2, [p.2])] ++ (match ri with | some r => [(r.1 + c h p.1 + c l p.2, [p.1], r.2, [p.2])] | none => [])
def leastOf : List Way → Nat
  | [] => 0
  | [w] => w.1
  | w :: r => min w.1 (leastOf r)
/-- what one way adds -/
def addWay (near : List (List Nat)) (w : Way) : List (List Nat) :=
  w.2.2.1.foldl (fun near N => if w.2.1 = [] ∨ N.length < 4 then (if w.2.1 ++ N ++ w.2.2.2 ∈ near then near else near ++ [w.2.1 ++ N ++ w.2.2.2]) else near) near
def nearOf (ws : List Way) : List (List Nat) := (ws.filter (fun w => w.1 = leastOf ws)).foldl addWay []
/-- the table's rows n and n - 1, as functions of the stretch -/
def tab : Nat → (List Nat → Res) × (List Nat → Res)
  | 0 => (fun _ => (2 * core.length, [core]), fun _ => (0, []))
  | n + 1 =>
    let (cur, prev) := tab n
    (fun t =>
      let ws := waysOf c pairs core (n == 0) (t.headD 0) (t.getLastD 0) (cur t.tail) (cur t.dropLast) (if n = 0 then none else some (prev t.tail.dropLast))
      (leastOf ws, nearOf ws), cur)
end
theorem leastOf_le : ∀ {ws : List Way} {w : Way}, w ∈ ws → leastOf ws ≤ w.1
  | [_], w, h => by rw [List.mem_singleton.mp h]; exact Nat.le_refl _
  | a :: b :: r, w, h => by
    simp only [leastOf]
    rcases List.mem_cons.mp h with rfl | h
    · exact Nat.min_le_left _ _
    · exact Nat.le_trans (Nat.min_le_right _ _) (leastOf_le h)
theorem leastOf_mem : ∀ {ws : List Way}, ws ≠ [] → ∃ w ∈ ws, w.1 = leastOf ws
  | [a], _ => ⟨a, .head _, rfl⟩
  | a :: b :: r, _ => by
    obtain ⟨w, hw, e⟩ := leastOf_mem (ws := b :: r) (by simp)
    simp only [leastOf]
    by_cases h : a.1 ≤ leastOf (b :: r)
    · exact ⟨a, .head _, by rw [Nat.min_eq_left h]⟩
    · exact ⟨w, .tail _ hw, by rw [Nat.min_eq_right (by lia)]; exact e⟩
theorem mem_addWay {w : Way} {N' : List Nat} {near : List (List Nat)} : N' ∈ addWay near w ↔ N' ∈ near ∨ ∃ N ∈ w.2.2.1, (w.2.1 = [] ∨ N.length < 4) ∧ N' = w.2.1 ++ N ++ w.2.2.2 := by
  unfold addWay
  generalize w.2.2.1 = ns
  induction ns generalizing near with
  | nil => simp
  | cons N ns ih =>
    rw [List.foldl_cons, ih]
    simp only [List.mem_cons, exists_eq_or_imp]
    split
    · rename_i hc
      split
      · rename_i hm
        constructor
        · rintro (h | h)
          · exact .inl h
          · exact .inr (.inr h)
        · rintro (h | ⟨_, rfl⟩ | h)
          · exact .inl h
          · exact .inl hm
          · exact .inr h
      · simp only [List.mem_append, List.mem_singleton]
        constructor
        · rintro ((h | h) | h)
          · exact .inl h
          · exact .inr (.inl ⟨hc, h⟩)
          · exact .inr (.inr h)
        · rintro (h | ⟨_, h⟩ | h)
          · exact .inl (.inl h)
          · exact .inl (.inr h)
          · exact .inr h
    · rename_i hc
      constructor
      · rintro (h | h)
        · exact .inl h
        · exact .inr (.inr h)
      · rintro (h | ⟨h, _⟩ | h)
        · exact .inl h
        · exact absurd h hc
        · exact .inr h
theorem nodup_addWay {w : Way} {near : List (List Nat)} (h : near.Nodup) : (addWay near w).Nodup := by
  unfold addWay
  generalize w.2.2.1 = ns
  induction ns generalizing near with
  | nil => exact h
  | cons N ns ih =>
    rw [List.foldl_cons]
    apply ih
    split
    · split
      · exact h
      · rename_i hm
        rw [List.nodup_append]
        refine ⟨h, by simp, fun a ha b hb e => ?_⟩
        rw [List.mem_singleton.mp hb] at e
        exact hm (e ▸ ha)
    · exact h
theorem mem_foldWay {ws : List Way} {N' : List Nat} {near : List (List Nat)} : N' ∈ ws.foldl addWay near ↔ N' ∈ near ∨ ∃ w ∈ ws, ∃ N ∈ w.2.2.1, (w.2.1 = [] ∨ N.length < 4) ∧ N' = w.2.1 ++ N ++ w.2.2.2 := by
  induction ws generalizing near with
  | nil => simp
  | cons w ws ih =>
    rw [List.foldl_cons, ih, mem_addWay]
    simp only [List.mem_cons, exists_eq_or_imp, or_assoc]
theorem nodup_foldWay {ws : List Way} {near : List (List Nat)} (h : near.Nodup) : (ws.foldl addWay near).Nodup := by
  induction ws generalizing near with
  | nil => exact h
  | cons w ws ih => exact ih (nodup_addWay h)
theorem mem_nearOf {ws : List Way} {N' : List Nat} : N' ∈ nearOf ws ↔ ∃ w ∈ ws, w.1 = leastOf ws ∧ ∃ N ∈ w.2.2.1, (w.2.1 = [] ∨ N.length < 4) ∧ N' = w.2.1 ++ N ++ w.2.2.2 := by
  unfold nearOf
  rw [mem_foldWay]
  simp only [List.not_mem_nil, false_or, List.mem_filter, decide_eq_true_eq, and_assoc]
theorem nodup_nearOf (ws : List Way) : (nearOf ws).Nodup := nodup_foldWay List.nodup_nil
section
variable {c : Nat → Nat → Nat} {pairs : List (Nat × Nat)} {core : List Nat}
theorem Nest.length {N : List Nat} {k : Nat} (h : Nest pairs core N k) : N.length = 2 * k + core.length := by
  induction h with
  | core => lia
  | wrap _ _ ih => simp [ih]; lia
theorem Al.cases_snoc {x y : Nat} {a b : List Nat} {n : Nat} (h : Al c (a ++ [x]) (b ++ [y]) n) : (∃ m, n = m + 2 ∧ Al c a (b ++ [y]) m) ∨ (∃ m, n = m + 2 ∧ Al c (a ++ [x]) b m) ∨ (∃ m, n = m + c x y ∧ Al c a b m) := by
  have h' := h.reverse
  simp only [List.reverse_append, List.reverse_cons, List.reverse_nil, List.nil_append, List.singleton_append] at h'
  rcases h'.cases_cons with ⟨m, e, q⟩ | ⟨m, e, q⟩ | ⟨m, e, q⟩
  · exact .inl ⟨m, e, by simpa using q.reverse⟩
  · exact .inr (.inl ⟨m, e, by simpa using q.reverse⟩)
  · exact .inr (.inr ⟨m, e, by simpa using q.reverse⟩)
/-- what is told of a stretch -/
structure Told (c : Nat → Nat → Nat) (pairs : List (Nat × Nat)) (core t : List Nat) (r : Res) : Prop where
  sound : ∀ N ∈ r.2, (∃ k, k ≤ 2 ∧ Nest pairs core N k) ∧ Al c t N r.1
  low : ∀ N k m, Nest pairs core N k → Al c t N m → r.1 ≤ m ∧ (m = r.1 → k ≤ 2 → N ∈ r.2)
/-- the ways meet every nest -/
theorem cover (hcore : core.length ≤ 1) {h l : Nat} {tl dl : List Nat} {one : Bool} {rb ra : Res} {ri : Option Res} (ht : h :: tl = dl ++ [l]) (hone : one = true ↔ tl = [])
    (Tb : Told c pairs core tl rb) (Ta : Told c pairs core dl ra) (Ti : ∀ tm, tl = tm ++ [l] → ∃ r, ri = some r ∧ Told c pairs core tm r)
    {N : List Nat} {k : Nat} (hN : Nest pairs core N k) : ∀ {m : Nat}, Al c (h :: tl) N m →
    ∃ w ∈ waysOf c pairs core one h l rb ra ri, w.1 ≤ m ∧ (w.1 = m → k ≤ 2 → ∃ N0 ∈ w.2.2.1, (w.2.1 = [] ∨ N0.length < 4) ∧ N = w.2.1 ++ N0 ++ w.2.2.2) := by
  have useB : ∀ {N k m m'}, Nest pairs core N k → Al c tl N m' → m' + 2 ≤ m → ∃ w ∈ waysOf c pairs core one h l rb ra ri, w.1 ≤ m ∧ (w.1 = m → k ≤ 2 → ∃ N0 ∈ w.2.2.1, (w.2.1 = [] ∨ N0.length < 4) ∧ N = w.2.1 ++ N0 ++ w.2.2.2) := by
    intro N k m m' hN ha hm
    obtain ⟨h1, h2⟩ := Tb.low N k m' hN ha
    refine ⟨(rb.1 + 2, [], rb.2, []), by simp [waysOf], by simp only; lia, fun e hk => ⟨N, h2 (by simp only at e; lia) hk, .inl rfl, by simp⟩⟩
  have useA : ∀ {N k m m'}, Nest pairs core N k → Al c dl N m' → m' + 2 ≤ m → ∃ w ∈ waysOf c pairs core one h l rb ra ri, w.1 ≤ m ∧ (w.1 = m → k ≤ 2 → ∃ N0 ∈ w.2.2.1, (w.2.1 = [] ∨ N0.length < 4) ∧ N = w.2.1 ++ N0 ++ w.2.2.2) := by
    intro N k m m' hN ha hm
    obtain ⟨h1, h2⟩ := Ta.low N k m' hN ha
    refine ⟨(ra.1 + 2, [], ra.2, []), by simp [waysOf], by simp only; lia, fun e hk => ⟨N, h2 (by simp only at e; lia) hk, .inl rfl, by simp⟩⟩
  have hdl : ∀ tm, tl = tm ++ [l] → dl = h :: tm := by
    intro tm e
    rw [e, ← List.cons_append] at ht
    exact (List.append_inj_left' ht rfl).symm
  induction hN with
  | core =>
    intro m ha
    have hcs : core = [] ∨ ∃ q, core = [q] := by
      rcases core with _ | ⟨q, _ | ⟨q', r⟩⟩
      · exact .inl rfl
      · exact .inr ⟨q, rfl⟩
      · simp at hcore
    rcases hcs with hcc | ⟨q, hcc⟩
    · rw [hcc] at ha
      cases ha with
      | del h2 => exact useB (.core) (by rw [hcc]; exact h2) (Nat.le_refl _)
    · rw [hcc] at ha
      rcases ha.cases_cons with ⟨m', rfl, h2⟩ | ⟨m', rfl, h2⟩ | ⟨m', rfl, h2⟩
      · exact useB (.core) (by rw [hcc]; exact h2) (Nat.le_refl _)
      · have h3 := h2.nil_right
        simp at h3
        have h4 : Al c tl core (2 * tl.length + 2) := by rw [hcc]; exact .ins (.all_del tl)
        exact useB (.core) h4 (by lia)
      · have h3 := h2.nil_right
        rcases List.eq_nil_or_concat tl with e | ⟨tm, z, e⟩
        · refine ⟨(c h q, [], [core], []), ?_, by simp only; lia, fun _ _ => ⟨core, by simp, .inl rfl, by simp [hcc]⟩⟩
          simp [waysOf, hone.mpr e, hcc]
        · have e' : tl = tm ++ [l] := by
            rw [e, List.concat_eq_append]
            rw [e, List.concat_eq_append, ← List.cons_append] at ht
            rw [(List.append_inj_right' ht rfl)]
          have hd := hdl tm e'
          have h4 : Al c dl core (2 * tm.length + c h q) := by rw [hd, hcc]; exact .sub (.all_del tm)
          refine useA (.core) h4 ?_
          rw [h3, e']
          simp
          lia
  | wrap hp hN0 ih =>
    rename_i N0 k0 p
    intro m ha
    have hW : Nest pairs core (p.1 :: N0 ++ [p.2]) (k0 + 1) := .wrap hp hN0
    have hlen := hN0.length
    have pairB : ∀ {m2}, Al c tl N0 m2 → m2 + c h p.1 + 2 ≤ m → ∃ w ∈ waysOf c pairs core one h l rb ra ri, w.1 ≤ m ∧ (w.1 = m → k0 + 1 ≤ 2 → ∃ N1 ∈ w.2.2.1, (w.2.1 = [] ∨ N1.length < 4) ∧ p.1 :: N0 ++ [p.2] = w.2.1 ++ N1 ++ w.2.2.2) := by
      intro m2 h2 hm
      obtain ⟨h3, h4⟩ := Tb.low N0 k0 m2 hN0 h2
      refine ⟨(rb.1 + c h p.1 + 2, [p.1], rb.2, [p.2]), ?_, by simp only; lia, fun e hk => ⟨N0, h4 (by simp only at e; lia) (by lia), .inr (by lia), by simp⟩⟩
      simp only [waysOf, List.mem_append, List.mem_flatMap]
      exact .inr ⟨p, hp, .inl (by simp)⟩
    have pairA : ∀ {m2}, Al c dl N0 m2 → m2 + 2 + c l p.2 ≤ m → ∃ w ∈ waysOf c pairs core one h l rb ra ri, w.1 ≤ m ∧ (w.1 = m → k0 + 1 ≤ 2 → ∃ N1 ∈ w.2.2.1, (w.2.1 = [] ∨ N1.length < 4) ∧ p.1 :: N0 ++ [p.2] = w.2.1 ++ N1 ++ w.2.2.2) := by
      intro m2 h2 hm
      obtain ⟨h3, h4⟩ := Ta.low N0 k0 m2 hN0 h2
      refine ⟨(ra.1 + 2 + c l p.2, [p.1], ra.2, [p.2]), ?_, by simp only; lia, fun e hk => ⟨N0, h4 (by simp only at e; lia) (by lia), .inr (by lia), by simp⟩⟩
      simp only [waysOf, List.mem_append, List.mem_flatMap]
      exact .inr ⟨p, hp, .inl (by simp)⟩
    rw [List.cons_append] at ha
    rcases ha.cases_cons with ⟨m', rfl, h2⟩ | ⟨m', rfl, h2⟩ | ⟨m', rfl, h2⟩
    · exact useB hW (by rw [List.cons_append]; exact h2) (Nat.le_refl _)
    · rw [ht] at h2
      rcases h2.cases_snoc with ⟨m2, rfl, h3⟩ | ⟨m2, rfl, h3⟩ | ⟨m2, rfl, h3⟩
      · exact useA hW (m' := m2 + 2) (by rw [List.cons_append]; exact .ins h3) (Nat.le_refl _)
      · rw [← ht] at h3
        obtain ⟨w, hw, h4, _⟩ := ih h3
        exact ⟨w, hw, by lia, fun e => absurd e (by lia)⟩
      · exact pairA h3 (by lia)
    · rcases List.eq_nil_or_concat tl with e | ⟨tm, z, e⟩
      · rw [e] at h2
        have h3 := h2.nil_left
        simp at h3
        have h4 : Al c tl N0 (2 * N0.length) := by rw [e]; exact .all_ins N0
        exact pairB h4 (by lia)
      · have e' : tl = tm ++ [l] := by
          rw [e, List.concat_eq_append]
          rw [e, List.concat_eq_append, ← List.cons_append] at ht
          rw [(List.append_inj_right' ht rfl)]
        have hd := hdl tm e'
        rw [e'] at h2
        rcases h2.cases_snoc with ⟨m2, rfl, h3⟩ | ⟨m2, rfl, h3⟩ | ⟨m2, rfl, h3⟩
        · refine useA hW (m' := m2 + c h p.1) ?_ (by lia)
          rw [hd, List.cons_append]
          exact .sub h3
        · exact pairB (by rw [e']; exact h3) (by lia)
        · obtain ⟨r, hr, Tr⟩ := Ti tm e'
          obtain ⟨h4, h5⟩ := Tr.low N0 k0 m2 hN0 h3
          refine ⟨(r.1 + c h p.1 + c l p.2, [p.1], r.2, [p.2]), ?_, by simp only; lia, fun e hk => ⟨N0, h5 (by simp only at e; lia) (by lia), .inr (by lia), by simp⟩⟩
          simp only [waysOf, List.mem_append, List.mem_flatMap]
          exact .inr ⟨p, hp, .inr (by rw [hr]; simp)⟩
/-- one stretch from the lesser ones -/
theorem told_step (hcore : core.length ≤ 1) {h l : Nat} {tl dl : List Nat} {one : Bool} {rb ra : Res} {ri : Option Res} (ht : h :: tl = dl ++ [l]) (hone : one = true ↔ tl = [])
    (Tb : Told c pairs core tl rb) (Ta : Told c pairs core dl ra) (Ti : ∀ tm, tl = tm ++ [l] → ∃ r, ri = some r ∧ Told c pairs core tm r) (hri : tl = [] → ri = none) :
    Told c pairs core (h :: tl) (leastOf (waysOf c pairs core one h l rb ra ri), nearOf (waysOf c pairs core one h l rb ra ri)) := by
  constructor
  · intro N' hN'
    obtain ⟨w, hw, hle, N, hN, hcond, rfl⟩ := mem_nearOf.mp hN'
    simp only
    rw [← hle]
    have wrapped : ∀ {p : Nat × Nat} {k : Nat}, p ∈ pairs → N.length < 4 → Nest pairs core N k → ∃ k, k ≤ 2 ∧ Nest pairs core ([p.1] ++ N ++ [p.2]) k := by
      intro p k hp h4 hn
      have := hn.length
      exact ⟨k + 1, by lia, by simpa using Nest.wrap hp hn⟩
    simp only [waysOf, List.mem_append, List.mem_flatMap, List.mem_cons, List.not_mem_nil, or_false] at hw
    rcases hw with ((rfl | rfl) | hw) | ⟨p, hp, (rfl | rfl) | hw⟩
    · obtain ⟨h1, h2⟩ := Tb.sound N hN
      exact ⟨by simpa using h1, by simpa using h2.del⟩
    · obtain ⟨h1, h2⟩ := Ta.sound N hN
      exact ⟨by simpa using h1, by rw [ht]; simpa using h2.append (.del (x := l) .nil)⟩
    · split at hw
      · rename_i ho
        obtain ⟨q, hq, rfl⟩ := List.mem_map.mp hw
        have e := hone.mp ho
        have hc1 : core = [q] := by
          cases hcc : core with
          | nil => rw [hcc] at hq; cases hq
          | cons a r =>
            rw [hcc] at hcore hq
            simp at hcore
            subst hcore
            rw [List.mem_singleton.mp hq]
        have hNc : N = core := by simpa using hN
        subst hNc
        refine ⟨⟨0, by lia, by simpa using Nest.core⟩, ?_⟩
        rw [e]
        simp only [List.nil_append, List.append_nil]
        rw [hc1]
        simpa using Al.sub (c := c) (x := h) (y := q) .nil
      · cases hw
    · obtain ⟨⟨k, _, h1⟩, h2⟩ := Tb.sound N hN
      refine ⟨wrapped hp (hcond.resolve_left (by simp)) h1, ?_⟩
      have := (h2.sub (x := h) (y := p.1)).append (.ins (y := p.2) .nil)
      simpa using this
    · obtain ⟨⟨k, _, h1⟩, h2⟩ := Ta.sound N hN
      refine ⟨wrapped hp (hcond.resolve_left (by simp)) h1, ?_⟩
      rw [ht]
      have := ((h2.append (.sub (x := l) (y := p.2) .nil))).ins (y := p.1)
      rw [show ra.1 + 2 + c l p.2 = ra.1 + (0 + c l p.2) + 2 by lia]
      simpa using this
    · rcases List.eq_nil_or_concat tl with e | ⟨tm, z, e⟩
      · rw [hri e] at hw; cases hw
      · have e' : tl = tm ++ [l] := by
          rw [e, List.concat_eq_append]
          rw [e, List.concat_eq_append, ← List.cons_append] at ht
          rw [(List.append_inj_right' ht rfl)]
        obtain ⟨r, hr, Tr⟩ := Ti tm e'
        rw [hr] at hw
        simp only [List.mem_cons, List.not_mem_nil, or_false] at hw
        subst hw
        obtain ⟨⟨k, _, h1⟩, h2⟩ := Tr.sound N hN
        refine ⟨wrapped hp (hcond.resolve_left (by simp)) h1, ?_⟩
        have := (h2.append (.sub (x := l) (y := p.2) .nil)).sub (x := h) (y := p.1)
        rw [e']
        simp only [List.cons_append, List.nil_append]
        rw [show r.1 + c h p.1 + c l p.2 = r.1 + (0 + c l p.2) + c h p.1 by lia]
        exact this
  · intro N k m hN ha
    obtain ⟨w, hw, h1, h2⟩ := cover hcore ht hone Tb Ta Ti hN ha
    have h3 := leastOf_le hw
    refine ⟨Nat.le_trans h3 h1, fun e hk => ?_⟩
    simp only at e h3
    obtain ⟨N0, h4, h5, h6⟩ := h2 (by lia) hk
    exact mem_nearOf.mpr ⟨w, hw, by lia, N0, h4, h5, h6⟩
theorem told_nil (c : Nat → Nat → Nat) : Told c pairs core [] (2 * core.length, [core]) := by
  constructor
  · intro N hN
    rw [List.mem_singleton.mp hN]
    exact ⟨⟨0, by lia, .core⟩, .all_ins core⟩
  · intro N k m hN ha
    have h1 := ha.nil_left
    have h2 := hN.length
    refine ⟨by simp only; lia, fun e hk => ?_⟩
    simp only at e
    cases hN with
    | core => simp
    | wrap _ _ => exfalso; lia
theorem told_tab (hcore : core.length ≤ 1) : ∀ n, (∀ t : List Nat, t.length = n → Told c pairs core t ((tab c pairs core n).1 t)) ∧ (∀ t : List Nat, t.length + 1 = n → Told c pairs core t ((tab c pairs core n).2 t)) := by
  intro n
  induction n with
  | zero =>
    refine ⟨fun t ht => ?_, fun t ht => absurd ht (by lia)⟩
    rw [List.eq_nil_of_length_eq_zero ht]
    exact told_nil c
  | succ n ih =>
    refine ⟨fun t ht => ?_, fun t ht => ih.1 t (by lia)⟩
    obtain ⟨h, tl, rfl⟩ : ∃ h tl, t = h :: tl := by
      cases t with
      | nil => simp at ht
      | cons h tl => exact ⟨h, tl, rfl⟩
    have hsplit : h :: tl = (h :: tl).dropLast ++ [(h :: tl).getLastD 0] := by
      have e := List.dropLast_concat_getLast (l := h :: tl) (by simp)
      rw [List.getLastD_eq_getLast?, List.getLast?_eq_some_getLast (by simp)]
      exact e.symm
    have hlen : tl.length = n := by simpa using ht
    show Told c pairs core (h :: tl) (leastOf (waysOf c pairs core (n == 0) h ((h :: tl).getLastD 0) ((tab c pairs core n).1 tl) ((tab c pairs core n).1 (h :: tl).dropLast) (if n = 0 then none else some ((tab c pairs core n).2 tl.dropLast))),
      nearOf (waysOf c pairs core (n == 0) h ((h :: tl).getLastD 0) ((tab c pairs core n).1 tl) ((tab c pairs core n).1 (h :: tl).dropLast) (if n = 0 then none else some ((tab c pairs core n).2 tl.dropLast))))
    refine told_step hcore hsplit ?_ (ih.1 _ hlen) (ih.1 _ (by simp [hlen])) ?_ ?_
    · rw [beq_iff_eq, ← hlen, List.length_eq_zero_iff]
    · intro tm e
      have hn : n ≠ 0 := by rw [← hlen, e]; simp
      rw [if_neg hn]
      refine ⟨_, rfl, ?_⟩
      have e2 : tl.dropLast = tm := by rw [e]; simp
      rw [e2]
      exact ih.2 tm (by rw [← hlen, e]; simp)
    · intro e
      rw [if_pos (by rw [← hlen, e]; rfl)]
theorem nodup_tab (n : Nat) (t : List Nat) : ((tab c pairs core n).1 t).2.Nodup := by
  cases n with
  | zero => simp [tab]
  | succ n => exact nodup_nearOf _
end
end Mine
end PartP3
section PartP6
namespace Mine
/-! the table's cells, plain -/
section
variable (c : Nat → Nat → Nat) (pairs : List (Nat × Nat)) (core letters : List Nat)
def cellG (k st : Nat) : Res := (tab c pairs core k).1 ((letters.drop st).take k)
theorem least_eq {ws : List Way} (h : ws ≠ []) {M : Int} (h1 : M ∈ ws.map (fun w => (w.1 : Int))) (h2 : ∀ a ∈ ws.map (fun w => (w.1 : Int)), M ≤ a) : M = (leastOf ws : Int) := by
  obtain ⟨w, hw, e⟩ := List.mem_map.mp h1
  have h3 := leastOf_le hw
  obtain ⟨v, hv, e2⟩ := leastOf_mem h
  have h4 := h2 _ (List.mem_map.mpr ⟨v, hv, rfl⟩)
  lia
theorem cell_step {i j : Nat} (hij : j + i < letters.length) : cellG c pairs core letters (i + 1) j =
    (leastOf (waysOf c pairs core (i == 0) (letters[j]'(by lia)) (letters[j + i]'hij) (cellG c pairs core letters i (j + 1)) (cellG c pairs core letters i j) (if i = 0 then none else some (cellG c pairs core letters (i - 1) (j + 1)))),
     nearOf (waysOf c pairs core (i == 0) (letters[j]'(by lia)) (letters[j + i]'hij) (cellG c pairs core letters i (j + 1)) (cellG c pairs core letters i j) (if i = 0 then none else some (cellG c pairs core letters (i - 1) (j + 1))))) := by
  have e1 : ((letters.drop j).take (i + 1)).headD 0 = letters[j]'(by lia) := by
    rw [List.drop_eq_getElem_cons (by lia)]
    rfl
  have e2 : ((letters.drop j).take (i + 1)).getLastD 0 = letters[j + i]'hij := by
    rw [List.getLastD_eq_getLast?, List.getLast?_eq_getElem?]
    have hl : ((letters.drop j).take (i + 1)).length = i + 1 := by simp; lia
    rw [hl, Nat.add_sub_cancel, List.getElem?_take_of_lt (by lia), List.getElem?_drop, List.getElem?_eq_getElem hij]
    rfl
  have e3 : ((letters.drop j).take (i + 1)).tail = (letters.drop (j + 1)).take i := by
    rw [List.drop_eq_getElem_cons (by lia)]
    rfl
  have dl : ∀ (l : List Nat) (k : Nat), k + 1 ≤ l.length → (l.take (k + 1)).dropLast = l.take k := by
    intro l k hk
    rw [List.dropLast_eq_take, List.length_take, List.take_take]
    congr 1
    lia
  have e4 : ((letters.drop j).take (i + 1)).dropLast = (letters.drop j).take i := dl _ _ (by simp; lia)
  show ((leastOf (waysOf c pairs core (i == 0) (((letters.drop j).take (i + 1)).headD 0) (((letters.drop j).take (i + 1)).getLastD 0) ((tab c pairs core i).1 ((letters.drop j).take (i + 1)).tail) ((tab c pairs core i).1 ((letters.drop j).take (i + 1)).dropLast) (if i = 0 then none else some ((tab c pairs core i).2 ((letters.drop j).take (i + 1)).tail.dropLast))),
    nearOf (waysOf c pairs core (i == 0) (((letters.drop j).take (i + 1)).headD 0) (((letters.drop j).take (i + 1)).getLastD 0) ((tab c pairs core i).1 ((letters.drop j).take (i + 1)).tail) ((tab c pairs core i).1 ((letters.drop j).take (i + 1)).dropLast) (if i = 0 then none else some ((tab c pairs core i).2 ((letters.drop j).take (i + 1)).tail.dropLast)))) : Res) = _
  rw [e1, e2, e3, e4]
  have e5 : (if i = 0 then none else some ((tab c pairs core i).2 ((letters.drop (j + 1)).take i).dropLast)) = (if i = 0 then none else some (cellG c pairs core letters (i - 1) (j + 1))) := by
    cases i with
    | zero => rfl
    | succ i =>
      rw [if_neg (by lia), if_neg (by lia), dl _ _ (by simp; lia)]
      rfl
  rw [e5]
  rfl
variable {c pairs core}
theorem addWay_len (near : List (List Nat)) (w : Way) : (addWay near w).length ≤ near.length + w.2.2.1.length := by
  unfold addWay
  generalize w.2.2.1 = ns
  induction ns generalizing near with
  | nil => simp
  | cons N ns ih =>
    rw [List.foldl_cons]
    refine Nat.le_trans (ih _) ?_
    split
    · split <;> simp only [List.length_append, List.length_cons, List.length_nil] <;> lia
    · simp only [List.length_cons]; lia
theorem foldWay_len {M : Nat} : ∀ (ws : List Way) (near : List (List Nat)), (∀ w ∈ ws, w.2.2.1.length ≤ M) → (ws.foldl addWay near).length ≤ near.length + ws.length * M
  | [], near, _ => by simp
  | w :: ws, near, h => by
    rw [List.foldl_cons]
    have h1 := foldWay_len ws (addWay near w) fun v hv => h v (.tail _ hv)
    have h2 := addWay_len near w
    have h3 := h w (.head _)
    rw [List.length_cons, Nat.succ_mul]
    lia
/-- the ways of a stretch: at most eight, their nests from the lesser ones -/
theorem waysOf_len (hp : pairs.length ≤ 2) (hc : core.length ≤ 1) {one : Bool} {h l : Nat} {rb ra : Res} {ri : Option Res} (ho : one = true → ri = none) : (waysOf c pairs core one h l rb ra ri).length ≤ 8 := by
  have e : ∀ (f : Nat × Nat → List Way) (q : Nat) (ps : List (Nat × Nat)), (∀ p, (f p).length ≤ q) → (ps.flatMap f).length ≤ ps.length * q := by
    intro f q ps hf
    induction ps with
    | nil => simp
    | cons p ps ih =>
      have := hf p
      rw [List.flatMap_cons, List.length_append, List.length_cons, Nat.succ_mul]
      lia
  unfold waysOf
  rw [List.length_append, List.length_append]
  cases one with
  | true =>
    rw [ho rfl]
    have h1 := e (fun p => [(rb.1 + c h p.1 + 2, [p.1], rb.2, [p.2]), (ra.1 + 2 + c l p.2, [p.1], ra.2, [p.2])] ++ []) 2 pairs (fun p => by simp)
    have h2 : pairs.length * 2 ≤ 4 := by lia
    refine Nat.le_trans (Nat.add_le_add (Nat.add_le_add (Nat.le_refl 2) (show (core.map _).length ≤ 1 by simpa using hc)) (Nat.le_trans h1 h2)) (by lia)
  | false =>
    cases ri with
    | none =>
      have h1 := e (fun p => [(rb.1 + c h p.1 + 2, [p.1], rb.2, [p.2]), (ra.1 + 2 + c l p.2, [p.1], ra.2, [p.2])] ++ []) 2 pairs (fun p => by simp)
      have h2 : pairs.length * 2 ≤ 4 := by lia
      refine Nat.le_trans (Nat.add_le_add (Nat.add_le_add (Nat.le_refl 2) (Nat.le_refl 0)) (Nat.le_trans h1 h2)) (by lia)
    | some r =>
      have h1 := e (fun p => [(rb.1 + c h p.1 + 2, [p.1], rb.2, [p.2]), (ra.1 + 2 + c l p.2, [p.1], ra.2, [p.2])] ++ [(r.1 + c h p.1 + c l p.2, [p.1], r.2, [p.2])]) 3 pairs (fun p => by simp)
      have h2 : pairs.length * 3 ≤ 6 := by lia
      refine Nat.le_trans (Nat.add_le_add (Nat.add_le_add (Nat.le_refl 2) (Nat.le_refl 0)) (Nat.le_trans h1 h2)) (by lia)
theorem waysOf_mem {one : Bool} {h l : Nat} {rb ra : Res} {ri : Option Res} {w : Way} (hw : w ∈ waysOf c pairs core one h l rb ra ri) : w.2.1.length ≤ 1 ∧ w.2.2.2.length ≤ 1 ∧ (w.2.2.1 = rb.2 ∨ w.2.2.1 = ra.2 ∨ w.2.2.1 = [core] ∨ ∃ r, ri = some r ∧ w.2.2.1 = r.2) := by
  simp only [waysOf, List.mem_append, List.mem_flatMap, List.mem_cons, List.not_mem_nil, or_false] at hw
  rcases hw with ((rfl | rfl) | hw) | ⟨p, hp, (rfl | rfl) | hw⟩
  · exact ⟨by simp, by simp, .inl rfl⟩
  · exact ⟨by simp, by simp, .inr (.inl rfl)⟩
  · split at hw
    · obtain ⟨q, hq, rfl⟩ := List.mem_map.mp hw
      exact ⟨by simp, by simp, .inr (.inr (.inl rfl))⟩
    · cases hw
  · exact ⟨by simp, by simp, .inl rfl⟩
  · exact ⟨by simp, by simp, .inr (.inl rfl)⟩
  · cases ri with
    | none => cases hw
    | some r =>
      rw [List.mem_singleton.mp hw]
      exact ⟨by simp, by simp, .inr (.inr (.inr ⟨r, rfl, rfl⟩))⟩
theorem near_len {M : Nat} (hM : 1 ≤ M) {one : Bool} {h l : Nat} {rb ra : Res} {ri : Option Res} (hb : rb.2.length ≤ M) (ha : ra.2.length ≤ M) (hi : ∀ r, ri = some r → r.2.length ≤ M) :
    ∀ w ∈ waysOf c pairs core one h l rb ra ri, w.2.2.1.length ≤ M := by
  intro w hw
  rcases (waysOf_mem hw).2.2 with e | e | e | ⟨r, e, e'⟩
  · rw [e]; exact hb
  · rw [e]; exact ha
  · rw [e]; exact hM
  · rw [e']; exact hi r e
theorem tab_len (hp : pairs.length ≤ 2) (hc : core.length ≤ 1) : ∀ n t, ((tab c pairs core n).1 t).2.length ≤ 8 ^ n ∧ ((tab c pairs core n).2 t).2.length ≤ 8 ^ n
  | 0, t => ⟨by simp [tab], by simp [tab]⟩
  | n + 1, t => by
    have ih := tab_len hp hc n
    refine ⟨?_, Nat.le_trans (ih t).1 (Nat.pow_le_pow_right (by lia) (by lia))⟩
    have h1 := near_len (c := c) (pairs := pairs) (core := core) (M := 8 ^ n) (Nat.one_le_pow n 8 (by lia)) (one := n == 0) (h := t.headD 0) (l := t.getLastD 0) (ih t.tail).1 (ih t.dropLast).1 (ri := if n = 0 then none else some ((tab c pairs core n).2 t.tail.dropLast)) (by
      intro r hr
      split at hr
      · cases hr
      · cases hr; exact (ih _).2)
    have h2 := waysOf_len (c := c) hp hc (one := n == 0) (h := t.headD 0) (l := t.getLastD 0) (rb := (tab c pairs core n).1 t.tail) (ra := (tab c pairs core n).1 t.dropLast) (ri := if n = 0 then none else some ((tab c pairs core n).2 t.tail.dropLast)) (by
      intro h
      rw [if_pos (by simpa using h)])
    show (nearOf (waysOf c pairs core (n == 0) (t.headD 0) (t.getLastD 0) ((tab c pairs core n).1 t.tail) ((tab c pairs core n).1 t.dropLast) (if n = 0 then none else some ((tab c pairs core n).2 t.tail.dropLast)))).length ≤ 8 ^ (n + 1)
    unfold nearOf
    have h3 := foldWay_len ((waysOf c pairs core (n == 0) (t.headD 0) (t.getLastD 0) ((tab c pairs core n).1 t.tail) ((tab c pairs core n).1 t.dropLast) (if n = 0 then none else some ((tab c pairs core n).2 t.tail.dropLast))).filter (fun w => w.1 = leastOf (waysOf c pairs core (n == 0) (t.headD 0) (t.getLastD 0) ((tab c pairs core n).1 t.tail) ((tab c pairs core n).1 t.dropLast) (if n = 0 then none else some ((tab c pairs core n).2 t.tail.dropLast))))) [] (M := 8 ^ n) (fun w hw => h1 w (List.mem_filter.mp hw).1)
    refine Nat.le_trans h3 ?_
    have h4 := Nat.le_trans (List.length_filter_le (fun w : Way => decide (w.1 = leastOf (waysOf c pairs core (n == 0) (t.headD 0) (t.getLastD 0) ((tab c pairs core n).1 t.tail) ((tab c pairs core n).1 t.dropLast) (if n = 0 then none else some ((tab c pairs core n).2 t.tail.dropLast))))) _) h2
    rw [List.length_nil, Nat.zero_add, Nat.pow_succ, Nat.mul_comm]
    exact Nat.mul_le_mul_left _ h4
theorem cell_small (hp : pairs.length ≤ 2) (hc : core.length ≤ 1) {k st : Nat} (hk : st + k ≤ letters.length) : (cellG c pairs core letters k st).2.length ≤ 8 ^ k ∧ ∀ N ∈ (cellG c pairs core letters k st).2, N.length ≤ 5 := by
  refine ⟨(tab_len hp hc k _).1, fun N hN => ?_⟩
  obtain ⟨⟨q, hq, hn⟩, _⟩ := ((told_tab (c := c) hc k).1 ((letters.drop st).take k) (by simp; lia)).sound N hN
  have := hn.length
  lia
end
end Mine
end PartP6
section PartP2
open PySem PyProof.Rows
namespace Mine
/-! texts as lists -/
def lst (x : Str) : List Nat := x.cps.toList
theorem lst_length (x : Str) : (lst x).length = x.length := by simp [lst, Str.length]
theorem lst_inj {x y : Str} (h : lst x = lst y) : x = y := by
  cases x; cases y; simp only [lst] at h; congr; exact Array.toList_inj.mp h
theorem lst_append (x y : Str) : lst (x ++ y) = lst x ++ lst y := by
  show (x.cps ++ y.cps).toList = _
  simp [lst]
theorem range_pick (l : List Nat) (i n : Nat) (h : i + n ≤ l.length) : ((List.range n).map (fun (k : Nat) => ((i : Int) + 1 * (k : Int)).toNat)).filterMap (fun k => l.toArray[k]?) = (l.drop i).take n := by
  induction n with
  | zero => simp
  | succ n ih =>
    rw [List.range_succ, List.map_append, List.filterMap_append, ih (by lia)]
    have e : ((i : Int) + 1 * (n : Int)).toNat = i + n := by lia
    have hl : i + n < l.length := by lia
    rw [List.take_succ_eq_append_getElem (by simp; lia)]
    rw [List.map_cons, List.map_nil, e]
    simp [hl]
theorem slice_any (x : Str) (l u : Option Int) (i j : Nat) (hij : i ≤ j) (hj : j ≤ x.length)
    (hl : (match l with | none => (0 : Int) | some a => max (0 : Int) (min (if a < 0 then a + (x.length : Int) else a) (x.length : Int))) = (i : Int)) (hu : (match u with | none => (x.length : Int) | some a => max (0 : Int) (min (if a < 0 then a + (x.length : Int) else a) (x.length : Int))) = (j : Int)) :
    lst (Txt.slice x l u) = ((lst x).drop i).take (j - i) := by
  have hs : Builtin.Str.strSliceIndices l u 1 x.length = (List.range (j - i)).map (fun (k : Nat) => ((i : Int) + 1 * (k : Int)).toNat) := by
    unfold Builtin.Str.strSliceIndices
    simp only [show (1 : Int) > 0 by decide, if_true]
    refine (congrArg (fun z => sliceRange z _ 1) ((?_ : _ = (i : Int)))).trans ((congrArg (fun z => sliceRange (i : Int) z 1) ((?_ : _ = (j : Int)))).trans ?_)
    · cases l <;> exact hl
    · cases u <;> exact hu
    unfold sliceRange
    simp only [show (1 : Int) > 0 by decide, if_true]
    congr 2
    by_cases h : (i : Int) < j
    · rw [if_pos h]; lia
    · rw [if_neg h]; lia
  unfold Txt.slice
  rw [hs]
  split
  · rename_i h
    simp at h
    have h1 : i = 0 := by lia
    have h2 : j = x.length := by lia
    subst h1
    rw [h2, Nat.sub_zero, List.drop_zero, List.take_of_length_le (by rw [lst_length]; exact Nat.le_refl _)]
  · have := range_pick (lst x) i (j - i) (by rw [lst_length]; lia)
    simpa [lst] using this
theorem slice_from (x : Str) (k : Nat) (hk : k ≤ x.length) : lst (Txt.slice x (some (k : Int)) none) = (lst x).drop k := by
  rw [slice_any x _ _ k x.length hk (Nat.le_refl _) (by dsimp only; lia) rfl]
  rw [List.take_of_length_le (by simp [lst_length])]
theorem slice_all (x : Str) : Txt.slice x none none = x := by
  apply lst_inj
  rw [slice_any x _ _ 0 x.length (Nat.zero_le _) (Nat.le_refl _) rfl rfl]
  rw [Nat.sub_zero, List.drop_zero, List.take_of_length_le (by rw [lst_length]; exact Nat.le_refl _)]
theorem slice_upto (x : Str) (k : Nat) (hk : k ≤ x.length) (h0 : 0 < k) : lst (Txt.slice x none (some (-(k : Int)))) = (lst x).take (x.length - k) := by
  rw [slice_any x _ _ 0 (x.length - k) (Nat.zero_le _) (by lia) rfl (by dsimp only; lia)]
  simp
theorem item_nat (x : Str) (k : Nat) (hk : k < x.length) : Txt.item x (k : Int) = ⟨#[(lst x)[k]'(by rw [lst_length]; exact hk)]⟩ := by
  have e : seqIndex? (k : Int) x.length = some k := by
    unfold seqIndex?
    have h1 : ¬ ((k : Int) < 0) := by lia
    simp only [h1, if_false]
    have h2 : (0 : Int) ≤ (k : Int) := by lia
    have h3 : (k : Int) < x.length := by lia
    simp [h3]
  have hk' : k < x.cps.size := hk
  simp only [Txt.item, Txt.charAt, e, Option.bind_some, lst]
  simp [hk']
theorem item_neg (x : Str) (k : Nat) (hk : k ≤ x.length) (h0 : 0 < k) : Txt.item x (-(k : Int)) = ⟨#[(lst x)[x.length - k]'(by rw [lst_length]; lia)]⟩ := by
  have e : seqIndex? (-(k : Int)) x.length = some (x.length - k) := by
    unfold seqIndex?
    have h1 : -(k : Int) < 0 := by lia
    simp only [h1, if_true]
    have h2 : (0 : Int) ≤ -(k : Int) + x.length := by lia
    have h3 : -(k : Int) + x.length < x.length := by lia
    simp [h2, h3]
    lia
  have hk' : x.length - k < x.cps.size := by show x.length - k < x.length; lia
  simp only [Txt.item, Txt.charAt, e, Option.bind_some, lst]
  simp [hk']
/-- the cost of two signs as the code reckons it -/
def cc (p q : Nat) : Nat := if p = q then 0 else if Txt.lower ⟨#[p]⟩ = Txt.lower ⟨#[q]⟩ then 1 else 2
theorem cc_cost : Cost cc := by
  refine ⟨fun x y => ?_, fun x => ?_, fun x y => ?_⟩
  · unfold cc; split <;> (try split) <;> lia
  · simp [cc]
  · by_cases h : x = y
    · simp [cc, h]
    · have h' : ¬ y = x := fun e => h e.symm
      by_cases h2 : Txt.lower ⟨#[x]⟩ = Txt.lower ⟨#[y]⟩
      · simp [cc, h, h', h2]
      · have h3 : ¬ Txt.lower ⟨#[y]⟩ = Txt.lower ⟨#[x]⟩ := fun e => h2 e.symm
        simp [cc, h, h', h2, h3]
end Mine
end PartP2
section PartP4
open PySem PyProof.Rows
namespace Mine
/-! the row of texts: put in, rising, each once -/
/-- rising, each once -/
def Srt (xs : List Str) : Prop := xs.Pairwise (fun a b => lst a < lst b)
def insS (x : Str) : List Str → List Str
  | [] => [x]
  | y :: r => if lst x < lst y then x :: y :: r else if x = y then y :: r else y :: insS x r
theorem lst_tri {x y : Str} (h1 : ¬ lst x < lst y) (h2 : x ≠ y) : lst y < lst x := by
  rcases List.le_iff_lt_or_eq.mp (List.not_lt.mp h1) with h | h
  · exact h
  · exact absurd (lst_inj h.symm) h2
theorem mem_insS {x z : Str} : ∀ {xs : List Str}, z ∈ insS x xs ↔ z = x ∨ z ∈ xs
  | [] => by simp [insS]
  | y :: r => by
    unfold insS
    split
    · simp
    · split
      · rename_i h
        subst h
        simp
      · simp only [List.mem_cons, mem_insS (xs := r)]
        constructor
        · rintro (h | h | h)
          · exact .inr (.inl h)
          · exact .inl h
          · exact .inr (.inr h)
        · rintro (h | h | h)
          · exact .inr (.inl h)
          · exact .inl h
          · exact .inr (.inr h)
theorem Srt.ins {x : Str} : ∀ {xs : List Str}, Srt xs → Srt (insS x xs)
  | [], _ => by simp [insS, Srt]
  | y :: r, h => by
    have h' := List.pairwise_cons.mp h
    unfold insS
    split
    · rename_i hlt
      refine List.pairwise_cons.mpr ⟨fun z hz => ?_, h⟩
      rcases List.mem_cons.mp hz with rfl | hz
      · exact hlt
      · exact List.lt_trans hlt (h'.1 z hz)
    · split
      · exact h
      · rename_i h1 h2
        refine List.pairwise_cons.mpr ⟨fun z hz => ?_, Srt.ins h'.2⟩
        rcases mem_insS.mp hz with rfl | hz
        · exact lst_tri h1 h2
        · exact h'.1 z hz
/-- the row by the place that bisect_left tells -/
theorem insS_at {x : Str} : ∀ {xs : List Str} {k : Nat}, Srt xs → k ≤ xs.length → (∀ (i : Nat) (y : Str), i < k → xs[i]? = some y → lst y < lst x) → (∀ (i : Nat) (y : Str), k ≤ i → xs[i]? = some y → ¬ lst y < lst x) →
    insS x xs = if xs[k]? = some x then xs else xs.take k ++ x :: xs.drop k
  | [], k, _, hk, _, _ => by simp at hk; subst hk; simp [insS]
  | y :: r, 0, h, _, _, h2 => by
    have h' := List.pairwise_cons.mp h
    have hy := h2 0 y (Nat.le_refl _) rfl
    unfold insS
    by_cases e : x = y
    · subst e
      simp [List.lt_irrefl]
    · have hlt : lst x < lst y := lst_tri hy (fun q => e q.symm)
      rw [if_pos hlt, if_neg (by simp; exact fun q => e q.symm)]
      rfl
  | y :: r, k + 1, h, hk, h1, h2 => by
    have h' := List.pairwise_cons.mp h
    have hy := h1 0 y (by lia) rfl
    have ih := insS_at (xs := r) (k := k) h'.2 (by simpa using hk) (fun i z hi hz => h1 (i + 1) z (by lia) (by simpa using hz)) (fun i z hi hz => h2 (i + 1) z (by lia) (by simpa using hz))
    have hn : ¬ lst x < lst y := fun q => List.lt_irrefl _ (List.lt_trans hy q)
    have hne : x ≠ y := by rintro rfl; exact List.lt_irrefl _ hy
    unfold insS
    rw [if_neg hn, if_neg hne, ih]
    by_cases e : r[k]? = some x <;> simp [e]
theorem Srt.get {xs : List Str} (h : Srt xs) {i j : Nat} {a b : Str} (hij : i < j) (ha : xs[i]? = some a) (hb : xs[j]? = some b) : lst a < lst b := by
  obtain ⟨hi, rfl⟩ := List.getElem?_eq_some_iff.mp ha
  obtain ⟨hj, rfl⟩ := List.getElem?_eq_some_iff.mp hb
  exact List.pairwise_iff_getElem.mp h i j hi hj hij
end Mine
end PartP4
section PartP5
open PySem PySem.W PyProof.Rows
namespace Mine
/-! the pile machine: the top stands first -/
abbrev Todo := List (Str × List Int)
/-- what a sign above 255 puts on the pile -/
def put (rules : List (List Int)) (told : Str) (pile : List Int) : Todo := (rules.filter (fun r => decide (r.length < 3) || decide (told.length < 2))).map (fun r => (told, pile ++ r))
/-- so many turns to the end; in each the sizes and signs are small -/
inductive Runs (rules : List (List Int)) : Nat → List Str → Todo → List Str → Prop
  | stop {row : List Str} : Srt row → Runs rules 0 row [] row
  | eof {n : Nat} {row fin : List Str} {todo : Todo} {told : Str} {pile : List Int} : Srt row → row.length ≤ 50 → todo.length ≤ 50 → told.length ≤ 50 → pile.length ≤ 50 → (told :: row).all PyData.strOk = true → Runs rules n (insS told row) todo fin → Runs rules (n + 1) row ((told, pile ++ [0]) :: todo) fin
  | nont {n : Nat} {row fin : List Str} {todo : Todo} {told : Str} {pile : List Int} {x : Int} : row.length ≤ 50 → todo.length ≤ 50 → told.length ≤ 50 → pile.length ≤ 50 → 256 ≤ x →
      Runs rules n row ((put rules told pile).reverse ++ todo) fin → Runs rules (n + 1) row ((told, pile ++ [x]) :: todo) fin
  | term {n : Nat} {row fin : List Str} {todo : Todo} {told : Str} {pile : List Int} {x : Int} : row.length ≤ 50 → todo.length ≤ 50 → told.length ≤ 50 → pile.length ≤ 50 → 0 < x → x < 256 →
      Runs rules n row ((told ++ ⟨#[x.toNat]⟩, pile) :: todo) fin → Runs rules (n + 1) row ((told, pile ++ [x]) :: todo) fin
end Mine
end PartP5
section PartP7
open PySem PySem.W PyProof.Rows
namespace Mine
/-! the pile machine writes all nests of at most two pairs -/
def putAll (ws : List Str) (row : List Str) : List Str := ws.foldl (fun r x => insS x r) row
theorem putAll_app (u v row : List Str) : putAll (u ++ v) row = putAll v (putAll u row) := by simp [putAll]
theorem insS_len (x : Str) : ∀ row : List Str, (insS x row).length ≤ row.length + 1
  | [] => by simp [insS]
  | y :: r => by
    have := insS_len x r
    unfold insS
    split
    · simp
    · split
      · simp
      · simp only [List.length_cons]; lia
theorem putAll_len : ∀ (ws row : List Str), (putAll ws row).length ≤ row.length + ws.length
  | [], row => by simp [putAll]
  | x :: ws, row => by
    have h1 := putAll_len ws (insS x row)
    have h2 := insS_len x row
    show (putAll ws (insS x row)).length ≤ _
    rw [List.length_cons]
    lia
theorem mem_putAll {z : Str} : ∀ {ws row : List Str}, z ∈ putAll ws row ↔ z ∈ ws ∨ z ∈ row
  | [], row => by simp [putAll]
  | x :: ws, row => by
    show z ∈ putAll ws (insS x row) ↔ _
    rw [mem_putAll, mem_insS, List.mem_cons]
    constructor
    · rintro (h | h | h)
      · exact .inl (.inr h)
      · exact .inl (.inl h)
      · exact .inr h
    · rintro ((h | h) | h)
      · exact .inr (.inl h)
      · exact .inl h
      · exact .inr (.inr h)
theorem srt_putAll : ∀ {ws row : List Str}, Srt row → Srt (putAll ws row)
  | [], _, h => h
  | x :: ws, row, h => srt_putAll (ws := ws) (row := insS x row) (Srt.ins h)
def Good (row : List Str) : Prop := Srt row ∧ row.all PyData.strOk = true
theorem good_putAll {ws row : List Str} (h : Good row) (hw : ws.all PyData.strOk = true) : Good (putAll ws row) := by
  refine ⟨srt_putAll h.1, List.all_eq_true.mpr fun x hx => ?_⟩
  rcases mem_putAll.mp hx with hx | hx
  · exact List.all_eq_true.mp hw x hx
  · exact List.all_eq_true.mp h.2 x hx
/-- an entry of the pile, worked off, puts these words into the row -/
def Adds (rules : List (List Int)) (d : Nat) (e : Str × List Int) (ws : List Str) : Prop :=
  ws.all PyData.strOk = true ∧ ∀ (row : List Str) (todo : Todo) (n : Nat) (fin : List Str), Good row → row.length + ws.length ≤ 50 → todo.length + d ≤ 50 → Runs rules n (putAll ws row) todo fin → ∃ n', Runs rules n' row (e :: todo) fin
theorem adds_eof {rules : List (List Int)} {d : Nat} {told : Str} (ht : told.length ≤ 50) (ho : PyData.strOk told = true) : Adds rules d (told, [0]) [told] := by
  refine ⟨by simp [ho], fun row todo n fin hg hr hd hrun => ⟨n + 1, ?_⟩⟩
  exact Runs.eof (pile := []) hg.1 (by simp at hr; lia) (by lia) ht (by simp) (by simp [ho, hg.2]) hrun
theorem adds_term {rules : List (List Int)} {d : Nat} {told : Str} {pile : List Int} {x : Int} {ws : List Str} (ht : told.length ≤ 50) (hp : pile.length ≤ 50) (h0 : 0 < x) (h1 : x < 256) (h : Adds rules d (told ++ ⟨#[x.toNat]⟩, pile) ws) : Adds rules d (told, pile ++ [x]) ws := by
  refine ⟨h.1, fun row todo n fin hg hr hd hrun => ?_⟩
  obtain ⟨n', hr'⟩ := h.2 row todo n fin hg hr hd hrun
  exact ⟨n' + 1, Runs.term (by lia) (by lia) ht hp h0 h1 hr'⟩
theorem adds_many {rules : List (List Int)} {d : Nat} : ∀ {es : List (Str × List Int)} {wss : List (List Str)}, es.length = wss.length → (∀ p ∈ es.zip wss, Adds rules (d + es.length) p.1 p.2) → wss.flatten.all PyData.strOk = true →
   ∀ (row : List Str) (todo : Todo) (n : Nat) (fin : List Str), Good row → row.length + wss.flatten.length ≤ 50 → todo.length + d + es.length + es.length ≤ 50 → Runs rules n (putAll wss.flatten row) todo fin → ∃ n', Runs rules n' row (es ++ todo) fin
  | [], [], _, _, _, row, todo, n, fin, hg, hr, hd, hrun => ⟨n, hrun⟩
  | e :: es, ws :: wss, hl, ha, ho, row, todo, n, fin, hg, hr, hd, hrun => by
    have h1 := ha (e, ws) (by simp)
    rw [List.flatten_cons] at ho hr hrun
    rw [List.all_append, Bool.and_eq_true] at ho
    rw [putAll_app] at hrun
    rw [List.length_append] at hr
    have hl2 := putAll_len ws row
    simp only [List.length_cons] at hd ha hl h1
    obtain ⟨n1, hr1⟩ := adds_many (d := d + 1) (es := es) (wss := wss) (by lia) (fun p hp => by
      have := ha p (by simp [hp])
      rwa [show d + 1 + es.length = d + (es.length + 1) by lia]) ho.2 (putAll ws row) todo n fin (good_putAll hg ho.1) (by lia) (by lia) hrun
    exact h1.2 row (es ++ todo) n1 fin hg (by lia) (by rw [List.length_append]; lia) hr1
theorem adds_nont {rules : List (List Int)} {d : Nat} {told : Str} {pile : List Int} {x : Int} {wss : List (List Str)} (ht : told.length ≤ 50) (hp : pile.length ≤ 50) (hx : 256 ≤ x) (hl : (put rules told pile).length = wss.length) (hk : (put rules told pile).length ≤ 3)
   (h : ∀ p ∈ (put rules told pile).reverse.zip wss, Adds rules (d + wss.length) p.1 p.2) (ho : wss.flatten.all PyData.strOk = true) : Adds rules (d + 6) (told, pile ++ [x]) wss.flatten := by
  refine ⟨ho, fun row todo n fin hg hr hd hrun => ?_⟩
  obtain ⟨n', hr'⟩ := adds_many (d := d) (es := (put rules told pile).reverse) (by rw [List.length_reverse]; exact hl) (fun p hp => by rw [List.length_reverse, hl]; exact h p hp) ho row todo n fin hg hr (by rw [List.length_reverse]; lia) hrun
  exact ⟨n' + 1, Runs.nont (by lia) (by lia) ht hp hx hr'⟩
theorem Adds.up {rules : List (List Int)} {d d' : Nat} {e : Str × List Int} {ws : List Str} (h : Adds rules d e ws) (hd : d ≤ d') : Adds rules d' e ws :=
  ⟨h.1, fun row todo n fin hg hr hd' hrun => h.2 row todo n fin hg hr (by lia) hrun⟩
def mkS (l : List Nat) : Str := ⟨l.toArray⟩
theorem lst_mkS (l : List Nat) : lst (mkS l) = l := by simp [lst, mkS]
theorem mkS_lst (x : Str) : mkS (lst x) = x := lst_inj (lst_mkS _)
theorem mkS_len (l : List Nat) : (mkS l).length = l.length := by rw [← lst_length, lst_mkS]
theorem mkS_snoc (l : List Nat) (x : Nat) : mkS l ++ ⟨#[((x : Nat) : Int).toNat]⟩ = mkS (l ++ [x]) := by
  apply lst_inj
  rw [lst_append, lst_mkS, lst_mkS]
  rfl
theorem mkS_ok {l : List Nat} (h : ∀ x ∈ l, x < 256) : PyData.strOk (mkS l) = true := by
  unfold PyData.strOk mkS
  simp only [Array.all_eq_true, decide_eq_true_eq]
  intro i hi
  have := h (l[i]'(by simpa using hi)) (List.getElem_mem _)
  simp
  lia
abbrev zInts (l : List Nat) : List Int := l.map fun (n : Nat) => (n : Int)
theorem adds_signs {rules : List (List Int)} {d : Nat} : ∀ (signs l : List Nat), (∀ x ∈ l ++ signs, x < 256) → (∀ x ∈ signs, 0 < x) → l.length + signs.length ≤ 20 → Adds rules d (mkS l, 0 :: zInts signs.reverse) [mkS (l ++ signs)]
  | [], l, hx, h0, hl => by
    rw [List.append_nil] at hx ⊢
    exact adds_eof (by rw [mkS_len]; simp at hl; lia) (mkS_ok hx)
  | x :: r, l, hx, h0, hl => by
    have ih := adds_signs (rules := rules) (d := d) r (l ++ [x]) (by simpa using hx) (fun y hy => h0 y (.tail _ hy)) (by simp at hl ⊢; lia)
    rw [← mkS_snoc] at ih
    have h1 := adds_term (pile := 0 :: zInts r.reverse) (x := (x : Int)) (by rw [mkS_len]; simp at hl; lia) (by simp at hl ⊢; lia) (by have := h0 x (.head _); lia) (by have := hx x (by simp); lia) ih
    have e : (0 : Int) :: zInts (x :: r).reverse = (0 :: zInts r.reverse) ++ [(x : Int)] := by simp [zInts]
    rw [e]
    rw [List.append_assoc] at h1
    exact h1
section
variable (a1 b1 a2 b2 : Nat) (core : List Nat)
abbrev rules7 : List (List Int) := [[(b1 : Int), 256, a1], [(b2 : Int), 256, a2], zInts core]
def wordsAt : Nat → List Nat → List Nat → List Str
  | 0, l, cl => [mkS (l ++ core ++ cl)]
  | k + 1, l, cl => [[mkS (l ++ core ++ cl)], wordsAt k (l ++ [a2]) (b2 :: cl), wordsAt k (l ++ [a1]) (b1 :: cl)].flatten
variable {a1 b1 a2 b2 core}
theorem core_rev (hc : core.length ≤ 1) : core.reverse = core := by
  rcases core with _ | ⟨q, _ | ⟨q', r⟩⟩
  · rfl
  · rfl
  · simp at hc
theorem adds_words (hc : core.length ≤ 1) (ha1 : a1 < 256) (hb1 : b1 < 256) (ha2 : a2 < 256) (hb2 : b2 < 256) (hcs : ∀ x ∈ core, x < 256) (pa1 : 0 < a1) (pb1 : 0 < b1) (pa2 : 0 < a2) (pb2 : 0 < b2) (pcs : ∀ x ∈ core, 0 < x) :
   ∀ (k : Nat) (l cl : List Nat), l.length + k = 2 → cl.length + k = 2 → (∀ x ∈ l ++ cl, x < 256) → (∀ x ∈ cl, 0 < x) → Adds (rules7 a1 b1 a2 b2 core) (6 + 3 * k) (mkS l, (0 :: zInts cl.reverse) ++ [256]) (wordsAt a1 b1 a2 b2 core k l cl)
  | 0, l, cl, hl, hcl, hx, h0 => by
    have hput : put (rules7 a1 b1 a2 b2 core) (mkS l) (0 :: zInts cl.reverse) = [(mkS l, 0 :: zInts (core ++ cl).reverse)] := by
      unfold put
      have e : (mkS l).length = 2 := by rw [mkS_len]; lia
      simp only [rules7, List.filter_cons, e, List.length_cons, List.length_nil, List.length_map]
      have hc3 : core.length < 3 := by lia
      simp [hc3, zInts, core_rev hc]
    have hs := adds_signs (rules := rules7 a1 b1 a2 b2 core) (d := 1) (core ++ cl) l (by intro x hx'; simp only [List.mem_append] at hx' hx; rcases hx' with h | h | h; exact hx x (.inl h); exact hcs x h; exact hx x (.inr h)) (by intro x hx'; rcases List.mem_append.mp hx' with h | h; exact pcs x h; exact h0 x h) (by simp; lia)
    have hn := adds_nont (rules := rules7 a1 b1 a2 b2 core) (d := 0) (told := mkS l) (pile := 0 :: zInts cl.reverse) (x := 256) (wss := [[mkS (l ++ (core ++ cl))]]) (by rw [mkS_len]; lia) (by simp; lia) (by lia) (by rw [hput]; rfl) (by rw [hput]; exact Nat.le_of_ble_eq_true rfl) (by rw [hput]; intro p hp; rw [List.mem_singleton.mp hp]; exact hs) (by simpa using hs.1)
    have e : wordsAt a1 b1 a2 b2 core 0 l cl = [[mkS (l ++ (core ++ cl))]].flatten := by simp [wordsAt]
    rw [e]
    exact hn
  | k + 1, l, cl, hl, hcl, hx, h0 => by
    have hput : put (rules7 a1 b1 a2 b2 core) (mkS l) (0 :: zInts cl.reverse) = [(mkS l, (0 :: zInts cl.reverse) ++ [(b1 : Int), 256, a1]), (mkS l, (0 :: zInts cl.reverse) ++ [(b2 : Int), 256, a2]), (mkS l, 0 :: zInts (core ++ cl).reverse)] := by
      unfold put
      have e : (mkS l).length < 2 := by rw [mkS_len]; lia
      have e2 : l.length < 2 := by lia
      simp [rules7, mkS_len, e2, zInts, core_rev hc]
    have hs := adds_signs (rules := rules7 a1 b1 a2 b2 core) (d := 6 + 3 * k) (core ++ cl) l (by intro x hx'; simp only [List.mem_append] at hx' hx; rcases hx' with h | h | h; exact hx x (.inl h); exact hcs x h; exact hx x (.inr h)) (by intro x hx'; rcases List.mem_append.mp hx' with h | h; exact pcs x h; exact h0 x h) (by simp; lia)
    have rule : ∀ (a b : Nat), a < 256 → b < 256 → 0 < a → 0 < b → Adds (rules7 a1 b1 a2 b2 core) (6 + 3 * k) (mkS l, (0 :: zInts cl.reverse) ++ [(b : Int), 256, a]) (wordsAt a1 b1 a2 b2 core k (l ++ [a]) (b :: cl)) := by
      intro a b ha hb pa pb
      have ih := adds_words hc ha1 hb1 ha2 hb2 hcs pa1 pb1 pa2 pb2 pcs k (l ++ [a]) (b :: cl) (by simp; lia) (by simp; lia) (by
        intro x hx'
        simp only [List.mem_append, List.mem_cons, List.not_mem_nil, or_false] at hx' hx
        rcases hx' with (h | h) | h | h
        · exact hx x (.inl h)
        · lia
        · lia
        · exact hx x (.inr h)) (by
        intro x hx'
        rcases List.mem_cons.mp hx' with h | h
        · lia
        · exact h0 x h)
      rw [← mkS_snoc] at ih
      have h1 := adds_term (x := (a : Int)) (by rw [mkS_len]; lia) (by simp; lia) (by lia) (by lia) ih
      have e : (0 :: zInts cl.reverse) ++ [(b : Int), 256, (a : Int)] = 0 :: zInts (b :: cl).reverse ++ [256] ++ [(a : Int)] := by simp [zInts]
      rw [e]
      exact h1
    have hr1 := rule a1 b1 ha1 hb1 pa1 pb1
    have hr2 := rule a2 b2 ha2 hb2 pa2 pb2
    have e : wordsAt a1 b1 a2 b2 core (k + 1) l cl = [[mkS (l ++ (core ++ cl))], wordsAt a1 b1 a2 b2 core k (l ++ [a2]) (b2 :: cl), wordsAt a1 b1 a2 b2 core k (l ++ [a1]) (b1 :: cl)].flatten := by simp [wordsAt]
    rw [e]
    have hn := adds_nont (rules := rules7 a1 b1 a2 b2 core) (d := 3 + 3 * k) (told := mkS l) (pile := 0 :: zInts cl.reverse) (x := 256) (wss := [[mkS (l ++ (core ++ cl))], wordsAt a1 b1 a2 b2 core k (l ++ [a2]) (b2 :: cl), wordsAt a1 b1 a2 b2 core k (l ++ [a1]) (b1 :: cl)]) (by rw [mkS_len]; lia) (by simp; lia) (by lia) (by rw [hput]; rfl) (by rw [hput]; exact Nat.le_refl 3) (by
        rw [hput]
        intro p hp
        simp only [List.reverse_cons, List.reverse_nil, List.nil_append, List.cons_append, List.zip_cons_cons, List.zip_nil_right, List.mem_cons, List.not_mem_nil, or_false] at hp
        rcases hp with rfl | rfl | rfl
        · exact hs.up (by simp; lia)
        · exact hr2.up (by simp; lia)
        · exact hr1.up (by simp; lia)) (by
        simp only [List.flatten_cons, List.flatten_nil, List.all_append, List.append_nil, Bool.and_eq_true]
        exact ⟨hs.1, hr2.1, hr1.1⟩)
    exact hn.up (by lia)
/-- the machine's run, and its row -/
theorem runs_words (hc : core.length ≤ 1) (ha1 : a1 < 256) (hb1 : b1 < 256) (ha2 : a2 < 256) (hb2 : b2 < 256) (hcs : ∀ x ∈ core, x < 256) (pa1 : 0 < a1) (pb1 : 0 < b1) (pa2 : 0 < a2) (pb2 : 0 < b2) (pcs : ∀ x ∈ core, 0 < x) :
   ∃ (n : Nat) (fin : List Str), Runs (rules7 a1 b1 a2 b2 core) n [] [(⟨#[]⟩, [0, 256])] fin ∧ Srt fin ∧ ∀ x, x ∈ fin ↔ x ∈ wordsAt a1 b1 a2 b2 core 2 [] [] := by
  have h := adds_words hc ha1 hb1 ha2 hb2 hcs pa1 pb1 pa2 pb2 pcs 2 [] [] rfl rfl (fun x hx => nomatch hx) (fun x hx => nomatch hx)
  have hlen : (wordsAt a1 b1 a2 b2 core 2 [] []).length = 7 := rfl
  have hg : Good [] := ⟨List.Pairwise.nil, rfl⟩
  obtain ⟨n, hr⟩ := h.2 [] [] 0 (putAll (wordsAt a1 b1 a2 b2 core 2 [] []) []) hg (by rw [hlen]; decide) (by decide) (.stop (srt_putAll List.Pairwise.nil))
  exact ⟨n, _, hr, srt_putAll List.Pairwise.nil, fun x => by rw [mem_putAll]; simp⟩
end
end Mine
end PartP7
section PartP8
open PySem PySem.W PyProof.Rows
namespace Mine
/-! layers and nests as the law builds them -/
abbrev wrapP (p : Nat × Nat) (N : List Nat) : List Nat := p.1 :: N ++ [p.2]
section
variable (pairs : List (Nat × Nat)) (core : List Nat)
def LW : Nat → List (List Nat)
  | 0 => [core]
  | i + 1 => pairs.flatMap fun p => (LW i).map (wrapP p)
def NW : Nat → List (List Nat)
  | 0 => [core]
  | i + 1 => NW i ++ LW pairs core (i + 1)
/-- i pairs worked off, and j of the layer under the next -/
def WW (lw : List (List Nat)) (i j : Nat) : List (List Nat) :=
  ((pairs.take i).flatMap fun p => lw.map (wrapP p)) ++ (match pairs[i]? with | some p => (lw.take j).map (wrapP p) | none => [])
variable {pairs core}
theorem WW_zero (lw : List (List Nat)) : WW pairs lw 0 0 = [] := by
  unfold WW
  cases pairs <;> simp
theorem WW_step {lw : List (List Nat)} {i n : Nat} (hi : i < pairs.length) (hn : n = lw.length) : WW pairs lw i n = WW pairs lw (i + 1) 0 := by
  unfold WW
  rw [List.getElem?_eq_getElem hi, List.take_succ_eq_append_getElem hi, List.flatMap_append]
  subst hn
  simp only [List.take_length, List.take_zero, List.map_nil]
  cases pairs[i + 1]? <;> simp
theorem WW_next {lw : List (List Nat)} {i j : Nat} {p : Nat × Nat} {N : List Nat} (hp : pairs[i]? = some p) (hN : lw[j]? = some N) : WW pairs lw i (j + 1) = WW pairs lw i j ++ [wrapP p N] := by
  unfold WW
  rw [hp]
  dsimp only
  obtain ⟨hj, rfl⟩ := List.getElem?_eq_some_iff.mp hN
  rw [List.take_succ_eq_append_getElem hj, List.map_append, ← List.append_assoc]
  rfl
theorem WW_end {i : Nat} : WW pairs (LW pairs core i) pairs.length 0 = LW pairs core (i + 1) := by
  unfold WW
  simp [LW]
theorem WW_len (lw : List (List Nat)) (hp : pairs.length ≤ 2) (hl : lw.length ≤ 4) (i j : Nat) : (WW pairs lw i j).length ≤ 12 := by
  unfold WW
  rw [List.length_append]
  have h1 : ((pairs.take i).flatMap fun p => lw.map (wrapP p)).length ≤ 8 := by
    have : (pairs.take i).length ≤ 2 := by rw [List.length_take]; lia
    rw [List.length_flatMap]
    simp only [List.length_map, List.map_const']
    rw [List.sum_replicate_nat]
    calc (pairs.take i).length * lw.length ≤ 2 * 4 := Nat.mul_le_mul this hl
      _ = 8 := rfl
  have h2 : (match pairs[i]? with | some p => (lw.take j).map (wrapP p) | none => []).length ≤ 4 := by
    cases pairs[i]? with
    | none => simp
    | some p => simp; lia
  lia
theorem LW_len (hp : pairs.length ≤ 2) : ∀ i, (LW pairs core i).length ≤ 2 ^ i
  | 0 => Nat.le_refl 1
  | i + 1 => by
    have ih := LW_len hp i
    simp only [LW, List.length_flatMap, List.length_map, List.map_const', List.sum_replicate_nat]
    calc pairs.length * (LW pairs core i).length ≤ 2 * 2 ^ i := Nat.mul_le_mul hp ih
      _ = 2 ^ (i + 1) := by rw [Nat.pow_succ, Nat.mul_comm]
theorem LW_pos (hp : 0 < pairs.length) : ∀ i, 0 < (LW pairs core i).length
  | 0 => Nat.succ_pos 0
  | i + 1 => by
    have ih := LW_pos hp i
    simp only [LW, List.length_flatMap, List.length_map, List.map_const', List.sum_replicate_nat]
    exact Nat.mul_pos hp ih
theorem LW_elt (hc : core.length ≤ 1) : ∀ i, ∀ N ∈ LW pairs core i, N.length ≤ 1 + 2 * i
  | 0, N, h => by rw [List.mem_singleton.mp h]; lia
  | i + 1, N, h => by
    simp only [LW, List.mem_flatMap, List.mem_map] at h
    obtain ⟨p, _, N', hN, rfl⟩ := h
    have := LW_elt hc i N' hN
    simp
    lia
theorem NW_len (hp : pairs.length ≤ 2) : ∀ i, (NW pairs core i).length ≤ 2 ^ (i + 1)
  | 0 => by simp [NW]
  | i + 1 => by
    have h1 := NW_len hp i
    have h2 := LW_len (core := core) hp (i + 1)
    simp only [NW, List.length_append]
    rw [Nat.pow_succ 2 (i + 1)]
    lia
theorem LW_nest : ∀ i N, N ∈ LW pairs core i ↔ Nest pairs core N i
  | 0, N => by
    constructor
    · intro h
      rw [List.mem_singleton.mp h]
      exact .core
    · intro h
      cases h
      exact .head _
  | i + 1, N => by
    simp only [LW, List.mem_flatMap, List.mem_map]
    constructor
    · rintro ⟨p, hp, N', hN, rfl⟩
      exact .wrap hp ((LW_nest i N').mp hN)
    · intro h
      cases h with
      | wrap hp hN => exact ⟨_, hp, _, (LW_nest i _).mpr hN, rfl⟩
theorem NW_nest : ∀ i N, N ∈ NW pairs core i ↔ ∃ k, k ≤ i ∧ Nest pairs core N k
  | 0, N => by
    constructor
    · intro h
      rw [List.mem_singleton.mp h]
      exact ⟨0, Nat.le_refl _, .core⟩
    · rintro ⟨k, hk, h⟩
      obtain rfl : k = 0 := by lia
      cases h
      exact .head _
  | i + 1, N => by
    rw [NW, List.mem_append, NW_nest i N, LW_nest (i + 1) N]
    constructor
    · rintro (⟨k, hk, h⟩ | h)
      · exact ⟨k, by lia, h⟩
      · exact ⟨_, Nat.le_refl _, h⟩
    · rintro ⟨k, hk, h⟩
      by_cases e : k = i + 1
      · exact .inr (e ▸ h)
      · exact .inl ⟨k, by lia, h⟩
end
theorem words_NW (a1 b1 a2 b2 : Nat) (core : List Nat) (x : Str) : x ∈ wordsAt a1 b1 a2 b2 core 2 [] [] ↔ lst x ∈ NW [(a1, b1), (a2, b2)] core 2 := by
  have key : ∀ l : List Nat, x = mkS l ↔ lst x = l := fun l => ⟨fun h => by rw [h, lst_mkS], fun h => by rw [← h, mkS_lst]⟩
  simp [wordsAt, NW, LW, wrapP, key]
  grind
end Mine
end PartP8
open PySem PySem.W PyProof.Rows
set_option maxRecDepth 100000
set_option maxHeartbeats 8000000
namespace Mine
-- Hd
/-! the head by hand: the view of the text, the part of the heap that the walk reads (a def's object takes its code from the text itself), and the two looks that the kernel takes at once -/
abbrev txt : List Stmt := PySem.Challenge.rw_rl0037_01.prog.main.body
noncomputable def vw : Program := PySem.W.view PySem.Challenge.rw_rl0037_01.prog [1, 2, 3, 4, 5, 9, 10, 11, 12, 13, 15, 16, 17, 18]
abbrev defAt {n : Str} {ps : Arguments} {b : List Stmt} {ds : List PySem.Expr} {r : Option PySem.Expr} {tp : List TypeParam} {sc : Scope} {os : Option Scope} {q : Str} {po : Pos} (i : Nat) (md : String) (mt : Tok) (c : Addr) (df kd : Value)
    (h : txt[i]? = some (.FunctionDef n ps b ds r tp sc os q po)) : Obj :=
  { cls := .type "function", data := .func { name := n, qualname := n, params := ps, body := .stmts b, scope := sc, globals := 3, closure := [], defaults := df, kwdefaults := kd, pyModule := .str (Str.ofString md) mt, code := .ref c } }
abbrev nameAt (P : Params) (k : String) (t : Tok) (v : Value) : DictEntry := { hash := PyData.keyHash P (Str.ofString k), key := .str (Str.ofString k) t, val := v }
abbrev codeAt (n : String) (t1 t2 t3 : Tok) (ln ac kw : Int) (a b : Addr) (u v : Value) (e : Addr) (k : Int) (t4 : Tok) : Obj :=
  { cls := .type "code", data := .fields #[.str (Str.ofString n) t1, .str (Str.ofString n) t2, .str (Str.ofString "/claim/cut.py") t3, .int ln 0, .int ac 0, .int 0 0, .int kw 0, .int 3 0, .ref a, .bool true, .int 181 0, .ref b, .none, u, v, .ref e, .int k 0, .int ln 0, .str (Str.ofString "/claim/cut.py") t4] }
noncomputable def frag : Params → Frag := fun P =>
  [(nat_lit 2, { cls := .none, data := .dict #[] }),
   (nat_lit 3, { cls := .type "dict", data := .dict #[nameAt P "__name__" 165 (.str (Str.ofString "law_rl0037_01") 266), nameAt P "__doc__" 166 .none, nameAt P "__package__" 167 .none, nameAt P "__loader__" 168 (.builtin "__main__.__loader__#opaque"),
      nameAt P "__spec__" 169 .none, nameAt P "__annotations__" 170 (.ref 6), nameAt P "__builtins__" 171 (.ref 4), nameAt P "__file__" 173 (.str (Str.ofString "/claim/cut.py") 172), nameAt P "__cached__" 174 .none,
      nameAt P "_MAX_STRING_SIZE" 190 (.int 40 189), nameAt P "_MOVE_COST" 192 (.int 2 191), nameAt P "_CASE_COST" 194 (.int 1 193), nameAt P "_substitution_cost" 202 (.ref 21), nameAt P "_levenshtein_distance" 222 (.ref 28),
      nameAt P "bisect_left" 238 (.ref 37), nameAt P "ENDMARKER" 242 (.int 0 241), nameAt P "NT_OFFSET" 244 (.int 256 243), nameAt P "ISTERMINAL" 251 (.ref 44), nameAt P "ISNONTERMINAL" 258 (.ref 51), nameAt P "ISEOF" 265 (.ref 58),
      nameAt P "_law_written" 281 (.ref 65), nameAt P "_law_cost" 289 (.ref 72), nameAt P "_law_nearest" 295 (.ref 77), nameAt P "law" 301 (.ref 82)] 24 }),
   (nat_lit 20, codeAt "_substitution_cost" 195 196 197 5 2 0 15 16 (.ref 17) (.ref 18) 19 200 201),
   (nat_lit 21, defAt 4 "cpy313.traceback" 187 20 .none .none rfl),
   (nat_lit 27, codeAt "_levenshtein_distance" 203 204 205 11 3 0 22 23 (.ref 24) (.ref 25) 26 220 221),
   (nat_lit 28, defAt 5 "cpy313.traceback" 187 27 .none .none rfl),
   (nat_lit 29, { cls := .type "tuple", data := .seq #[.int 0 225, .none] }),
   (nat_lit 30, { cls := .type "dict", data := .dict #[nameAt P "key" 226 .none] 1 }),
   (nat_lit 36, codeAt "bisect_left" 227 228 229 50 4 1 31 32 (.ref 33) (.ref 34) 35 236 237),
   (nat_lit 37, defAt 7 "cpy313.bisect" 223 36 (.ref 29) (.ref 30) rfl),
   (nat_lit 43, codeAt "ISTERMINAL" 245 246 247 73 1 0 38 39 (.ref 40) (.ref 41) 42 249 250),
   (nat_lit 44, defAt 11 "cpy313.token" 239 43 .none .none rfl),
   (nat_lit 50, codeAt "ISNONTERMINAL" 252 253 254 75 1 0 45 46 (.ref 47) (.ref 48) 49 256 257),
   (nat_lit 51, defAt 12 "cpy313.token" 239 50 .none .none rfl),
   (nat_lit 57, codeAt "ISEOF" 259 260 261 77 1 0 52 53 (.ref 54) (.ref 55) 56 263 264),
   (nat_lit 58, defAt 13 "cpy313.token" 239 57 .none .none rfl),
   (nat_lit 64, codeAt "_law_written" 268 269 270 80 1 0 59 60 (.ref 61) (.ref 62) 63 279 280),
   (nat_lit 65, defAt 15 "law_rl0037_01" 266 64 .none .none rfl),
   (nat_lit 71, codeAt "_law_cost" 282 283 284 97 2 0 66 67 (.ref 68) (.ref 69) 70 287 288),
   (nat_lit 72, defAt 16 "law_rl0037_01" 266 71 .none .none rfl),
   (nat_lit 76, codeAt "_law_nearest" 290 291 292 103 3 0 73 74 .none .none 75 293 294),
   (nat_lit 77, defAt 17 "law_rl0037_01" 266 76 .none .none rfl),
   (nat_lit 81, codeAt "law" 296 297 298 135 1 0 78 79 .none .none 80 299 300),
   (nat_lit 82, defAt 18 "law_rl0037_01" 266 81 .none .none rfl)]
noncomputable def hook : Hook := kHook frag [2, 3, 20, 21, 27, 28, 29, 30, 36, 37, 43, 44, 50, 51, 57, 58, 64, 65, 71, 72, 76, 77, 81, 82] (fun _ => by kernel_rfl)
theorem said : OpenLaw.wellSaid PySem.Challenge.rw_rl0037_01 = true := by decide +kernel
theorem left : LeftO PySem.Challenge.rw_rl0037_01.row.toRowW.prog vw [Str.ofString "bisect_left"] (fun s => xlAt vw [] s && recOk (RowW.records PySem.Challenge.rw_rl0037_01.row.toRowW) s) hook.obs hook.val 924 := fun w => by kernel_rfl
-- W0
/-! the frame: contracts of calls, loops by what holds of them -/
theorem stopW {M : Model} {A : Around} {E : Value → Shared → Prop} {s : Shared} {Q : Flow → Shared → Prop} {t : Expr} {b o : List Stmt} {p : Pos} {env : Env}
  (h : wpAny M A (exec (.While t b o p) env) Q E s) : wpAny M A (exec (.While t b o p) env) Q E s := h
theorem stopF {M : Model} {A : Around} {E : Value → Shared → Prop} {s : Shared} {Q : Flow → Shared → Prop} {t i : Expr} {b o : List Stmt} {p : Pos} {env : Env}
  (h : wpAny M A (exec (.For t i b o p) env) Q E s) : wpAny M A (exec (.For t i b o p) env) Q E s := h

theorem execs_cons_gen {M : Model} {A : Around} {E : Value → Shared → Prop} {Q : Flow → Shared → Prop} {st : Stmt} {rest : List Stmt} {env : Env} {hp : Heap} {gens : Array GenState} {dr : Drawn} {tk : Nat} {os : OsState}
  (h : ∀ tk, wpAny M A (exec st env) (fun f s' => match f with | .next => wpAny M A (execs rest env) Q E s' | f => Q f s') E ⟨hp, gens, dr, tk, os⟩) : wpAny M A (execs (st :: rest) env) Q E ⟨hp, gens, dr, tk, os⟩ := wpAny_execs_cons (h tk)
theorem execs_nil_gen {M : Model} {A : Around} {E : Value → Shared → Prop} {Q : Flow → Shared → Prop} {env : Env} {hp : Heap} {gens : Array GenState} {dr : Drawn} {tk : Nat} {os : OsState}
  (h : ∀ tk, Q .next ⟨hp, gens, dr, tk, os⟩) : wpAny M A (execs [] env) Q E ⟨hp, gens, dr, tk, os⟩ := wpAny_execs_nil (h tk)
theorem stopI {M : Model} {A : Around} {E : Value → Shared → Prop} {s : Shared} {x : Value} {t : Expr} {b : List Stmt} {env : Env} {R : Result → Shared → Prop}
  (h : wpAny M A (pyIter x) (fun it s₂ => codeAny M A (.forLoop t it b [] env) R s₂) E s) : wpAny M A (pyIter x) (fun it s₂ => codeAny M A (.forLoop t it b [] env) R s₂) E s := h
def Agree (m : Str → Option Value) (bs : List (Str × Value)) : Prop := ∀ p ∈ bs, m p.1 = some p.2
theorem Agree.fr {h₀ h : Heap} {L : Addr} {m : Str → Option Value} {bs : List (Str × Value)} (F : Fr h₀ L h m) (A : Agree m bs) : Fr h₀ L h (kstB m bs) := by
  have e : kstB m bs = m := by
    funext y
    exact kstB_eq A fun _ => rfl
  rw [e]; exact F
theorem Agree.nil {m : Str → Option Value} : Agree m [] := fun _ h => nomatch h
theorem Agree.cons {m : Str → Option Value} {x : Str} {v : Value} {bs : List (Str × Value)} (h : m x = some v) (r : Agree m bs) : Agree m ((x, v) :: bs) := List.forall_mem_cons.mpr ⟨h, r⟩

/-- where a piece of code ends: frame, ledger, and what is said of both -/
def EndL (h₀ : Heap) (L : Addr) (s : Shared) (J : (Str → Option Value) → List (Addr × Obj) → Prop) (s₂ : Shared) : Prop :=
  ∃ h' tk m' nx', s₂ = { s with heap := h', toks := tk } ∧ Fr h₀ L h' m' ∧ News h₀ L h' nx' ∧ J m' nx'
theorem EndL.intro {h₀ h' : Heap} {L : Addr} {s : Shared} {J : (Str → Option Value) → List (Addr × Obj) → Prop} {tk : Nat} {m' : Str → Option Value} {nx' : List (Addr × Obj)}
  (F : Fr h₀ L h' m') (N : News h₀ L h' nx') (hJ : J m' nx') : EndL h₀ L s J { s with heap := h', toks := tk } := ⟨h', tk, m', nx', rfl, F, N, hJ⟩
theorem stopE {h₀ : Heap} {L : Addr} {s s₂ : Shared} {J : (Str → Option Value) → List (Addr × Obj) → Prop} (h : EndL h₀ L s J s₂) : EndL h₀ L s J s₂ := h
theorem News.sub {h₀ h : Heap} {L : Addr} {nx nx' : List (Addr × Obj)} (N : News h₀ L h nx) (hs : ∀ p ∈ nx', p ∈ nx) : News h₀ L h nx' := fun p hp => N p (hs p hp)

section
variable {prog : Program} {w : World} {A : Around} {E : Value → Shared → Prop} {s : Shared} {env : Env} {h₀ : Heap} {L : Addr} {Q : Flow → Shared → Prop}

theorem execs_app {pre rest : List Stmt} (h : wpAny (model prog w) A (execs pre env) (fun f s' => match f with | .next => wpAny (model prog w) A (execs rest env) Q E s' | f => Q f s') E s) :
    wpAny (model prog w) A (execs (pre ++ rest) env) Q E s := by
  intro Γ p hΓ
  have h' := h Γ p hΓ
  clear h
  induction pre generalizing p s with
  | nil =>
    have h2 : wpAny (model prog w) A (execs rest env) Q E s := h'
    exact h2 Γ p hΓ
  | cons st pre ih =>
    rw [execs_cons, Sem.wp_bind'] at h'
    rw [List.cons_append, execs_cons, Sem.wp_bind']
    refine Sem.wp_mono _ Γ _ (fun f p' s' h2 => ?_) (fun _ _ _ h2 => h2) _ _ h'
    cases f with
    | next => exact ih _ h2
    | brk => exact h2
    | cont => exact h2
    | ret v => exact h2
/-- some statements by what holds behind them -/
theorem cutN {pre rest : List Stmt} (D : (Str → Option Value) → List (Addr × Obj) → Prop)
    (h : wpAny (model prog w) A (execs pre env) (fun f s' => match f with | .next => EndL h₀ L s D s' | f => Q f s') E s)
    (k : ∀ h tk m nx, Fr h₀ L h m → News h₀ L h nx → D m nx → wpAny (model prog w) A (execs rest env) Q E { s with heap := h, toks := tk }) :
    wpAny (model prog w) A (execs (pre ++ rest) env) Q E s := by
  refine execs_app (wpAny_mono h (fun f s' q => ?_) fun _ _ x => x)
  cases f with
  | next =>
    obtain ⟨h', tk, m', nx', rfl, F', N', d⟩ := q
    exact k h' tk m' nx' F' N' d
  | brk => exact q
  | cont => exact q
  | ret v => exact q
theorem cut1 {a : Stmt} {rest : List Stmt} (D : (Str → Option Value) → List (Addr × Obj) → Prop)
    (h : wpAny (model prog w) A (execs [a] env) (fun f s' => match f with | .next => EndL h₀ L s D s' | f => Q f s') E s)
    (k : ∀ h tk m nx, Fr h₀ L h m → News h₀ L h nx → D m nx → wpAny (model prog w) A (execs rest env) Q E { s with heap := h, toks := tk }) :
    wpAny (model prog w) A (execs (a :: rest) env) Q E s := cutN (pre := [a]) D h k
theorem cut2 {a b : Stmt} {rest : List Stmt} (D : (Str → Option Value) → List (Addr × Obj) → Prop)
    (h : wpAny (model prog w) A (execs [a, b] env) (fun f s' => match f with | .next => EndL h₀ L s D s' | f => Q f s') E s)
    (k : ∀ h tk m nx, Fr h₀ L h m → News h₀ L h nx → D m nx → wpAny (model prog w) A (execs rest env) Q E { s with heap := h, toks := tk }) :
    wpAny (model prog w) A (execs (a :: b :: rest) env) Q E s := cutN (pre := [a, b]) D h k
theorem cut3 {a b c : Stmt} {rest : List Stmt} (D : (Str → Option Value) → List (Addr × Obj) → Prop)
    (h : wpAny (model prog w) A (execs [a, b, c] env) (fun f s' => match f with | .next => EndL h₀ L s D s' | f => Q f s') E s)
    (k : ∀ h tk m nx, Fr h₀ L h m → News h₀ L h nx → D m nx → wpAny (model prog w) A (execs rest env) Q E { s with heap := h, toks := tk }) :
    wpAny (model prog w) A (execs (a :: b :: c :: rest) env) Q E s := cutN (pre := [a, b, c]) D h k

def WTurn (h₀ : Heap) (L : Addr) (s : Shared) (J : Nat → (Str → Option Value) → List (Addr × Obj) → Prop) (Q : Flow → Shared → Prop) (n : Nat) (f : Flow) (s₃ : Shared) : Prop :=
  match f with
  | .ret v => Q (.ret v) s₃
  | .brk => Q .next s₃
  | _ => EndL h₀ L s (fun m nx => ∃ k, k < n ∧ J k m nx) s₃

theorem stopT {s₃ : Shared} {J : Nat → (Str → Option Value) → List (Addr × Obj) → Prop} {n : Nat} {f : Flow} (h : WTurn h₀ L s J Q n f s₃) : WTurn h₀ L s J Q n f s₃ := h
theorem while_led {test : Expr} {body : List Stmt} {pos : Pos} {m : Str → Option Value} {news : List (Addr × Obj)} (J : Nat → (Str → Option Value) → List (Addr × Obj) → Prop)
    (D : (Str → Option Value) → List (Addr × Obj) → Prop) (n₀ : Nat) (F : Fr h₀ L s.heap m) (N : News h₀ L s.heap news) (hJ : J n₀ m news)
    (turn : ∀ n m₁ news₁ h₁ tk₁, Fr h₀ L h₁ m₁ → News h₀ L h₁ news₁ → J n m₁ news₁ →
      wpAny (model prog w) A (isTrue test env (eval test env)) (fun b s₂ =>
        if b = true then wpAny (model prog w) A (execs body env) (WTurn h₀ L s J Q n) E s₂ else EndL h₀ L s D s₂) E { s with heap := h₁, toks := tk₁ })
    (done : ∀ h tk m₁ nx, Fr h₀ L h m₁ → News h₀ L h nx → D m₁ nx → Q .next { s with heap := h, toks := tk })
    (hE : PassesOwn (model prog w) A env E := by passes_own) :
    wpAny (model prog w) A (exec (.While test body [] pos) env) Q E s := by
  refine While_inv2 J F N hJ (fun n m₁ nx h tk F₁ N₁ J₁ => ?_) hE
  refine wpAny_mono (turn n m₁ nx h tk F₁ N₁ J₁) (fun b s₂ p => ?_) fun _ _ x => x
  cases b with
  | false =>
    simp only [Bool.false_eq_true, if_false] at p ⊢
    obtain ⟨h', tk', m', nx', rfl, F', N', d⟩ := p
    exact done h' tk' m' nx' F' N' d
  | true =>
    simp only [if_true] at p ⊢
    refine wpAny_mono p (fun f s₃ q => ?_) fun _ _ x => x
    cases f with
    | ret v => exact q
    | brk => exact q
    | next =>
      obtain ⟨h', tk', m', nx', rfl, F', N', k, hk, d⟩ := q
      exact ⟨h', tk', m', nx', k, rfl, F', N', hk, d⟩
    | cont =>
      obtain ⟨h', tk', m', nx', rfl, F', N', k, hk, d⟩ := q
      exact ⟨h', tk', m', nx', k, rfl, F', N', hk, d⟩

def FTurn (h₀ : Heap) (L : Addr) (s : Shared) (J : (Str → Option Value) → List (Addr × Obj) → Prop) (I : Addr) (io : Obj) (Q : Flow → Shared → Prop) (f : Flow) (s₃ : Shared) : Prop :=
  match f with
  | .ret v => Q (.ret v) s₃
  | .brk => Q .next s₃
  | _ => EndL h₀ L s (fun m nx => ∃ nx₂, nx = (I, io) :: nx₂ ∧ (∀ p ∈ nx₂, p.1 ≠ I) ∧ J m nx₂) s₃

theorem stopR {s₃ : Shared} {J : (Str → Option Value) → List (Addr × Obj) → Prop} {I : Addr} {io : Obj} {f : Flow} (h : FTurn h₀ L s J I io Q f s₃) : FTurn h₀ L s J I io Q f s₃ := h
/-- the loop behind its iterator -/
theorem for_core {target : Expr} {body : List Stmt} {I : Addr} {fp : List Addr} {n : Nat} {P : Nat → Value → Prop} {St : Nat → Heap → Prop} {m : Str → Option Value} {nx : List (Addr × Obj)} {io₀ : Obj}
    (J : Nat → (Str → Option Value) → List (Addr × Obj) → Prop) (W : Walks prog w A I fp [I] n P St)
    (hgo : ∀ i v (s : Shared) (Q : Unit → Shared → Prop), P i v → St (i + 1) s.heap → Q () s → wpAny (model prog w) A (letOwnedTupleGo target (.ref I) v) Q (fun _ _ => False) s)
    (hsee : ∀ b ∈ fp, b ≠ I → ∃ o, ∀ i m₁ nx₁ h, J i m₁ nx₁ → Fr h₀ L h m₁ → News h₀ L h nx₁ → h.get? b = some o)
    (hIL : I ≠ L) (hIh : h₀.get? I = none)
    (F : Fr h₀ L s.heap m) (N : News h₀ L s.heap nx) (hI : ∀ p ∈ nx, p.1 ≠ I) (hj : J 0 m nx) (hst : St 0 s.heap) (hio : s.heap.get? I = some io₀)
    (turn : ∀ i v m₁ nx₁ h tk io, i < n → P i v → J i m₁ nx₁ → (∀ p ∈ nx₁, p.1 ≠ I) → Fr h₀ L h m₁ → News h₀ L h ((I, io) :: nx₁) →
      wpAny (model prog w) A (assign target env v) (fun _ s₂ => wpAny (model prog w) A (execs body env) (FTurn h₀ L s (J (i + 1)) I io Q) (fun _ _ => False) s₂) (fun _ _ => False) { s with heap := h, toks := tk })
    (done : ∀ m₁ nx₁ h tk, J n m₁ nx₁ → Fr h₀ L h m₁ → News h₀ L h nx₁ → Q .next { s with heap := h, toks := tk })
    (hob : ∀ i h, St i h → ∃ o, h.get? I = some o) :
    codeAny (model prog w) A (.forLoop target (.ref I) body [] env) (fun r s' => match r with | .ok f => Q f s' | .error e => cameBackBy (model prog w) A env (fun _ _ => False) e s') s := by
  have keepI : ∀ {m₁ nx₁ h h₁}, Fr h₀ L h m₁ → News h₀ L h nx₁ → (∀ p ∈ nx₁, p.1 ≠ I) → (∀ b o, b ∉ [I] → h.get? b = some o → h₁.get? b = some o) → Fr h₀ L h₁ m₁ ∧ News h₀ L h₁ nx₁ := by
    intro m₁ nx₁ h h₁ F₁ N₁ hI₁ hk
    refine ⟨⟨F₁.ns.at' fun o e => hk _ o (by simp [Ne.symm hIL]) e, fun b o e => hk b o ?_ (F₁.keep b o e), F₁.above⟩, fun p hp => ⟨hk _ _ (by simp [hI₁ p hp]) (N₁ p hp).1, (N₁ p hp).2⟩⟩
    intro hb
    rw [List.mem_singleton.mp hb, hIh] at e
    cases e
  refine codeAny_loop' rfl (fun k s' => ∃ h' tk m' nx' i, s' = { s with heap := h', toks := tk } ∧ St i h' ∧ Fr h₀ L h' m' ∧ News h₀ L h' nx' ∧ (∀ p ∈ nx', p.1 ≠ I) ∧ J i m' nx' ∧ i ≤ n ∧ k = n + 1 - i)
    (fun k s' hk => ?_) (n + 1) ⟨s.heap, s.toks, m, nx, 0, rfl, hst, F, N, hI, hj, Nat.zero_le _, rfl⟩
  obtain ⟨h', tk, m', nx', i, rfl, hst', F', N', hI', hJ, hi, rfl⟩ := hk
  show wpAny _ _ ((forTurn target (.ref I) body [] env).onRaise (fun x => do noteFrame x env; theTreesLotGoes x)) _ _ _
  rw [show A.under (.forLoop target (.ref I) body [] env) = A from Around.under_of_weight rfl]
  refine wpAny_noted ?_
  simp only [forTurn]
  refine wpAny_bind (wpAny_standAt (wpAny_bind (wpAny_onRaise ?_)))
  by_cases hlt : i < n
  · refine W.item i _ _ _ hlt hst' fun v h₁ tk₁ hP hst₁ hk₁ => ?_
    obtain ⟨F₁, N₁⟩ := keepI F' N' hI' hk₁
    obtain ⟨io, hio₁⟩ := hob _ _ hst₁
    have N₂ : News h₀ L h₁ ((I, io) :: nx') := List.forall_mem_cons.mpr ⟨⟨hio₁, hIL, hIh⟩, N₁⟩
    refine wpAny_bind (wpAny_noRaise (hgo i v _ _ hP hst₁ ?_))
    refine wpAny_bind (wpAny_noRaise (wpAny_mono (turn i v m' nx' h₁ tk₁ io hlt hP hJ hI' F₁ N₂) (fun _ s₂ h₂ => wpAny_noRaise (wpAny_bind (wpAny_mono h₂ (fun f s₃ h₃ => ?_) fun _ _ e => e))) fun _ _ e => e))
    have fin : EndL h₀ L s (fun m nx => ∃ nx₂, nx = (I, io) :: nx₂ ∧ (∀ p ∈ nx₂, p.1 ≠ I) ∧ J (i + 1) m nx₂) s₃ → ∃ k', k' < n + 1 - i ∧ ∃ h' tk m' nx' i, s₃ = { s with heap := h', toks := tk } ∧ St i h' ∧ Fr h₀ L h' m' ∧ News h₀ L h' nx' ∧ (∀ p ∈ nx', p.1 ≠ I) ∧ J i m' nx' ∧ i ≤ n ∧ k' = n + 1 - i := by
      rintro ⟨h₄, tk₄, m₄, nx₄, rfl, F₄, N₄, nx₂, rfl, hI₂, hJ₂⟩
      refine ⟨n + 1 - (i + 1), by lia, h₄, tk₄, m₄, nx₂, i + 1, rfl, ?_, F₄, fun p hp => N₄ p (.tail _ hp), hI₂, hJ₂, hlt, rfl⟩
      refine W.frame _ _ _ hst₁ fun b hb o e => ?_
      by_cases hbI : b = I
      · subst hbI
        rw [hio₁] at e
        cases e
        exact (N₄ _ (.head _)).1
      · obtain ⟨o', ho'⟩ := hsee b hb hbI
        have e1 := ho' i m' nx' h₁ hJ F₁ N₁
        rw [e1] at e
        cases e
        exact ho' (i + 1) m₄ nx₂ h₄ hJ₂ F₄ fun p hp => N₄ p (.tail _ hp)
    cases f with
    | next => exact wpAny_pure (.inl ⟨rfl, fin h₃⟩)
    | cont => exact wpAny_pure (.inl ⟨rfl, fin h₃⟩)
    | brk => exact wpAny_pure h₃
    | ret v => exact wpAny_pure h₃
  · have hin : i = n := by lia
    subst hin
    refine W.done _ _ _ hst' fun h₁ tk₁ hk₁ => ?_
    obtain ⟨F₁, N₁⟩ := keepI F' N' hI' hk₁
    refine wpAny_pure (.inr ⟨rfl, codeAny_block (wpAny_execs_nil ?_)⟩)
    exact done m' nx' h₁ tk₁ hJ F₁ N₁

theorem for_start {target iter : Expr} {body : List Stmt} {pos : Pos}
    (h : wpAny (model prog w) A (eval iter env) (fun x s₁ => wpAny (model prog w) A (pyIter x) (fun it s₂ => codeAny (model prog w) A (.forLoop target it body [] env) (fun r s' => match r with | .ok f => Q f s' | .error e => cameBackBy (model prog w) A env (fun _ _ => False) e s') s₂) (fun _ _ => False) s₁) (fun _ _ => False) s)
    (hs : ∀ x, foldedSetIterable iter env x = pure x := by intro _; rfl) :
    wpAny (model prog w) A (exec (.For target iter body [] pos) env) Q E s := wpAny_noRaise (wpAny_For h hs)

theorem for_list {target : Expr} {body : List Stmt} {l : Addr} {lo : Obj} {vs : List Value} {m : Str → Option Value} {nx : List (Addr × Obj)}
    (J : Nat → (Str → Option Value) → List (Addr × Obj) → Prop) (hh : A.handled = none)
    (hc : lo.cls = .type "list") (hd : ∃ n, lo.data = .seq vs.toArray n)
    (hsee : ∀ i m₁ nx₁ h, J i m₁ nx₁ → Fr h₀ L h m₁ → News h₀ L h nx₁ → h.get? l = some lo)
    (hgo : (∃ x p, target = .Name x p) ∨ ((∃ es k p, target = .Tuple es k p) ∧ ∀ v ∈ vs, ∃ T, v = .ref T))
    (F : Fr h₀ L s.heap m) (N : News h₀ L s.heap nx) (hj : J 0 m nx)
    (turn : ∀ i v m₁ nx₁ h tk I io, vs[i]? = some v → J i m₁ nx₁ → (∀ p ∈ nx₁, p.1 ≠ I) → Fr h₀ L h m₁ → News h₀ L h ((I, io) :: nx₁) →
      wpAny (model prog w) A (assign target env v) (fun _ s₂ => wpAny (model prog w) A (execs body env) (FTurn h₀ L s (J (i + 1)) I io Q) (fun _ _ => False) s₂) (fun _ _ => False) { s with heap := h, toks := tk })
    (done : ∀ m₁ nx₁ h tk, J vs.length m₁ nx₁ → Fr h₀ L h m₁ → News h₀ L h nx₁ → Q .next { s with heap := h, toks := tk }) :
    wpAny (model prog w) A (pyIter (.ref l)) (fun it s₂ => codeAny (model prog w) A (.forLoop target it body [] env) (fun r s' => match r with | .ok f => Q f s' | .error e => cameBackBy (model prog w) A env (fun _ _ => False) e s') s₂) (fun _ _ => False) s := by
  have hgl := hsee 0 m nx _ hj F N
  have hls : s.heap.IsList l vs.toArray := ⟨lo, hgl, hc, hd⟩
  refine wpAny_pyIter_list hls ?_
  have hne : l ≠ s.heap.objs.size := Nat.ne_of_lt (Heap.lt_size hgl)
  have W := Walks.list (prog := prog) (w := w) hh s.heap.objs.size l hne vs.toArray
  have hnew : ∀ p ∈ nx, p.1 ≠ s.heap.objs.size := fun p hp => Nat.ne_of_lt (Heap.lt_size (N p hp).1)
  refine for_core J W ?_ ?_ (Nat.ne_of_gt F.ns.lt) (next_is_new F) (F.push _) (fun p hp => ⟨Heap.get?_push_of_some _ (N p hp).1, (N p hp).2⟩) hnew hj
    ⟨⟨_, Heap.get?_push_size _ rfl, rfl, rfl⟩, hls.at fun o e => Heap.get?_push_of_some _ e⟩ (Heap.get?_push_size _ rfl) ?_ ?_ ?_
  · intro i v s' Q' hP hst hQ
    rcases hgo with ⟨x, p, rfl⟩ | ⟨⟨es, k, p, rfl⟩, hT⟩
    · exact wpAny_pure hQ
    · have hv : v ∈ vs := by
        have : vs[i]? = some v := by simpa using hP
        exact List.mem_of_getElem? this
      obtain ⟨T, rfl⟩ := hT v hv
      exact wpAny_letOwnedTupleGo_listiter hst.1 hQ
  · intro b hb hbI
    simp only [List.mem_cons, List.not_mem_nil, or_false] at hb
    rcases hb with rfl | rfl
    · exact absurd rfl hbI
    · exact ⟨lo, fun i m₁ nx₁ h hJ F₁ N₁ => hsee i m₁ nx₁ h hJ F₁ N₁⟩
  · intro i v m₁ nx₁ h tk io hi hP hJ hI F₁ N₁
    exact turn i v m₁ nx₁ h tk _ io (by simpa using hP) hJ hI F₁ N₁
  · intro m₁ nx₁ h tk hJ F₁ N₁
    exact done m₁ nx₁ h tk (by simpa using hJ) F₁ N₁
  · rintro i h ⟨⟨o, ho, _⟩, _⟩
    exact ⟨o, ho⟩

theorem for_range {target : Expr} {body : List Stmt} {r : Addr} {a₀ b₀ : Int} {t₀ u₀ v₀ : Tok} {n : Nat} {m : Str → Option Value} {nx : List (Addr × Obj)}
    (J : Nat → (Str → Option Value) → List (Addr × Obj) → Prop) (hh : A.handled = none)
    (hr : IsRange s.heap r a₀ b₀ 1 t₀ u₀ v₀) (hsmall : Builtin.Range.small a₀ b₀ 1 = true) (hsz : Builtin.Range.rangeSize a₀ b₀ 1 = (n : Int))
    (hgo : ∃ x p, target = .Name x p)
    (F : Fr h₀ L s.heap m) (N : News h₀ L s.heap nx) (hj : J 0 m nx)
    (turn : ∀ (i : Nat) t m₁ nx₁ h tk I io, i < n → J i m₁ nx₁ → (∀ p ∈ nx₁, p.1 ≠ I) → Fr h₀ L h m₁ → News h₀ L h ((I, io) :: nx₁) →
      wpAny (model prog w) A (assign target env (.int (a₀ + i) t)) (fun _ s₂ => wpAny (model prog w) A (execs body env) (FTurn h₀ L s (J (i + 1)) I io Q) (fun _ _ => False) s₂) (fun _ _ => False) { s with heap := h, toks := tk })
    (done : ∀ m₁ nx₁ h tk, J n m₁ nx₁ → Fr h₀ L h m₁ → News h₀ L h nx₁ → Q .next { s with heap := h, toks := tk }) :
    wpAny (model prog w) A (pyIter (.ref r)) (fun it s₂ => codeAny (model prog w) A (.forLoop target it body [] env) (fun r s' => match r with | .ok f => Q f s' | .error e => cameBackBy (model prog w) A env (fun _ _ => False) e s') s₂) (fun _ _ => False) s := by
  refine wpAny_pyIter_range hr hsmall ?_
  have W := Walks.range (prog := prog) (w := w) hh s.heap.objs.size a₀ 1 n
  have hnew : ∀ p ∈ nx, p.1 ≠ s.heap.objs.size := fun p hp => Nat.ne_of_lt (Heap.lt_size (N p hp).1)
  refine for_core J W ?_ ?_ (Nat.ne_of_gt F.ns.lt) (next_is_new F) (F.push _) (fun p hp => ⟨Heap.get?_push_of_some _ (N p hp).1, (N p hp).2⟩) hnew hj
    (by show IsRangeIter _ _ _ _ _; rw [hsz]; simpa using Heap.get?_push_size _ rfl) (Heap.get?_push_size _ rfl) ?_ ?_ ?_
  · intro i v s' Q' hP hst hQ
    obtain ⟨x, p, rfl⟩ := hgo
    exact wpAny_pure hQ
  · intro b hb hbI
    exact absurd (List.mem_singleton.mp hb) hbI
  · rintro i v m₁ nx₁ h tk io hi ⟨t, rfl⟩ hJ hI F₁ N₁
    rw [Int.mul_one]
    exact turn i t m₁ nx₁ h tk _ io hi hJ hI F₁ N₁
  · exact done
  · intro i h hst
    exact ⟨_, hst⟩
end

section
variable {prog : Program} {w : World} {A₀ A : Around} {s : Shared} {base h₀ : Heap} {outer : List Env} {L : Addr} {m : Str → Option Value} {env : Env} {K : Frag} {p : Program} {loose : List Str} {mean : ExcName → Option Value} {mg mb : Str → Option Value}
  {R : Result → Shared → Prop} {name qual : Str} {params : Arguments} {body : List Stmt} {scope : Scope} {dV kV doc pm cdv ct oc : Value} {an od : Option Addr} {osl : Array (Option Value)} {f : Addr} {args : Args} {binds : List (Str × Value)}
/-- a def is entered; all that stands is the new ground -/
theorem enter37 (B : Below A₀ base outer h₀) (F : Fr h₀ L s.heap m) (X₀ : K.In h₀) (T : Top p loose mean mg mb h₀) (hA : A.frames = some (env :: outer)) (hf : env.frame = some L) (hke : env.scope.kind = .function)
    (ho : K.lookup f = some ⟨oc, od, .func (fnOf name qual params body scope dV kV doc pm an cdv ct), osl⟩) (hcd : codeIn K cdv qual = true) (hroom : A.depth < recursionLimit)
    (hbind : BindsTo s (fnOf name qual params body scope dV kV doc pm an cdv ct) args binds) (hloc : ∀ y ∈ binds, scope.names.lookup y.1 = some .local)
    (h : ∀ L' h₁, Fr s.heap L' h₁ (fun y => binds.reverse.lookup y) → News s.heap L' h₁ [] → Below A base (env :: outer) s.heap → K.In s.heap → Top p loose mean mg mb s.heap →
      wpAny (model prog w) (A.deeper (envOf qual scope L' f cdv)) (execs body (envOf qual scope L' f cdv))
        (fun fl s' => R (.ok (.ret (match fl with | .ret v => v | _ => .none))) s') (fun _ _ => False)
        { s with heap := h₁, toks := s.toks + binds.length })
    (hco : scope.isCoroutine = false) (hgen : scope.isGenerator = false) (hk : scope.kind = .function)
    (hcell : ∀ x ∈ scope.names, x.2 ≠ .cell) : codeAny (model prog w) A (.call (.ref f) args) R s := by
  obtain ⟨FG, BG, st, -⟩ := groundX (R := R) B F (News.nil (h₀ := h₀) (L := L)) hA hf hke
  refine codeAny_call_def (fd := fnOf name qual params body scope dV kV doc pm an cdv ct) (body := body) (binds := binds) hroom (X₀.keeps F.keep _ _ ho) rfl (T.nolimit.keeps F.keep) (codeRec_of (X₀.keeps F.keep) hcd) rfl hbind hcell hloc (fun h₁ hns hk₁ => ?_) hco hgen hk
  exact wpAny_noRaise (h s.heap.objs.size h₁ ⟨hns, hk₁, Nat.le_refl _⟩ News.nil BG (X₀.keeps F.keep) (T.keeps F.keep))
end

abbrev IntPost (x : Int) : Value → List (Addr × Obj) → Prop := fun r new => new = [] ∧ ∃ t, r = .int x t
abbrev BoolPost (x : Bool) : Value → List (Addr × Obj) → Prop := fun r new => new = [] ∧ r = .bool x
theorem Fr.kept {h₀ h h' : Heap} {L : Addr} {m : Str → Option Value} (F : Fr h₀ L h m) (k : ∀ b o, h.get? b = some o → h'.get? b = some o) : Fr h₀ L h' m :=
  ⟨F.ns.keeps k, fun b o e => k b o (F.keep b o e), F.above⟩
theorem News.kept {h₀ h h' : Heap} {L : Addr} {m : Str → Option Value} {nx new : List (Addr × Obj)} (F : Fr h₀ L h m) (N : News h₀ L h nx) (k : ∀ b o, h.get? b = some o → h'.get? b = some o)
    (hn : ∀ p ∈ new, h'.get? p.1 = some p.2 ∧ h.get? p.1 = none) : News h₀ L h' (new ++ nx) := by
  intro p hp
  rcases List.mem_append.mp hp with hp | hp
  · obtain ⟨e1, e2⟩ := hn p hp
    refine ⟨e1, fun q => ?_, ?_⟩
    · obtain ⟨o, _, _, ho, _⟩ := F.ns
      rw [q, ho] at e2
      cases e2
    · cases e : h₀.get? p.1 with
      | none => rfl
      | some o => rw [F.keep _ _ e] at e2; cases e2
  · exact ⟨k _ _ (N p hp).1, (N p hp).2⟩

theorem list_range37 {prog : Program} {w : World} {A : Around} {E : Value → Shared → Prop} {s : Shared} {h₀ : Heap} {L : Addr} {m : Str → Option Value} {Q : Value → Shared → Prop} {r : Addr} {a b c : Int} {t u v : Tok} {n : Nat} {nx : List (Addr × Obj)}
    (hh : A.handled = none) (F : Fr h₀ L s.heap m) (N : News h₀ L s.heap nx) (hr : IsRange s.heap r a b c t u v) (hsmall : Builtin.Range.small a b c = true) (hn : Builtin.Range.rangeSize a b c = (n : Int)) (hlen : n ≤ 2 ^ 24)
    (hQ : ∀ h' tk D vs e, Fr h₀ L h' m → News h₀ L h' ((D, listOf (vs : List Value).toArray e) :: nx) → (∀ p ∈ nx, p.1 ≠ D) → IntsAre vs ((List.range n).map fun (i : Nat) => a + (i : Int) * c) → Q (.ref D) { s with heap := h', toks := tk }) :
    wpAny (model prog w) A (call (.type "list") [.ref r]) Q E s := by
  refine call_list_range hh hr hsmall hn hlen fun h' tk acc' c' hk hS' hacc => ?_
  refine hQ h' tk s.heap.objs.size acc'.toList c' (F.kept hk) (News.kept F N hk (new := [_]) fun p hp => ?_) (fun p hp => Nat.ne_of_lt (Heap.lt_size (N p hp).1)) ?_
  · rw [List.mem_singleton.mp hp]
    exact ⟨by simpa using hS', Heap.get?_none_of_le (Nat.le_refl _)⟩
  · have key : ∀ (l : List Value) (k : Nat), (∀ (j : Nat) (y : Value), l[j]? = some y → ∃ t, y = Value.int (a + ((k + j : Nat) : Int) * c) t) → IntsAre l ((List.range l.length).map fun (i : Nat) => a + ((k + i : Nat) : Int) * c) := by
      intro l
      induction l with
      | nil => intro k _; exact .nil
      | cons x l ih =>
        intro k h
        obtain ⟨t, rfl⟩ := h 0 x rfl
        have h2 := ih (k + 1) fun j v hv => by
          obtain ⟨t, e⟩ := h (j + 1) v (by simpa using hv)
          exact ⟨t, by rw [e, show k + (j + 1) = k + 1 + j by lia]⟩
        rw [List.length_cons, List.range_succ_eq_map, List.map_cons, List.map_map]
        refine IntsAre.cons _ _ ?_
        have e3 : ((fun (i : Nat) => a + ((k + i : Nat) : Int) * c) ∘ Nat.succ) = fun (i : Nat) => a + ((k + 1 + i : Nat) : Int) * c := by
          funext i
          simp only [Function.comp]
          rw [show k + i.succ = k + 1 + i by lia]
        rw [e3]
        exact h2
    have h3 := key acc'.toList 0 fun j v hv => by
      obtain ⟨t, e⟩ := hacc.2 j v (by simpa using hv)
      exact ⟨t, by rw [e, Nat.zero_add]⟩
    simpa [hacc.1] using h3
theorem item_int37 {prog : Program} {w : World} {A : Around} {E : Value → Shared → Prop} {s : Shared} {h₀ : Heap} {L : Addr} {Q : Value → Shared → Prop} {nx : List (Addr × Obj)} {value slice : Expr} {l : Addr} {vs : List Value} {e : Nat} {ns : List Int} {k x : Int} {u : Tok}
    (N : News h₀ L s.heap nx) (hm : (l, listOf vs.toArray e) ∈ nx) (hi : IntsAre vs ns) (h0 : 0 ≤ k) (hfit : k < 2 ^ 63) (hk : ns[k.toNat]? = some x) (h : ∀ t, Q (.int x t) s)
    (hs : subscripted slice false (.ref l) (.int k u) = operate [.ref l, .int k u] (getItem (.ref l) (.int k u)) := by with_unfolding_all rfl) (hg : ∀ r, letTemporaryGo value (.ref l) r = pure () := by intro _; with_unfolding_all rfl) :
    wpAny (model prog w) A (subscriptTail value slice (.ref l) (.int k u)) Q E s := by
  obtain ⟨t, ht⟩ := hi.get _ _ hk
  exact item_listL ⟨_, (N _ hm).1, rfl, _, rfl⟩ h0 hfit ht (h t) hs hg
/-- what the caller is told -/
abbrev Back (s : Shared) (Q : Value → Shared → Prop) (Post : Value → List (Addr × Obj) → Prop) : Prop :=
  ∀ (r : Value) (new : List (Addr × Obj)) (h' : Heap) (tk' : Nat), Post r new → (∀ b o, s.heap.get? b = some o → h'.get? b = some o) → (∀ p ∈ new, h'.get? p.1 = some p.2 ∧ s.heap.get? p.1 = none) → Q r { s with heap := h', toks := tk' }
/-- what a call of one of the program's functions does, whoever calls it -/
def Call37 (prog : Program) (w : World) (f : Addr) (vs : List Value) (pre : Heap → Prop) (deep : Nat) (Post : Value → List (Addr × Obj) → Prop) : Prop :=
  ∀ (mean : ExcName → Option Value) (mg mb : Str → Option Value) (dp un : Nat) (gd : Option (List Code)) (cn : Str) (cs : Scope) (a : Addr) (ccd : Value) (cl : List (Str × Addr)) (outer : List Env) (A₀ : Around) (base h₀ : Heap) (L : Addr) (m : Str → Option Value) (s : Shared) (Q E : Value → Shared → Prop),
   Below A₀ base outer h₀ → Fr h₀ L s.heap m → (Mine.frag w.params).In h₀ → Top Mine.vw (looseW Mine.vw [Str.ofString "bisect_left"]) mean mg mb h₀ → cs.kind = .function →
   dp + deep < recursionLimit → un + 8 * deep < cLine → pre s.heap →
   Back s Q Post →
   wpAny (model prog w) (ktrTop dp un gd cn cs L a ccd cl outer) (call (.ref f) vs) Q E s

theorem use37 {prog : Program} {w : World} {f : Addr} {vs : List Value} {pre : Heap → Prop} {deep : Nat} {Post : Value → List (Addr × Obj) → Prop} (C : Call37 prog w f vs pre deep Post)
   {mean : ExcName → Option Value} {mg mb : Str → Option Value} {dp un : Nat} {gd : Option (List Code)} {cn : Str} {cs : Scope} {a : Addr} {ccd : Value} {cl : List (Str × Addr)} {outer : List Env} {A₀ : Around} {base h₀ : Heap} {L : Addr} {m : Str → Option Value} {s : Shared} {Q E : Value → Shared → Prop} {nx : List (Addr × Obj)}
   (B : Below A₀ base outer h₀) (F : Fr h₀ L s.heap m) (X : (Mine.frag w.params).In h₀) (N : News h₀ L s.heap nx) (T : Top Mine.vw (looseW Mine.vw [Str.ofString "bisect_left"]) mean mg mb h₀) (hk : cs.kind = .function)
   (hd : dp + deep < recursionLimit) (hu : un + 8 * deep < cLine) (hp : pre s.heap)
   (h : ∀ (r : Value) (new : List (Addr × Obj)) (h' : Heap) (tk' : Nat), Post r new → (∀ p ∈ new, ∀ q ∈ nx, q.1 ≠ p.1) → Fr h₀ L h' m → News h₀ L h' (new ++ nx) → Q r { s with heap := h', toks := tk' }) :
   wpAny (model prog w) (ktrTop dp un gd cn cs L a ccd cl outer) (call (.ref f) vs) Q E s :=
  C mean mg mb dp un gd cn cs a ccd cl outer A₀ base h₀ L m s Q E B F X T hk hd hu hp fun r new h' tk' hP hk' hn =>
    h r new h' tk' hP (fun p hp q hq e => by have h1 := (hn p hp).2; have h2 := (N q hq).1; rw [e, h1] at h2; cases h2) (F.kept hk') (News.kept F N hk' hn)
theorem cret_int {s : Shared} {L : Addr} {m : Str → Option Value} {Q : Value → Shared → Prop} {x y : Int} {t : Tok} {h' : Heap} {tk' : Nat}
  (hret : Back s Q (IntPost x)) (F : Fr s.heap L h' m) (e : y = x) : Q (.int y t) { s with heap := h', toks := tk' } := by
  subst e
  exact hret _ [] _ _ ⟨rfl, _, rfl⟩ F.keep (fun _ h => nomatch h)
theorem cret_bool {s : Shared} {L : Addr} {m : Str → Option Value} {Q : Value → Shared → Prop} {x y : Bool} {h' : Heap} {tk' : Nat}
  (hret : Back s Q (BoolPost x)) (F : Fr s.heap L h' m) (e : y = x) : Q (.bool y) { s with heap := h', toks := tk' } := by
  subst e
  exact hret _ [] _ _ ⟨rfl, rfl⟩ F.keep (fun _ h => nomatch h)
-- XH
def Hid (K Q' : Flow → Shared → Prop) : Prop := ∀ f s, K f s → Q' f s
theorem Hid.go {K Q' : Flow → Shared → Prop} {f : Flow} {s : Shared} (h : Hid K Q') (k : K f s) : Q' f s := h f s k
/-- what stands behind a statement: W behind its end, Q behind a return, a break, a continue -/
def seqK (W : Shared → Prop) (Q : Flow → Shared → Prop) (f : Flow) (s : Shared) : Prop := match f with | .next => W s | f => Q f s
theorem Hid.next {W : Shared → Prop} {Q Q' : Flow → Shared → Prop} {s : Shared} (h : Hid (seqK W Q) Q') (k : W s) : Q' .next s := h .next s k
theorem Hid.ret {W : Shared → Prop} {Q Q' : Flow → Shared → Prop} {s : Shared} {v : Value} (h : Hid (seqK W Q) Q') (k : Q (.ret v) s) : Q' (.ret v) s := h (.ret v) s k
theorem Hid.brk {W : Shared → Prop} {Q Q' : Flow → Shared → Prop} {s : Shared} (h : Hid (seqK W Q) Q') (k : Q .brk s) : Q' .brk s := h .brk s k
theorem Hid.cont {W : Shared → Prop} {Q Q' : Flow → Shared → Prop} {s : Shared} (h : Hid (seqK W Q) Q') (k : Q .cont s) : Q' .cont s := h .cont s k
theorem execs_cons_hid {M : Model} {A : Around} {E : Value → Shared → Prop} {Q : Flow → Shared → Prop} {st : Stmt} {rest : List Stmt} {env : Env} {hp : Heap} {gens : Array GenState} {dr : Drawn} {tk : Nat} {os : OsState}
  (h : ∀ tk Q', Hid (seqK (fun s' => wpAny M A (execs rest env) Q E s') Q) Q' → wpAny M A (exec st env) Q' E ⟨hp, gens, dr, tk, os⟩) : wpAny M A (execs (st :: rest) env) Q E ⟨hp, gens, dr, tk, os⟩ := execs_cons_gen fun tk => h tk _ fun f _ k => by cases f <;> exact k
theorem fturn_ret {h₀ : Heap} {L : Addr} {s s₃ : Shared} {J : (Str → Option Value) → List (Addr × Obj) → Prop} {I : Addr} {io : Obj} {Q : Flow → Shared → Prop} {v : Value} (h : Q (.ret v) s₃) : FTurn h₀ L s J I io Q (.ret v) s₃ := h
theorem wturn_ret {h₀ : Heap} {L : Addr} {s s₃ : Shared} {J : Nat → (Str → Option Value) → List (Addr × Obj) → Prop} {n : Nat} {Q : Flow → Shared → Prop} {v : Value} (h : Q (.ret v) s₃) : WTurn h₀ L s J Q n (.ret v) s₃ := h
theorem fits_small {i : Int} (h : -10000 ≤ i ∧ i ≤ 10000) : Builtin.Range.rangeFitsLong i = true := by
  simp only [Builtin.Range.rangeFitsLong, Bool.and_eq_true, decide_eq_true_eq]
  exact ⟨Int.le_trans (by decide) h.1, Int.lt_of_le_of_lt h.2 (by decide)⟩
theorem rng_small {a b c : Int} (ha : 0 ≤ a ∧ a ≤ 1000) (hb : -1000 ≤ b ∧ b ≤ 1000) (hc : c = 1 ∨ c = 2) : Builtin.Range.small a b c = true := by
  have hc0 : 0 < c ∧ c ≤ 2 := by rcases hc with rfl | rfl <;> decide
  clear hc
  have hs : -10000 ≤ Builtin.Range.rangeSize a b c ∧ Builtin.Range.rangeSize a b c ≤ 10000 := by
    unfold Builtin.Range.rangeSize
    rw [if_pos hc0.1]
    split
    · rename_i hab
      have h0 : 0 ≤ b - a - 1 := by lia
      have h1 := Int.ediv_le_self c h0
      have h2 := Int.ediv_nonneg h0 (Int.le_of_lt hc0.1)
      generalize (b - a - 1) / c = q at *
      lia
    · decide
  unfold Builtin.Range.small
  rw [fits_small ⟨by lia, by lia⟩, fits_small ⟨by lia, by lia⟩, fits_small ⟨by lia, by lia⟩, fits_small hs, if_pos hc0.1, fits_small ⟨by lia, by lia⟩, Bool.or_true]
  rfl
theorem rng_size {a b : Int} {n : Nat} (h : b - a = (n : Int)) : Builtin.Range.rangeSize a b 1 = (n : Int) := by
  simp [Builtin.Range.rangeSize]
  lia
theorem min_word (D S C R : Nat) : (if (D : Int) + (S : Int) < (if (C : Int) < (R : Int) then (C : Int) else (R : Int)) + 2 then (D : Int) + (S : Int) else (if (C : Int) < (R : Int) then (C : Int) else (R : Int)) + 2) = ((min (min R C + 2) (D + S) : Nat) : Int) := by
  (repeat' split) <;> lia
theorem hideG {P : Prop} (h : ∀ G : Prop, (P → G) → G) : P := h P id
theorem foldF {M : Model} {A : Around} {E : Value → Shared → Prop} {s s' : Shared} {b : List Stmt} {env : Env} {h₀ : Heap} {L : Addr} {J : (Str → Option Value) → List (Addr × Obj) → Prop} {I : Addr} {io : Obj} {Q : Flow → Shared → Prop}
  (h : wpAny M A (execs b env) (FTurn h₀ L s' J I io Q) E s) : wpAny M A (execs b env) (FTurn h₀ L s' J I io Q) E s := h
theorem foldW {M : Model} {A : Around} {E : Value → Shared → Prop} {s s' : Shared} {b : List Stmt} {env : Env} {h₀ : Heap} {L : Addr} {J : Nat → (Str → Option Value) → List (Addr × Obj) → Prop} {n : Nat} {Q : Flow → Shared → Prop}
  (h : wpAny M A (execs b env) (WTurn h₀ L s' J Q n) E s) : wpAny M A (execs b env) (WTurn h₀ L s' J Q n) E s := h
theorem storeK {M : Model} {A : Around} {E : Value → Shared → Prop} {s : Shared} {h₀ : Heap} {L a : Addr} {m : Str → Option Value} {bs : List (Str × Value)} {cn : Str} {cs : Scope} {ccd : Value} {cl : List (Str × Addr)}
  {x : Str} {v : Value} {Q : Unit → Shared → Prop} {news : List (Addr × Obj)} (F : Fr h₀ L s.heap (kstB m bs)) (N : News h₀ L s.heap news)
  (h : ∀ h', Fr h₀ L h' (kstB m ((x, v) :: bs)) → News h₀ L h' news → Q () { s with heap := h', toks := s.toks + 1 })
  (hk : cs.kind = .function := by rfl) (hx : (envX cn cs L a ccd cl).kindOf x = some .local := by rfl) : wpAny M A (storeName (envX cn cs L a ccd cl) x v) Q E s := storeX_L F N h hk hx
theorem storeK0 {M : Model} {A : Around} {E : Value → Shared → Prop} {s : Shared} {h₀ : Heap} {L a : Addr} {m : Str → Option Value} {cn : Str} {cs : Scope} {ccd : Value} {cl : List (Str × Addr)}
  {x : Str} {v : Value} {Q : Unit → Shared → Prop} {news : List (Addr × Obj)} (F : Fr h₀ L s.heap m) (N : News h₀ L s.heap news)
  (h : ∀ h', Fr h₀ L h' (kstB m [(x, v)]) → News h₀ L h' news → Q () { s with heap := h', toks := s.toks + 1 })
  (hk : cs.kind = .function := by rfl) (hx : (envX cn cs L a ccd cl).kindOf x = some .local := by rfl) : wpAny M A (storeName (envX cn cs L a ccd cl) x v) Q E s := storeX_L F N h hk hx
theorem if_cut {M : Model} {A : Around} {E : Value → Shared → Prop} {Q : Flow → Shared → Prop} {test : Expr} {body orelse : List Stmt} {pos : Pos} {env : Env} {hp : Heap} {gens : Array GenState} {dr : Drawn} {tk : Nat} {os : OsState} (c : Bool)
   (h : wpAny M A (isTrue test env (eval test env)) (fun b s' => b = c ∧ ∃ tk', s' = (⟨hp, gens, dr, tk', os⟩ : Shared)) E ⟨hp, gens, dr, tk, os⟩)
   (k1 : c = true → ∀ tk', wpAny M A (execs body env) Q E ⟨hp, gens, dr, tk', os⟩) (k2 : c = false → ∀ tk', wpAny M A (execs orelse env) Q E ⟨hp, gens, dr, tk', os⟩) :
   wpAny M A (exec (.If test body orelse pos) env) Q E ⟨hp, gens, dr, tk, os⟩ :=
  wpAny_If (wpAny_mono h (fun b s' ⟨e, tk', e'⟩ => by
    subst e e'
    cases b
    · exact k2 rfl tk'
    · exact k1 rfl tk') fun _ _ e => e)
/-! parts of a chain of facts -/
section
variable {p q a b c d e f g i j k l : Prop}
theorem kj0 (h : p ∧ q) : p := h.1
theorem kj1 (h : a ∧ p ∧ q) : p := h.2.1
theorem kj2 (h : a ∧ b ∧ p ∧ q) : p := h.2.2.1
theorem kj3 (h : a ∧ b ∧ c ∧ p ∧ q) : p := h.2.2.2.1
theorem kj4 (h : a ∧ b ∧ c ∧ d ∧ p ∧ q) : p := h.2.2.2.2.1
theorem kj5 (h : a ∧ b ∧ c ∧ d ∧ e ∧ p ∧ q) : p := h.2.2.2.2.2.1
theorem kj6 (h : a ∧ b ∧ c ∧ d ∧ e ∧ f ∧ p ∧ q) : p := h.2.2.2.2.2.2.1
theorem kj7 (h : a ∧ b ∧ c ∧ d ∧ e ∧ f ∧ g ∧ p ∧ q) : p := h.2.2.2.2.2.2.2.1
theorem kj8 (h : a ∧ b ∧ c ∧ d ∧ e ∧ f ∧ g ∧ i ∧ p ∧ q) : p := h.2.2.2.2.2.2.2.2.1
theorem kj9 (h : a ∧ b ∧ c ∧ d ∧ e ∧ f ∧ g ∧ i ∧ j ∧ p ∧ q) : p := h.2.2.2.2.2.2.2.2.2.1
theorem kj10 (h : a ∧ b ∧ c ∧ d ∧ e ∧ f ∧ g ∧ i ∧ j ∧ k ∧ p ∧ q) : p := h.2.2.2.2.2.2.2.2.2.2.1
theorem kj11 (h : a ∧ b ∧ c ∧ d ∧ e ∧ f ∧ g ∧ i ∧ j ∧ k ∧ l ∧ p ∧ q) : p := h.2.2.2.2.2.2.2.2.2.2.2.1
theorem kz1 (h : a ∧ p) : p := h.2
theorem kz2 (h : a ∧ b ∧ p) : p := h.2.2
theorem kz3 (h : a ∧ b ∧ c ∧ p) : p := h.2.2.2
theorem kz4 (h : a ∧ b ∧ c ∧ d ∧ p) : p := h.2.2.2.2
theorem kz5 (h : a ∧ b ∧ c ∧ d ∧ e ∧ p) : p := h.2.2.2.2.2
theorem kz6 (h : a ∧ b ∧ c ∧ d ∧ e ∧ f ∧ p) : p := h.2.2.2.2.2.2
theorem kz7 (h : a ∧ b ∧ c ∧ d ∧ e ∧ f ∧ g ∧ p) : p := h.2.2.2.2.2.2.2
theorem kn0 (h : (p ∧ a) ∧ b) : p := h.1.1
theorem kn1 (h : (a ∧ p ∧ b) ∧ c) : p := h.1.2.1
theorem kn2 (h : (a ∧ b ∧ p) ∧ c) : p := h.1.2.2
end
theorem and3 {p1 p2 p3 G : Prop} (h : p1 ∧ p2 ∧ p3) (k : p1 → p2 → p3 → G) : G := k h.1 h.2.1 h.2.2
theorem and4 {p1 p2 p3 p4 G : Prop} (h : p1 ∧ p2 ∧ p3 ∧ p4) (k : p1 → p2 → p3 → p4 → G) : G := k h.1 h.2.1 h.2.2.1 h.2.2.2
theorem and5 {p1 p2 p3 p4 p5 G : Prop} (h : p1 ∧ p2 ∧ p3 ∧ p4 ∧ p5) (k : p1 → p2 → p3 → p4 → p5 → G) : G := k h.1 h.2.1 h.2.2.1 h.2.2.2.1 h.2.2.2.2
theorem and6 {p1 p2 p3 p4 p5 p6 G : Prop} (h : p1 ∧ p2 ∧ p3 ∧ p4 ∧ p5 ∧ p6) (k : p1 → p2 → p3 → p4 → p5 → p6 → G) : G := k h.1 h.2.1 h.2.2.1 h.2.2.2.1 h.2.2.2.2.1 h.2.2.2.2.2
theorem and7 {p1 p2 p3 p4 p5 p6 p7 G : Prop} (h : p1 ∧ p2 ∧ p3 ∧ p4 ∧ p5 ∧ p6 ∧ p7) (k : p1 → p2 → p3 → p4 → p5 → p6 → p7 → G) : G := k h.1 h.2.1 h.2.2.1 h.2.2.2.1 h.2.2.2.2.1 h.2.2.2.2.2.1 h.2.2.2.2.2.2
theorem and8 {p1 p2 p3 p4 p5 p6 p7 p8 G : Prop} (h : p1 ∧ p2 ∧ p3 ∧ p4 ∧ p5 ∧ p6 ∧ p7 ∧ p8) (k : p1 → p2 → p3 → p4 → p5 → p6 → p7 → p8 → G) : G := k h.1 h.2.1 h.2.2.1 h.2.2.2.1 h.2.2.2.2.1 h.2.2.2.2.2.1 h.2.2.2.2.2.2.1 h.2.2.2.2.2.2.2
theorem and9 {p1 p2 p3 p4 p5 p6 p7 p8 p9 G : Prop} (h : p1 ∧ p2 ∧ p3 ∧ p4 ∧ p5 ∧ p6 ∧ p7 ∧ p8 ∧ p9) (k : p1 → p2 → p3 → p4 → p5 → p6 → p7 → p8 → p9 → G) : G := k h.1 h.2.1 h.2.2.1 h.2.2.2.1 h.2.2.2.2.1 h.2.2.2.2.2.1 h.2.2.2.2.2.2.1 h.2.2.2.2.2.2.2.1 h.2.2.2.2.2.2.2.2
theorem and10 {p1 p2 p3 p4 p5 p6 p7 p8 p9 p10 G : Prop} (h : p1 ∧ p2 ∧ p3 ∧ p4 ∧ p5 ∧ p6 ∧ p7 ∧ p8 ∧ p9 ∧ p10) (k : p1 → p2 → p3 → p4 → p5 → p6 → p7 → p8 → p9 → p10 → G) : G := k h.1 h.2.1 h.2.2.1 h.2.2.2.1 h.2.2.2.2.1 h.2.2.2.2.2.1 h.2.2.2.2.2.2.1 h.2.2.2.2.2.2.2.1 h.2.2.2.2.2.2.2.2.1 h.2.2.2.2.2.2.2.2.2
theorem and11 {p1 p2 p3 p4 p5 p6 p7 p8 p9 p10 p11 G : Prop} (h : p1 ∧ p2 ∧ p3 ∧ p4 ∧ p5 ∧ p6 ∧ p7 ∧ p8 ∧ p9 ∧ p10 ∧ p11) (k : p1 → p2 → p3 → p4 → p5 → p6 → p7 → p8 → p9 → p10 → p11 → G) : G := k h.1 h.2.1 h.2.2.1 h.2.2.2.1 h.2.2.2.2.1 h.2.2.2.2.2.1 h.2.2.2.2.2.2.1 h.2.2.2.2.2.2.2.1 h.2.2.2.2.2.2.2.2.1 h.2.2.2.2.2.2.2.2.2.1 h.2.2.2.2.2.2.2.2.2.2
theorem and12 {p1 p2 p3 p4 p5 p6 p7 p8 p9 p10 p11 p12 G : Prop} (h : p1 ∧ p2 ∧ p3 ∧ p4 ∧ p5 ∧ p6 ∧ p7 ∧ p8 ∧ p9 ∧ p10 ∧ p11 ∧ p12) (k : p1 → p2 → p3 → p4 → p5 → p6 → p7 → p8 → p9 → p10 → p11 → p12 → G) : G := k h.1 h.2.1 h.2.2.1 h.2.2.2.1 h.2.2.2.2.1 h.2.2.2.2.2.1 h.2.2.2.2.2.2.1 h.2.2.2.2.2.2.2.1 h.2.2.2.2.2.2.2.2.1 h.2.2.2.2.2.2.2.2.2.1 h.2.2.2.2.2.2.2.2.2.2.1 h.2.2.2.2.2.2.2.2.2.2.2
theorem and2 {p1 p2 G : Prop} (h : p1 ∧ p2) (k : p1 → p2 → G) : G := k h.1 h.2
theorem ex2 {α1 α2 : Type} {P : α1 → α2 → Prop} {G : Prop} (h : ∃ a1 a2, P a1 a2) (k : ∀ a1 a2, P a1 a2 → G) : G := by
  obtain ⟨a1, a2, h⟩ := h
  exact k _ _ h
theorem ex4 {α1 α2 α3 α4 : Type} {P : α1 → α2 → α3 → α4 → Prop} {G : Prop} (h : ∃ a1 a2 a3 a4, P a1 a2 a3 a4) (k : ∀ a1 a2 a3 a4, P a1 a2 a3 a4 → G) : G := by
  obtain ⟨a1, a2, a3, a4, h⟩ := h
  exact k _ _ _ _ h
theorem ex6 {α1 α2 α3 α4 α5 α6 : Type} {P : α1 → α2 → α3 → α4 → α5 → α6 → Prop} {G : Prop} (h : ∃ a1 a2 a3 a4 a5 a6, P a1 a2 a3 a4 a5 a6) (k : ∀ a1 a2 a3 a4 a5 a6, P a1 a2 a3 a4 a5 a6 → G) : G := by
  obtain ⟨a1, a2, a3, a4, a5, a6, h⟩ := h
  exact k _ _ _ _ _ _ h
-- B1
theorem filledW1 : (PySem.Challenge.rw_rl0037_01.prog = PySem.Challenge.rw_rl0037_01.prog) ∧ (Mine.frag = Mine.frag) := by
  k_fill
  exact ⟨rfl, rfl⟩
set_option hygiene false in
local macro_rules | `(tactic| walk_at "mSt") => `(tactic| with_reducible first | refine stopW ?_ | refine stopF ?_ | refine stopI ?_ | refine stopE ?_ | refine stopT ?_ | refine stopR ?_ | show wpAny _ _ (compareOp _ (Value.ref _) (Value.ref _)) _ _ _ | show wpAny _ _ (call (Value.builtin "list.insert") _) _ _ _)
set_option hygiene false in
local macro_rules | `(tactic| walk_at "mGo") => `(tactic| first
  | (with_reducible refine Hid.next (by with_reducible assumption) ?_)
  | (with_reducible refine Hid.ret (by with_reducible assumption) ?_)
  | (with_reducible refine Hid.brk (by with_reducible assumption) ?_)
  | (with_reducible refine Hid.cont (by with_reducible assumption) ?_)
  | (k_unfold; (try dsimp only))
  | (k_fold; fail_if_success (fail_if_success (with_reducible first | refine foldF ?_ | refine foldW ?_))))
set_option hygiene false in
local macro_rules | `(tactic| walk_at "mS") => `(tactic| repeat' (first | walk_at "mGo" | ((try with_reducible show wpAny _ _ _ _ _ _); (fail_if_success (walk_at "mSt")); first | walk_at "mCall" | walk1 | (dsimp only; walk1))))
local macro_rules | `(tactic| walk_at "ite") => `(tactic| first
  | with_reducible refine ite_tt ?_
  | with_reducible refine ite_ff ?_
  | with_reducible refine split_not ?_
  | (refine PySem.W.ite_pos (by with_reducible assumption) ?_)
  | (refine PySem.W.ite_isFalse (by with_reducible assumption) ?_)
  | ((with_reducible first | refine split_ine ?_ ?_ | refine split_ieq ?_ ?_ | refine split_dec ?_ ?_) <;> intro _ <;> (try (exfalso; lia)))
  | (with_reducible refine split_bool ?_ ?_ <;> intro _))
local macro_rules | `(tactic| walk_at "execs cons") => `(tactic| (with_reducible refine execs_cons_hid ?_; intro tk Qh hQh; (try dsimp only)))
local macro_rules | `(tactic| walk_at "execs nil") => `(tactic| (with_reducible refine execs_nil_gen ?_; intro tk; (try dsimp only)))
local macro_rules | `(tactic| walk_at "storeName") => `(tactic| (k_dflt (first | (refine' storeK ?F_6 ?N_6 ?_ ?a_6 ?b_6; (case F_6 => k_asm); (case N_6 => k_asm); (case a_6 => rfl); (case b_6 => rfl); k_whole) | (refine' storeK0 ?F_6 ?N_6 ?_ ?a_6 ?b_6; (case F_6 => k_asm); (case N_6 => k_asm); (case a_6 => rfl); (case b_6 => rfl); k_whole)); intro h' F' N'; (try k_sweep)))

def subst (a b : Str) : Int := if a = b then 0 else if Txt.lower a = Txt.lower b then 1 else 2
theorem sub_contract (prog : Program) (w : World) (x y : Str) (tx ty : Tok) (hx : x.length ≤ 40) (hy : y.length ≤ 40) :
   Call37 prog w 21 [.str x tx, .str y ty] (fun _ => True) 1 (IntPost (subst x y)) := by
  intro mean mg mb dp un gd cn cs a ccd cl outer A₀ base h₀ L m s Q E B F KX T hk hdep hun hpre hret
  (refine wpAny_call ?_; k_dflt (refine' enter37 ?k1 ?k2 ?k3 ?k5 ?kA ?kF ?kK ?k6 ?k7 ?k8 ?k9 ?kB ?_ ?c2 ?c3 ?c4 ?c5; (case kA => exact rfl); (case kF => exact rfl); (case kK => assumption); (case k1 => k_asm); (case k2 => k_asm); (case k3 => k_asm); (case k5 => k_asm); (case k6 => k_is); (case k7 => k_is); (case k8 => ktr_room); (case k9 => exact BindsTo.of_eq rfl); (case c5 => decide); (case kB => exact locs rfl); (case c2 => exact rfl); (case c3 => exact rfl); (case c4 => exact rfl); k_whole))
  intro L₁ h₁ F₁ N₁ B₁ X₁ T₁
  clear B F KX T
  (try dsimp only)
  k_fold
  walk_at "mS"
  all_goals (rename Fr _ _ _ _ => Fz; refine cret_int (s := s) hret Fz ?_)
  · rename (x == y) = true => hxy
    simp [subst, eq_of_beq hxy]
  · rename (x == y) = false => hxy
    rename (_ == _) = true => hlo
    have h1 : x ≠ y := fun e => by simp [e] at hxy
    simp [subst, h1, eq_of_beq hlo]
  · rename (_ == _) = false => hlo
    rename (x == y) = false => hxy
    have h1 : x ≠ y := fun e => by simp [e] at hxy
    have h2 : Txt.lower x ≠ Txt.lower y := fun e => by simp [e] at hlo
    simp [subst, h1, h2]

def costF (x y : Int) : Int := if x = y then 0 else if x - y = 32 ∨ y - x = 32 then 1 else 2
theorem cost_contract (prog : Program) (w : World) (x y : Int) (tx ty : Tok) (hx : 0 ≤ x ∧ x ≤ 1000) (hy : 0 ≤ y ∧ y ≤ 1000) :
   Call37 prog w 72 [.int x tx, .int y ty] (fun _ => True) 1 (IntPost (costF x y)) := by
  intro mean mg mb dp un gd cn cs a ccd cl outer A₀ base h₀ L m s Q E B F KX T hk hdep hun hpre hret
  (refine wpAny_call ?_; k_dflt (refine' enter37 ?k1 ?k2 ?k3 ?k5 ?kA ?kF ?kK ?k6 ?k7 ?k8 ?k9 ?kB ?_ ?c2 ?c3 ?c4 ?c5; (case kA => exact rfl); (case kF => exact rfl); (case kK => assumption); (case k1 => k_asm); (case k2 => k_asm); (case k3 => k_asm); (case k5 => k_asm); (case k6 => k_is); (case k7 => k_is); (case k8 => ktr_room); (case k9 => exact BindsTo.of_eq rfl); (case c5 => decide); (case kB => exact locs rfl); (case c2 => exact rfl); (case c3 => exact rfl); (case c4 => exact rfl); k_whole))
  intro L₁ h₁ F₁ N₁ B₁ X₁ T₁
  clear B F KX T
  (try dsimp only)
  k_fold
  walk_at "mS"
  all_goals (rename Fr _ _ _ _ => Fz; refine cret_int (s := s) hret Fz ?_)
  all_goals (unfold costF; (repeat' split) <;> lia)
theorem eof_contract (prog : Program) (w : World) (x : Int) (tx : Tok) :
   Call37 prog w 58 [.int x tx] (fun _ => True) 1 (BoolPost (x == 0)) := by
  intro mean mg mb dp un gd cn cs a ccd cl outer A₀ base h₀ L m s Q E B F KX T hk hdep hun hpre hret
  (refine wpAny_call ?_; k_dflt (refine' enter37 ?k1 ?k2 ?k3 ?k5 ?kA ?kF ?kK ?k6 ?k7 ?k8 ?k9 ?kB ?_ ?c2 ?c3 ?c4 ?c5; (case kA => exact rfl); (case kF => exact rfl); (case kK => assumption); (case k1 => k_asm); (case k2 => k_asm); (case k3 => k_asm); (case k5 => k_asm); (case k6 => k_is); (case k7 => k_is); (case k8 => ktr_room); (case k9 => exact BindsTo.of_eq rfl); (case c5 => decide); (case kB => exact locs rfl); (case c2 => exact rfl); (case c3 => exact rfl); (case c4 => exact rfl); k_whole))
  intro L₁ h₁ F₁ N₁ B₁ X₁ T₁
  clear B F KX T
  (try dsimp only)
  k_fold
  walk_at "mS"
  rename Fr _ _ _ _ => Fz; exact cret_bool (s := s) hret Fz rfl
theorem nont_contract (prog : Program) (w : World) (x : Int) (tx : Tok) :
   Call37 prog w 51 [.int x tx] (fun _ => True) 1 (BoolPost (decide (256 ≤ x))) := by
  intro mean mg mb dp un gd cn cs a ccd cl outer A₀ base h₀ L m s Q E B F KX T hk hdep hun hpre hret
  (refine wpAny_call ?_; k_dflt (refine' enter37 ?k1 ?k2 ?k3 ?k5 ?kA ?kF ?kK ?k6 ?k7 ?k8 ?k9 ?kB ?_ ?c2 ?c3 ?c4 ?c5; (case kA => exact rfl); (case kF => exact rfl); (case kK => assumption); (case k1 => k_asm); (case k2 => k_asm); (case k3 => k_asm); (case k5 => k_asm); (case k6 => k_is); (case k7 => k_is); (case k8 => ktr_room); (case k9 => exact BindsTo.of_eq rfl); (case c5 => decide); (case kB => exact locs rfl); (case c2 => exact rfl); (case c3 => exact rfl); (case c4 => exact rfl); k_whole))
  intro L₁ h₁ F₁ N₁ B₁ X₁ T₁
  clear B F KX T
  (try dsimp only)
  k_fold
  walk_at "mS"
  rename Fr _ _ _ _ => Fz; exact cret_bool (s := s) hret Fz rfl
theorem term_contract (prog : Program) (w : World) (x : Int) (tx : Tok) :
   Call37 prog w 44 [.int x tx] (fun _ => True) 1 (BoolPost (decide (x < 256))) := by
  intro mean mg mb dp un gd cn cs a ccd cl outer A₀ base h₀ L m s Q E B F KX T hk hdep hun hpre hret
  (refine wpAny_call ?_; k_dflt (refine' enter37 ?k1 ?k2 ?k3 ?k5 ?kA ?kF ?kK ?k6 ?k7 ?k8 ?k9 ?kB ?_ ?c2 ?c3 ?c4 ?c5; (case kA => exact rfl); (case kF => exact rfl); (case kK => assumption); (case k1 => k_asm); (case k2 => k_asm); (case k3 => k_asm); (case k5 => k_asm); (case k6 => k_is); (case k7 => k_is); (case k8 => ktr_room); (case k9 => exact BindsTo.of_eq rfl); (case c5 => decide); (case kB => exact locs rfl); (case c2 => exact rfl); (case c3 => exact rfl); (case c4 => exact rfl); k_whole))
  intro L₁ h₁ F₁ N₁ B₁ X₁ T₁
  clear B F KX T
  (try dsimp only)
  k_fold
  walk_at "mS"
  rename Fr _ _ _ _ => Fz; exact cret_bool (s := s) hret Fz rfl
-- T2


def LevOk (x y : Str) (mx z : Int) : Prop := ∃ n : Nat, IsDist cc (lst x) (lst y) n ∧ (z = n ∨ (mx < n ∧ mx < z))
abbrev LevPost (x y : Str) (mx : Int) : Value → List (Addr × Obj) → Prop := fun r new => new = [] ∧ ∃ t z, r = .int z t ∧ LevOk x y mx z
theorem cret_lev {x y : Str} {mx z : Int} {s : Shared} {L : Addr} {m : Str → Option Value} {Q : Value → Shared → Prop} {t : Tok} {h' : Heap} {tk' : Nat}
  (hret : Back s Q (LevPost x y mx)) (F : Fr s.heap L h' m) (e : LevOk x y mx z) : Q (.int z t) { s with heap := h', toks := tk' } :=
  hret _ [] _ _ ⟨rfl, _, _, rfl, e⟩ F.keep (fun _ h => nomatch h)
theorem take_more {l r : List Nat} {k : Nat} (h : l.take k = r.take k) (hl : k < l.length) (hr : k < r.length) (e : l[k] = r[k]) : l.take (k + 1) = r.take (k + 1) := by
  rw [List.take_succ_eq_append_getElem hl, List.take_succ_eq_append_getElem hr, h, e]
theorem drop_more {l r : List Nat} {k : Nat} (h : l.drop (l.length - k) = r.drop (r.length - k)) (hl : k < l.length) (hr : k < r.length) (e : l[l.length - (k + 1)] = r[r.length - (k + 1)]) : l.drop (l.length - (k + 1)) = r.drop (r.length - (k + 1)) := by
  have e1 : l.drop (l.length - (k + 1)) = l[l.length - (k + 1)] :: l.drop (l.length - (k + 1) + 1) := List.drop_eq_getElem_cons (by lia)
  have e2 : r.drop (r.length - (k + 1)) = r[r.length - (k + 1)] :: r.drop (r.length - (k + 1) + 1) := List.drop_eq_getElem_cons (by lia)
  rw [e1, e2, e, show l.length - (k + 1) + 1 = l.length - k by lia, show r.length - (k + 1) + 1 = r.length - k by lia, h]
theorem one_inj {p q : Nat} (h : ((⟨#[p]⟩ : Str) == ⟨#[q]⟩) = true) : p = q := by
  have := eq_of_beq h
  simpa using this
theorem subst_cc (p q : Nat) : subst ⟨#[p]⟩ ⟨#[q]⟩ = ((cc p q : Nat) : Int) := by
  unfold subst cc
  by_cases h : p = q
  · simp [h]
  · have h' : ¬ ((⟨#[p]⟩ : Str) = ⟨#[q]⟩) := fun e => h (by simpa using e)
    by_cases h2 : Txt.lower ⟨#[p]⟩ = Txt.lower ⟨#[q]⟩ <;> simp [h, h2]
def mixL (X Y : List Nat) (i j n : Nat) : List Int := (List.range n).map fun k => if k < j then ((cell cc X Y (i + 1) (k + 1) : Nat) : Int) else ((cell cc X Y i (k + 1) : Nat) : Int)
theorem mixL_zero_start (X Y : List Nat) (n : Nat) (hn : n = X.length) : ((List.range n).map fun (i : Nat) => (2 : Int) + (i : Int) * 2) = mixL X Y 0 0 n := by
  unfold mixL
  refine List.map_congr_left fun k hk => ?_
  rw [if_neg (by lia), cell_zero_left X Y (k + 1) (by have := List.mem_range.mp hk; lia)]
  push_cast
  lia
theorem mixL_turn (X Y : List Nat) (i n : Nat) : mixL X Y i n n = mixL X Y (i + 1) 0 n := by
  unfold mixL
  refine List.map_congr_left fun k hk => ?_
  rw [if_pos (List.mem_range.mp hk), if_neg (by lia)]
theorem mixL_length (X Y : List Nat) (i j n : Nat) : (mixL X Y i j n).length = n := by simp [mixL]
theorem mixL_get (X Y : List Nat) (i j n : Nat) (hj : j < n) : (mixL X Y i j n)[j]? = some ((cell cc X Y i (j + 1) : Nat) : Int) := by
  simp [mixL, hj]
theorem mixL_set (X Y : List Nat) (i j n : Nat) (hj : j < n) : (mixL X Y i j n).set j ((cell cc X Y (i + 1) (j + 1) : Nat) : Int) = mixL X Y i (j + 1) n := by
  apply List.ext_getElem
  · simp [mixL]
  · intro k h1 h2
    simp only [mixL, List.length_set, List.length_map, List.length_range] at h1
    rw [List.getElem_set]
    by_cases e : j = k
    · subst e
      simp [mixL]
    · rw [if_neg e]
      simp only [mixL, List.getElem_map, List.getElem_range]
      by_cases h3 : k < j
      · rw [if_pos h3, if_pos (by lia)]
      · rw [if_neg h3, if_neg (by lia)]

section
variable {prog : Program} {w : World} {A : Around} {E : Value → Shared → Prop} {s : Shared} {Q : Value → Shared → Prop} {h₀ : Heap} {L a : Addr} {m : Str → Option Value} {news : List (Addr × Obj)} {cn : Str} {cs : Scope} {ccd : Value}
  {nm x : Str} {tx t : Tok} {p : Int} {p1 p2 p3 p4 p5 p6 : Pos} {n : Nat}
theorem eval_post {k : Nat} (F : Fr h₀ L s.heap m) (N : News h₀ L s.heap news) (ha : m nm = some (.str x tx)) (hb : m (Str.ofString "post") = some (.int p t)) (hp : p = -(k : Int)) (hkx : k ≤ x.length) (hx : x.length ≤ 40)
    (h : ∀ y h' t' j, Fr h₀ L h' m → News h₀ L h' news → lst y = (lst x).take ((lst x).length - k) → y.length = x.length - k → Q (.str y t') { s with heap := h', toks := j })
    (hd : (nm == ("__debug__" : Str)) = false) (hk : cs.kind = .function) (hka : (envX cn cs L a ccd []).kindOf nm = some .local) (hkb : (envX cn cs L a ccd []).kindOf (Str.ofString "post") = some .local) :
    wpAny (model prog w) A (eval (.Subscript (.Name nm p1) (.Slice none (some (.BoolOp .Or [.Name (Str.ofString "post") p2, .Constant .none n p3] p4)) none p5) p6) (envX cn cs L a ccd [])) Q E s := by
  have go : ∀ y h' t' j, Fr h₀ L h' m → News h₀ L h' news → lst y = (lst x).take ((lst x).length - k) → Q (.str y t') { s with heap := h', toks := j } := fun y h' t' j F' N' e =>
    h y h' t' j F' N' e (by rw [← lst_length, e, List.length_take, lst_length]; lia)
  walk1
  refine nameX_L F ha ?_ hk hka hd
  walk1
  walk1
  walk1
  walk1
  refine nameX_L F hb ?_ hk hkb
  walk1
  walk1
  · walk1
    refine slice_strN_ns_len F N fun h' t' j F' N' _ => go _ _ _ _ F' N' ?_
    rw [hp, slice_upto x k hkx (by lia), lst_length]
  · walk1
    walk1
    walk1
    refine slice_strN_nn_len F N fun h' t' j F' N' _ => go _ _ _ _ F' N' ?_
    have hk0 : k = 0 := by lia
    rw [slice_all, hk0, Nat.sub_zero, List.take_length]
end
inductive LevJ1 (x : Str) (y : Str) (mx : Int) (n : Nat) (m' : Str → Option Value) (nx : List (Addr × Obj)) : Prop
  | mk (k : Nat) (t ta tb tmx : Tok) (j0 : Agree m' [("a", .str x ta), ("b", .str y tb), ("max_cost", .int mx tmx), ("pre", .int k t)]) (j1 : nx = []) (j2 : k ≤ x.length) (j3 : k ≤ y.length) (j4 : (lst x).take k = (lst y).take k) (j5 : n = x.length - k) : LevJ1 x y mx n m' nx
inductive LevJ2 (x : Str) (y : Str) (mx : Int) (m' : Str → Option Value) (nx : List (Addr × Obj)) : Prop
  | mk (k : Nat) (t ta tb tmx : Tok) (j0 : Agree m' [("a", .str x ta), ("b", .str y tb), ("max_cost", .int mx tmx), ("pre", .int k t)]) (j1 : nx = []) (j2 : k ≤ x.length) (j3 : k ≤ y.length) (j4 : (lst x).take k = (lst y).take k) : LevJ2 x y mx m' nx
inductive LevJ3 (x1 : Str) (y1 : Str) (mx : Int) (n : Nat) (m' : Str → Option Value) (nx : List (Addr × Obj)) : Prop
  | mk (k : Nat) (p : Int) (t ta tb tmx : Tok) (j0 : Agree m' [("a", .str x1 ta), ("b", .str y1 tb), ("max_cost", .int mx tmx), ("post", .int p t)]) (j1 : nx = []) (j2 : p = -(k : Int)) (j3 : k ≤ x1.length) (j4 : k ≤ y1.length) (j5 : (lst x1).drop ((lst x1).length - k) = (lst y1).drop ((lst y1).length - k)) (j6 : n = x1.length - k) : LevJ3 x1 y1 mx n m' nx
inductive LevJ4 (x1 : Str) (y1 : Str) (mx : Int) (m' : Str → Option Value) (nx : List (Addr × Obj)) : Prop
  | mk (k : Nat) (p : Int) (t ta tb tmx : Tok) (j0 : Agree m' [("a", .str x1 ta), ("b", .str y1 tb), ("max_cost", .int mx tmx), ("post", .int p t)]) (j1 : nx = []) (j2 : p = -(k : Int)) (j3 : k ≤ x1.length) (j4 : k ≤ y1.length) (j5 : (lst x1).drop ((lst x1).length - k) = (lst y1).drop ((lst y1).length - k)) : LevJ4 x1 y1 mx m' nx
inductive LevJ5 (x : Str) (y : Str) (mx : Int) (m' : Str → Option Value) (nx : List (Addr × Obj)) : Prop
  | mk (x2 y2 : Str) (ta tb tmx : Tok) (j0 : Agree m' [("a", .str x2 ta), ("b", .str y2 tb), ("max_cost", .int mx tmx)]) (j1 : nx = []) (j2 : x2.length ≤ 40 ∧ y2.length ≤ 40 ∧ (∀ n, IsDist cc (lst x2) (lst y2) n → IsDist cc (lst x) (lst y) n)) : LevJ5 x y mx m' nx
inductive LevJ6 (x2 : Str) (y2 : Str) (mx : Int) (m' : Str → Option Value) (nx : List (Addr × Obj)) : Prop
  | mk (ta tb tmx : Tok) (j0 : Agree m' [("a", .str x2 ta), ("b", .str y2 tb), ("max_cost", .int mx tmx)]) (j1 : nx = []) (j2 : 0 < x2.length) (j3 : 0 < y2.length) : LevJ6 x2 y2 mx m' nx
inductive LevJ7 (x : Str) (y : Str) (mx : Int) (m' : Str → Option Value) (nx : List (Addr × Obj)) : Prop
  | mk (x3 y3 : Str) (ta tb tmx : Tok) (j0 : Agree m' [("a", .str x3 ta), ("b", .str y3 tb), ("max_cost", .int mx tmx)]) (j1 : nx = []) (j2 : 0 < x3.length) (j3 : x3.length ≤ y3.length) (j4 : y3.length ≤ 40) (j5 : ∀ n, IsDist cc (lst x3) (lst y3) n → IsDist cc (lst x) (lst y) n) : LevJ7 x y mx m' nx
inductive LevJ8 (x3 : Str) (y3 : Str) (mx : Int) (m' : Str → Option Value) (nx : List (Addr × Obj)) : Prop
  | mk (ta tb tmx : Tok) (j0 : Agree m' [("a", .str x3 ta), ("b", .str y3 tb), ("max_cost", .int mx tmx)]) (j1 : nx = []) : LevJ8 x3 y3 mx m' nx
inductive LevJ9 (x3 : Str) (y3 : Str) (mx : Int) (X : List Nat) (Y : List Nat) (D : Addr) (n : Nat) (i : Nat) (m' : Str → Option Value) (nx : List (Addr × Obj)) : Prop
  | mk (res : Int) (vs : List Value) (e : Nat) (t ta tb tmx : Tok) (j0 : Agree m' [("a", .str x3 ta), ("b", .str y3 tb), ("max_cost", .int mx tmx), ("row", .ref D), ("result", .int res t)]) (j1 : nx = [(D, listOf vs.toArray e)]) (j2 : IntsAre vs (mixL X Y i 0 n)) (j3 : (0 < i → res = ((cell cc X Y i n : Nat) : Int))) : LevJ9 x3 y3 mx X Y D n i m' nx
inductive LevJ10 (x3 : Str) (y3 : Str) (mx : Int) (X : List Nat) (Y : List Nat) (D : Addr) (I : Addr) (io : Obj) (n : Nat) (i : Nat) (j : Nat) (m' : Str → Option Value) (nx : List (Addr × Obj)) : Prop
  | mk (d r mn : Int) (vs : List Value) (e : Nat) (t1 t2 t3 tc ta tb tmx : Tok) (j0 : Agree m' [("a", .str x3 ta), ("b", .str y3 tb), ("max_cost", .int mx tmx), ("row", .ref D), ("bchar", .str (Txt.item y3 (0 + (i : Int))) tc), ("distance", .int d t1), ("result", .int r t2), ("minimum", .int mn t3)]) (j1 : nx = [(I, io), (D, listOf vs.toArray e)]) (j2 : IntsAre vs (mixL X Y i j n)) (j3 : d = ((cell cc X Y i j : Nat) : Int)) (j4 : r = (if j = 0 then 2 * (i : Int) else ((cell cc X Y (i + 1) j : Nat) : Int))) (j5 : ∀ k, k < j → mn ≤ ((cell cc X Y (i + 1) (k + 1) : Nat) : Int)) : LevJ10 x3 y3 mx X Y D I io n i j m' nx
theorem lev_contract (prog : Program) (w : World) (x y : Str) (mx : Int) (tx ty tm : Tok) (hx : x.length ≤ 40) (hy : y.length ≤ 40) (hm0 : 0 ≤ mx) (hm1 : mx ≤ 100) :
   Call37 prog w 28 [.str x tx, .str y ty, .int mx tm] (fun _ => True) 2 (LevPost x y mx) := by
  intro mean mg mb dp un gd cn cs a ccd cl outer A₀ base h₀ L m s Q E B F KX T hk hdep hun hpre hret
  (refine wpAny_call ?_; k_dflt (refine' enter37 ?k1 ?k2 ?k3 ?k5 ?kA ?kF ?kK ?k6 ?k7 ?k8 ?k9 ?kB ?_ ?c2 ?c3 ?c4 ?c5; (case kA => exact rfl); (case kF => exact rfl); (case kK => assumption); (case k1 => k_asm); (case k2 => k_asm); (case k3 => k_asm); (case k5 => k_asm); (case k6 => k_is); (case k7 => k_is); (case k8 => ktr_room); (case k9 => exact BindsTo.of_eq rfl); (case c5 => decide); (case kB => exact locs rfl); (case c2 => exact rfl); (case c3 => exact rfl); (case c4 => exact rfl); k_whole))
  intro L₁ h₁ F₁ N₁ B₁ X₁ T₁
  clear B F KX T
  (try dsimp only)
  k_fold
  (repeat' (first | walk_at "mGo" | ((try with_reducible show wpAny _ _ _ _ _ _); (fail_if_success (walk_at "mSt")); first | ((with_reducible show wpAny _ _ (eval (Expr.Subscript _ (Expr.Slice _ (some (Expr.BoolOp _ _ _)) _ _) _) _) _ _ _); k_dflt (refine' eval_post ?eF1 ?eN1 ?ea1 ?eb1 ?ep1 ?ek1 ?ex1 ?_ ?ed1 ?ee1 ?ef1 ?eg1; (case eF1 => k_asm); (case eN1 => k_asm); (case ea1 => rfl); (case eb1 => rfl); (case ep1 => assumption); (case ek1 => assumption); (case ex1 => assumption); (case ed1 => decide); (case ee1 => rfl); (case ef1 => rfl); (case eg1 => rfl)); intro y' h' t' j' F' N' hy' hl'; (try k_sweep)) | ((with_reducible show wpAny _ _ (subscriptTail (Expr.Name _ _) (Expr.Name _ _) (Value.ref _) (Value.int _ _)) _ _ _); (refine item_int37 (by with_reducible assumption) (by k_mem) (by with_reducible assumption) (by lia) (by lia) (by with_reducible assumption) ?_; intro tR)) | walk1 | (dsimp only; walk1))))
  · rename Fr _ _ _ _ => Fz; rename (x == y) = true => hxy
    exact cret_lev (s := s) hret Fz ⟨0, by rw [eq_of_beq hxy]; exact IsDist.self cc_cost _, .inl rfl⟩
  rename Fr _ _ _ _ => Fa
  rename News _ _ _ _ => Na
  try walk_at "mGo"
  refine while_led (LevJ1 x y mx)
    (LevJ2 x y mx) x.length Fa Na ?_ ?_ ?_ PassesOwn.never
  · exact ⟨0, _, _, _, _, .cons rfl (.cons rfl (.cons rfl (.cons rfl .nil))), rfl, Nat.zero_le _, Nat.zero_le _, rfl, rfl⟩
  · rintro n m₁ nx h₂ tk₂ F₂ N₂ ⟨k, t, ta, tb, tmx, hag, rfl, hk1, hk2, hk3, hn⟩
    clear Fa Na
    replace F₂ := hag.fr F₂
    (repeat' (first | walk_at "mGo" | ((try with_reducible show wpAny _ _ _ _ _ _); (fail_if_success (walk_at "mSt")); first | ((with_reducible show wpAny _ _ (eval (Expr.Subscript _ (Expr.Slice _ (some (Expr.BoolOp _ _ _)) _ _) _) _) _ _ _); k_dflt (refine' eval_post ?eF1 ?eN1 ?ea1 ?eb1 ?ep1 ?ek1 ?ex1 ?_ ?ed1 ?ee1 ?ef1 ?eg1; (case eF1 => k_asm); (case eN1 => k_asm); (case ea1 => rfl); (case eb1 => rfl); (case ep1 => assumption); (case ek1 => assumption); (case ex1 => assumption); (case ed1 => decide); (case ee1 => rfl); (case ef1 => rfl); (case eg1 => rfl)); intro y' h' t' j' F' N' hy' hl'; (try k_sweep)) | ((with_reducible show wpAny _ _ (subscriptTail (Expr.Name _ _) (Expr.Name _ _) (Value.ref _) (Value.int _ _)) _ _ _); (refine item_int37 (by with_reducible assumption) (by k_mem) (by with_reducible assumption) (by lia) (by lia) (by with_reducible assumption) ?_; intro tR)) | walk1 | (dsimp only; walk1))))
    · rename Fr _ _ _ _ => Fz
      rename News _ _ _ _ => Nz
      rename (Txt.item x _ == Txt.item y _) = true => hit
      have hkx : k < x.length := by lia
      have hky : k < y.length := by lia
      rw [item_nat x k hkx, item_nat y k hky] at hit
      refine EndL.intro Fz Nz ⟨x.length - (k + 1), by lia, k + 1, _, ta, tb, tmx, .cons rfl (.cons rfl (.cons rfl (.cons rfl .nil))), rfl, by lia, by lia, ?_, rfl⟩
      exact take_more hk3 (by rw [lst_length]; exact hkx) (by rw [lst_length]; exact hky) (one_inj hit)
    all_goals
      rename Fr _ _ _ _ => Fz
      rename News _ _ _ _ => Nz
      exact EndL.intro Fz Nz ⟨k, t, ta, tb, tmx, .cons rfl (.cons rfl (.cons rfl (.cons rfl .nil))), rfl, hk1, hk2, hk3⟩
  rintro h₂ tk₂ m₂ nx F₂ N₂ ⟨k, t, ta, tb, tmx, hag, rfl, hk1, hk2, hk3⟩
  clear Fa Na
  replace F₂ := hag.fr F₂
  (repeat' (first | walk_at "mGo" | ((try with_reducible show wpAny _ _ _ _ _ _); (fail_if_success (walk_at "mSt")); first | ((with_reducible show wpAny _ _ (eval (Expr.Subscript _ (Expr.Slice _ (some (Expr.BoolOp _ _ _)) _ _) _) _) _ _ _); k_dflt (refine' eval_post ?eF1 ?eN1 ?ea1 ?eb1 ?ep1 ?ek1 ?ex1 ?_ ?ed1 ?ee1 ?ef1 ?eg1; (case eF1 => k_asm); (case eN1 => k_asm); (case ea1 => rfl); (case eb1 => rfl); (case ep1 => assumption); (case ek1 => assumption); (case ex1 => assumption); (case ed1 => decide); (case ee1 => rfl); (case ef1 => rfl); (case eg1 => rfl)); intro y' h' t' j' F' N' hy' hl'; (try k_sweep)) | ((with_reducible show wpAny _ _ (subscriptTail (Expr.Name _ _) (Expr.Name _ _) (Value.ref _) (Value.int _ _)) _ _ _); (refine item_int37 (by with_reducible assumption) (by k_mem) (by with_reducible assumption) (by lia) (by lia) (by with_reducible assumption) ?_; intro tR)) | walk1 | (dsimp only; walk1))))
  rename Fr _ _ _ _ => Fa
  rename News _ _ _ _ => Na
  have hx1 := slice_from x k hk1
  have hy1 := slice_from y k hk2
  have hd1 : ∀ n, IsDist cc (lst (Txt.slice x (some (k : Int)) none)) (lst (Txt.slice y (some (k : Int)) none)) n → IsDist cc (lst x) (lst y) n := by
    intro n hn
    rw [hx1, hy1] at hn
    have := hn.prefix cc_cost (p := (lst x).take k)
    rwa [List.take_append_drop, hk3, List.take_append_drop] at this
  generalize hX1 : Txt.slice x (some (k : Int)) none = x1 at *
  generalize hY1 : Txt.slice y (some (k : Int)) none = y1 at *
  have hlx1 : x1.length ≤ 40 := by lia
  have hly1 : y1.length ≤ 40 := by lia
  clear hx1 hy1 hX1 hY1 hk3 hag
  try walk_at "mGo"
  refine while_led (LevJ3 x1 y1 mx)
    (LevJ4 x1 y1 mx) x1.length Fa Na ?_ ?_ ?_ PassesOwn.never
  · exact ⟨0, 0, _, _, _, _, .cons rfl (.cons rfl (.cons rfl (.cons rfl .nil))), rfl, rfl, Nat.zero_le _, Nat.zero_le _, by simp, rfl⟩
  · rintro n m₁ nx h₂ tk₂ F₂ N₂ ⟨k, p, t, ta, tb, tmx, hag, rfl, hp, hk1, hk2, hk3, hn⟩
    clear Fa Na
    replace F₂ := hag.fr F₂
    have fin : ∀ (hkx : k < x1.length) (hky : k < y1.length) (hit : (Txt.item x1 (p - 1) == Txt.item y1 (p - 1)) = true), (lst x1).drop ((lst x1).length - (k + 1)) = (lst y1).drop ((lst y1).length - (k + 1)) := by
      intro hkx hky hit
      rw [show p - 1 = -((k + 1 : Nat) : Int) by lia, item_neg x1 (k + 1) hkx (by lia), item_neg y1 (k + 1) hky (by lia)] at hit
      refine drop_more hk3 (by rw [lst_length]; exact hkx) (by rw [lst_length]; exact hky) ?_
      simpa only [lst_length] using one_inj hit
    (repeat' (first | walk_at "mGo" | ((try with_reducible show wpAny _ _ _ _ _ _); (fail_if_success (walk_at "mSt")); first | ((with_reducible show wpAny _ _ (eval (Expr.Subscript _ (Expr.Slice _ (some (Expr.BoolOp _ _ _)) _ _) _) _) _ _ _); k_dflt (refine' eval_post ?eF1 ?eN1 ?ea1 ?eb1 ?ep1 ?ek1 ?ex1 ?_ ?ed1 ?ee1 ?ef1 ?eg1; (case eF1 => k_asm); (case eN1 => k_asm); (case ea1 => rfl); (case eb1 => rfl); (case ep1 => assumption); (case ek1 => assumption); (case ex1 => assumption); (case ed1 => decide); (case ee1 => rfl); (case ef1 => rfl); (case eg1 => rfl)); intro y' h' t' j' F' N' hy' hl'; (try k_sweep)) | ((with_reducible show wpAny _ _ (subscriptTail (Expr.Name _ _) (Expr.Name _ _) (Value.ref _) (Value.int _ _)) _ _ _); (refine item_int37 (by with_reducible assumption) (by k_mem) (by with_reducible assumption) (by lia) (by lia) (by with_reducible assumption) ?_; intro tR)) | walk1 | (dsimp only; walk1))))
    · rename Fr _ _ _ _ => Fz
      rename News _ _ _ _ => Nz
      rename (Txt.item x1 _ == Txt.item y1 _) = true => hit
      exact EndL.intro Fz Nz ⟨x1.length - (k + 1), by lia, k + 1, _, _, ta, tb, tmx, .cons rfl (.cons rfl (.cons rfl (.cons rfl .nil))), rfl, by lia, by lia, by lia, fin (by lia) (by lia) hit, rfl⟩
    all_goals
      rename Fr _ _ _ _ => Fz
      rename News _ _ _ _ => Nz
      exact EndL.intro Fz Nz ⟨k, p, t, ta, tb, tmx, .cons rfl (.cons rfl (.cons rfl (.cons rfl .nil))), rfl, hp, hk1, hk2, hk3⟩
  rintro h₂ tk₂ m₂ nx F₂ N₂ ⟨k, p, t, ta, tb, tmx, hag, rfl, hp, hk1, hk2, hk3⟩
  clear Fa Na
  replace F₂ := hag.fr F₂
  -- both cut: the rest by one word
  have cut : ∀ (x2 y2 : Str), lst x2 = (lst x1).take ((lst x1).length - k) → lst y2 = (lst y1).take ((lst y1).length - k) → x2.length ≤ 40 ∧ y2.length ≤ 40 ∧ ∀ n, IsDist cc (lst x2) (lst y2) n → IsDist cc (lst x) (lst y) n := by
    intro x2 y2 e1 e2
    refine ⟨?_, ?_, fun n hn => hd1 n ?_⟩
    · rw [← lst_length, e1, List.length_take, lst_length]; lia
    · rw [← lst_length, e2, List.length_take, lst_length]; lia
    · have := hn.suffix cc_cost (p := (lst x1).drop ((lst x1).length - k))
      rwa [e1, e2, List.take_append_drop, hk3, List.take_append_drop] at this
  try walk_at "mGo"
  refine cut2 (h₀ := s.heap) (L := L₁) (LevJ5 x y mx) ?_ ?_
  · k_fold
    (repeat' (first | walk_at "mGo" | ((try with_reducible show wpAny _ _ _ _ _ _); (fail_if_success (walk_at "mSt")); first | ((with_reducible show wpAny _ _ (eval (Expr.Subscript _ (Expr.Slice _ (some (Expr.BoolOp _ _ _)) _ _) _) _) _ _ _); k_dflt (refine' eval_post ?eF1 ?eN1 ?ea1 ?eb1 ?ep1 ?ek1 ?ex1 ?_ ?ed1 ?ee1 ?ef1 ?eg1; (case eF1 => k_asm); (case eN1 => k_asm); (case ea1 => rfl); (case eb1 => rfl); (case ep1 => assumption); (case ek1 => assumption); (case ex1 => assumption); (case ed1 => decide); (case ee1 => rfl); (case ef1 => rfl); (case eg1 => rfl)); intro y' h' t' j' F' N' hy' hl'; (try k_sweep)) | ((with_reducible show wpAny _ _ (subscriptTail (Expr.Name _ _) (Expr.Name _ _) (Value.ref _) (Value.int _ _)) _ _ _); (refine item_int37 (by with_reducible assumption) (by k_mem) (by with_reducible assumption) (by lia) (by lia) (by with_reducible assumption) ?_; intro tR)) | walk1 | (dsimp only; walk1))))
    rename Fr _ _ _ _ => Fz
    rename News _ _ _ _ => Nz
    refine EndL.intro Fz Nz ⟨_, _, _, _, _, .cons rfl (.cons rfl (.cons rfl .nil)), rfl, ?_⟩
    exact cut _ _ (by assumption) (by assumption)
  clear cut F₂ N₂ hag hd1 hlx1 hly1 hk1 hk2 hk3 hp
  rintro h₂ tk₂ m₂ nx F₂ N₂ ⟨x2, y2, ta, tb, tmx, hag, rfl, hx2, hy2, hd2⟩
  replace F₂ := hag.fr F₂
  try walk_at "mGo"
  refine cut2 (h₀ := s.heap) (L := L₁) (LevJ6 x2 y2 mx) ?_ ?_
  · k_fold
    (repeat' (first | walk_at "mGo" | ((try with_reducible show wpAny _ _ _ _ _ _); (fail_if_success (walk_at "mSt")); first | ((with_reducible show wpAny _ _ (eval (Expr.Subscript _ (Expr.Slice _ (some (Expr.BoolOp _ _ _)) _ _) _) _) _ _ _); k_dflt (refine' eval_post ?eF1 ?eN1 ?ea1 ?eb1 ?ep1 ?ek1 ?ex1 ?_ ?ed1 ?ee1 ?ef1 ?eg1; (case eF1 => k_asm); (case eN1 => k_asm); (case ea1 => rfl); (case eb1 => rfl); (case ep1 => assumption); (case ek1 => assumption); (case ex1 => assumption); (case ed1 => decide); (case ee1 => rfl); (case ef1 => rfl); (case eg1 => rfl)); intro y' h' t' j' F' N' hy' hl'; (try k_sweep)) | ((with_reducible show wpAny _ _ (subscriptTail (Expr.Name _ _) (Expr.Name _ _) (Value.ref _) (Value.int _ _)) _ _ _); (refine item_int37 (by with_reducible assumption) (by k_mem) (by with_reducible assumption) (by lia) (by lia) (by with_reducible assumption) ?_; intro tR)) | walk1 | (dsimp only; walk1))))
    · rename Fr _ _ _ _ => Fz
      rename News _ _ _ _ => Nz
      exact EndL.intro Fz Nz ⟨_, _, _, .cons rfl (.cons rfl (.cons rfl .nil)), rfl, by lia, by lia⟩
    all_goals
      rename Fr _ _ _ _ => Fz
      (repeat (first | with_reducible refine fturn_ret ?_ | with_reducible refine wturn_ret ?_ | walk_at "mGo"))
      refine cret_lev (s := s) hret Fz ?_
      first
      | (have e0 : x2.length = 0 := by lia
         rw [e0]
         refine ⟨2 * y2.length, hd2 _ ?_, .inl (by lia)⟩
         have e1 : lst x2 = [] := List.eq_nil_of_length_eq_zero (by rw [lst_length]; exact e0)
         rw [e1]
         have := IsDist.nil_left (c := cc) (lst y2)
         rwa [lst_length] at this)
      | (have e0 : y2.length = 0 := by lia
         rw [e0]
         refine ⟨2 * x2.length, hd2 _ ?_, .inl (by lia)⟩
         have e1 : lst y2 = [] := List.eq_nil_of_length_eq_zero (by rw [lst_length]; exact e0)
         rw [e1]
         have := IsDist.nil_right (c := cc) (lst x2)
         rwa [lst_length] at this)
  rintro h₃ tk₃ m₃ nx F₃ N₃ ⟨ta, tb, tmx, hag, rfl, hx20, hy20⟩
  replace F₃ := hag.fr F₃
  clear F₂ N₂
  try walk_at "mGo"
  refine cut1 (h₀ := s.heap) (L := L₁) (LevJ7 x y mx) ?_ ?_
  · k_fold
    (repeat' (first | walk_at "mGo" | ((try with_reducible show wpAny _ _ _ _ _ _); (fail_if_success (walk_at "mSt")); first | ((with_reducible show wpAny _ _ (eval (Expr.Subscript _ (Expr.Slice _ (some (Expr.BoolOp _ _ _)) _ _) _) _) _ _ _); k_dflt (refine' eval_post ?eF1 ?eN1 ?ea1 ?eb1 ?ep1 ?ek1 ?ex1 ?_ ?ed1 ?ee1 ?ef1 ?eg1; (case eF1 => k_asm); (case eN1 => k_asm); (case ea1 => rfl); (case eb1 => rfl); (case ep1 => assumption); (case ek1 => assumption); (case ex1 => assumption); (case ed1 => decide); (case ee1 => rfl); (case ef1 => rfl); (case eg1 => rfl)); intro y' h' t' j' F' N' hy' hl'; (try k_sweep)) | ((with_reducible show wpAny _ _ (subscriptTail (Expr.Name _ _) (Expr.Name _ _) (Value.ref _) (Value.int _ _)) _ _ _); (refine item_int37 (by with_reducible assumption) (by k_mem) (by with_reducible assumption) (by lia) (by lia) (by with_reducible assumption) ?_; intro tR)) | walk1 | (dsimp only; walk1))))
    all_goals
      rename Fr _ _ _ _ => Fz
      rename News _ _ _ _ => Nz
      replace Nz := News.sub Nz (nx' := []) (fun _ h => nomatch h)
      first
      | exact EndL.intro Fz Nz ⟨_, _, _, _, _, .cons rfl (.cons rfl (.cons rfl .nil)), rfl, hx20, by lia, hy2, hd2⟩
      | exact EndL.intro Fz Nz ⟨_, _, _, _, _, .cons rfl (.cons rfl (.cons rfl .nil)), rfl, hy20, by lia, hx2, fun n hn => hd2 n (hn.symm cc_cost)⟩
  clear F₃ N₃ hd2 hx2 hy2 hx20 hy20 hag
  rintro h₃ tk₃ m₃ nx F₃ N₃ ⟨x3, y3, ta, tb, tmx, hag, rfl, hx30, hxy3, hy3, hd3⟩
  replace F₃ := hag.fr F₃
  try walk_at "mGo"
  refine cut1 (h₀ := s.heap) (L := L₁) (LevJ8 x3 y3 mx) ?_ ?_
  · k_fold
    (repeat' (first | walk_at "mGo" | ((try with_reducible show wpAny _ _ _ _ _ _); (fail_if_success (walk_at "mSt")); first | ((with_reducible show wpAny _ _ (eval (Expr.Subscript _ (Expr.Slice _ (some (Expr.BoolOp _ _ _)) _ _) _) _) _ _ _); k_dflt (refine' eval_post ?eF1 ?eN1 ?ea1 ?eb1 ?ep1 ?ek1 ?ex1 ?_ ?ed1 ?ee1 ?ef1 ?eg1; (case eF1 => k_asm); (case eN1 => k_asm); (case ea1 => rfl); (case eb1 => rfl); (case ep1 => assumption); (case ek1 => assumption); (case ex1 => assumption); (case ed1 => decide); (case ee1 => rfl); (case ef1 => rfl); (case eg1 => rfl)); intro y' h' t' j' F' N' hy' hl'; (try k_sweep)) | ((with_reducible show wpAny _ _ (subscriptTail (Expr.Name _ _) (Expr.Name _ _) (Value.ref _) (Value.int _ _)) _ _ _); (refine item_int37 (by with_reducible assumption) (by k_mem) (by with_reducible assumption) (by lia) (by lia) (by with_reducible assumption) ?_; intro tR)) | walk1 | (dsimp only; walk1))))
    · rename Fr _ _ _ _ => Fz
      (repeat (first | with_reducible refine fturn_ret ?_ | with_reducible refine wturn_ret ?_ | walk_at "mGo"))
      refine cret_lev (s := s) hret Fz ?_
      have hl := (cell_end cc_cost (lst x3) (lst y3))
      refine ⟨_, hd3 _ hl, .inr ⟨?_, by lia⟩⟩
      have := hl.1.len
      simp only [lst_length] at this ⊢
      lia
    · rename Fr _ _ _ _ => Fz
      rename News _ _ _ _ => Nz
      exact EndL.intro Fz Nz ⟨_, _, _, .cons rfl (.cons rfl (.cons rfl .nil)), rfl⟩
  rintro h₄ tk₄ m₄ nx F₄ N₄ ⟨ta, tb, tmx, hag, rfl⟩
  replace F₄ := hag.fr F₄
  clear F₃ N₃ hag
  generalize hn : x3.length = n at *
  (repeat' (first | walk_at "mGo" | ((try with_reducible show wpAny _ _ _ _ _ _); (fail_if_success (walk_at "mSt")); first | ((with_reducible show wpAny _ _ (eval (Expr.Subscript _ (Expr.Slice _ (some (Expr.BoolOp _ _ _)) _ _) _) _) _ _ _); k_dflt (refine' eval_post ?eF1 ?eN1 ?ea1 ?eb1 ?ep1 ?ek1 ?ex1 ?_ ?ed1 ?ee1 ?ef1 ?eg1; (case eF1 => k_asm); (case eN1 => k_asm); (case ea1 => rfl); (case eb1 => rfl); (case ep1 => assumption); (case ek1 => assumption); (case ex1 => assumption); (case ed1 => decide); (case ee1 => rfl); (case ef1 => rfl); (case eg1 => rfl)); intro y' h' t' j' F' N' hy' hl'; (try k_sweep)) | ((with_reducible show wpAny _ _ (subscriptTail (Expr.Name _ _) (Expr.Name _ _) (Value.ref _) (Value.int _ _)) _ _ _); (refine item_int37 (by with_reducible assumption) (by k_mem) (by with_reducible assumption) (by lia) (by lia) (by with_reducible assumption) ?_; intro tR)) | walk1 | (dsimp only; walk1))))
  rename Fr _ _ _ _ => Fz
  rename News _ _ _ _ => Nz
  rename IsRange _ _ _ _ _ _ _ _ => Rz
  refine list_range37 (n := n) rfl Fz Nz Rz ?_ ?_ (by lia) ?_
  · exact rng_small (by lia) (by lia) (by lia)
  · simp [Builtin.Range.rangeSize]
    lia
  intro h₅ tk₅ D vs e F₅ N₅ _ hvs
  clear Fz Nz Rz
  (repeat' (first | walk_at "mGo" | ((try with_reducible show wpAny _ _ _ _ _ _); (fail_if_success (walk_at "mSt")); first | ((with_reducible show wpAny _ _ (eval (Expr.Subscript _ (Expr.Slice _ (some (Expr.BoolOp _ _ _)) _ _) _) _) _ _ _); k_dflt (refine' eval_post ?eF1 ?eN1 ?ea1 ?eb1 ?ep1 ?ek1 ?ex1 ?_ ?ed1 ?ee1 ?ef1 ?eg1; (case eF1 => k_asm); (case eN1 => k_asm); (case ea1 => rfl); (case eb1 => rfl); (case ep1 => assumption); (case ek1 => assumption); (case ex1 => assumption); (case ed1 => decide); (case ee1 => rfl); (case ef1 => rfl); (case eg1 => rfl)); intro y' h' t' j' F' N' hy' hl'; (try k_sweep)) | ((with_reducible show wpAny _ _ (subscriptTail (Expr.Name _ _) (Expr.Name _ _) (Value.ref _) (Value.int _ _)) _ _ _); (refine item_int37 (by with_reducible assumption) (by k_mem) (by with_reducible assumption) (by lia) (by lia) (by with_reducible assumption) ?_; intro tR)) | walk1 | (dsimp only; walk1))))
  try walk_at "mGo"
  refine for_start ?_
  (repeat' (first | walk_at "mGo" | ((try with_reducible show wpAny _ _ _ _ _ _); (fail_if_success (walk_at "mSt")); first | ((with_reducible show wpAny _ _ (eval (Expr.Subscript _ (Expr.Slice _ (some (Expr.BoolOp _ _ _)) _ _) _) _) _ _ _); k_dflt (refine' eval_post ?eF1 ?eN1 ?ea1 ?eb1 ?ep1 ?ek1 ?ex1 ?_ ?ed1 ?ee1 ?ef1 ?eg1; (case eF1 => k_asm); (case eN1 => k_asm); (case ea1 => rfl); (case eb1 => rfl); (case ep1 => assumption); (case ek1 => assumption); (case ex1 => assumption); (case ed1 => decide); (case ee1 => rfl); (case ef1 => rfl); (case eg1 => rfl)); intro y' h' t' j' F' N' hy' hl'; (try k_sweep)) | ((with_reducible show wpAny _ _ (subscriptTail (Expr.Name _ _) (Expr.Name _ _) (Value.ref _) (Value.int _ _)) _ _ _); (refine item_int37 (by with_reducible assumption) (by k_mem) (by with_reducible assumption) (by lia) (by lia) (by with_reducible assumption) ?_; intro tR)) | walk1 | (dsimp only; walk1))))
  rename Fr _ _ _ _ => Fz
  rename News _ _ _ _ => Nz
  rename IsRange _ _ _ _ _ _ _ _ => Rz
  have hX : n = (lst x3).length := by rw [lst_length, hn]
  have hY : y3.length = (lst y3).length := by rw [lst_length]
  generalize hXX : lst x3 = X at *
  generalize hYY : lst y3 = Y at *
  try walk_at "mGo"
  refine for_range (n := y3.length) (LevJ9 x3 y3 mx X Y D n)
    rfl Rz ?_ ?_ ⟨_, _, rfl⟩ Fz Nz ?_ ?_ ?_
  · exact rng_small (by lia) (by lia) (by lia)
  · simp [Builtin.Range.rangeSize]
    lia
  · exact ⟨_, _, _, _, _, _, _, .cons rfl (.cons rfl (.cons rfl (.cons rfl (.cons rfl .nil)))), rfl, by rw [← mixL_zero_start X Y n hX]; exact hvs, fun h => absurd h (by lia)⟩
  · clear Fz Nz Rz hvs
    rintro i t m₆ nx h₆ tk₆ I io hi ⟨res, vs, e, tr, ta, tb, tmx, hag, rfl, hvs, hres⟩ hI F₆ N₆
    replace F₆ := hag.fr F₆
    (repeat' (first | walk_at "mGo" | ((try with_reducible show wpAny _ _ _ _ _ _); (fail_if_success (walk_at "mSt")); first | ((with_reducible show wpAny _ _ (eval (Expr.Subscript _ (Expr.Slice _ (some (Expr.BoolOp _ _ _)) _ _) _) _) _ _ _); k_dflt (refine' eval_post ?eF1 ?eN1 ?ea1 ?eb1 ?ep1 ?ek1 ?ex1 ?_ ?ed1 ?ee1 ?ef1 ?eg1; (case eF1 => k_asm); (case eN1 => k_asm); (case ea1 => rfl); (case eb1 => rfl); (case ep1 => assumption); (case ek1 => assumption); (case ex1 => assumption); (case ed1 => decide); (case ee1 => rfl); (case ef1 => rfl); (case eg1 => rfl)); intro y' h' t' j' F' N' hy' hl'; (try k_sweep)) | ((with_reducible show wpAny _ _ (subscriptTail (Expr.Name _ _) (Expr.Name _ _) (Value.ref _) (Value.int _ _)) _ _ _); (refine item_int37 (by with_reducible assumption) (by k_mem) (by with_reducible assumption) (by lia) (by lia) (by with_reducible assumption) ?_; intro tR)) | walk1 | (dsimp only; walk1))))
    try walk_at "mGo"
    refine for_start ?_
    (repeat' (first | walk_at "mGo" | ((try with_reducible show wpAny _ _ _ _ _ _); (fail_if_success (walk_at "mSt")); first | ((with_reducible show wpAny _ _ (eval (Expr.Subscript _ (Expr.Slice _ (some (Expr.BoolOp _ _ _)) _ _) _) _) _ _ _); k_dflt (refine' eval_post ?eF1 ?eN1 ?ea1 ?eb1 ?ep1 ?ek1 ?ex1 ?_ ?ed1 ?ee1 ?ef1 ?eg1; (case eF1 => k_asm); (case eN1 => k_asm); (case ea1 => rfl); (case eb1 => rfl); (case ep1 => assumption); (case ek1 => assumption); (case ex1 => assumption); (case ed1 => decide); (case ee1 => rfl); (case ef1 => rfl); (case eg1 => rfl)); intro y' h' t' j' F' N' hy' hl'; (try k_sweep)) | ((with_reducible show wpAny _ _ (subscriptTail (Expr.Name _ _) (Expr.Name _ _) (Value.ref _) (Value.int _ _)) _ _ _); (refine item_int37 (by with_reducible assumption) (by k_mem) (by with_reducible assumption) (by lia) (by lia) (by with_reducible assumption) ?_; intro tR)) | walk1 | (dsimp only; walk1))))
    rename Fr _ _ _ _ => Fz
    rename News _ _ _ _ => Nz
    rename IsRange _ _ _ _ _ _ _ _ => Rz
    try walk_at "mGo"
    refine for_range (n := n) (LevJ10 x3 y3 mx X Y D I io n i)
      rfl Rz ?_ ?_ ⟨_, _, rfl⟩ Fz Nz ?_ ?_ ?_
    · exact rng_small (by lia) (by lia) (by lia)
    · simp [Builtin.Range.rangeSize]
      lia
    · refine ⟨_, _, _, _, _, _, _, _, _, _, _, _, .cons rfl (.cons rfl (.cons rfl (.cons rfl (.cons rfl (.cons rfl (.cons rfl (.cons rfl .nil))))))), rfl, hvs, ?_, ?_, fun k hk => absurd hk (by lia)⟩
      · rw [cell_zero_right X Y i (by lia)]; lia
      · rw [if_pos rfl]; lia
    · clear Fz Nz Rz hvs
      rintro j t m₇ nx h₇ tk₇ I' io' hj ⟨d, r, mn, vs, e, t1, t2, t3, tc, ta, tb, tmx, hag, rfl, hvs, hd, hr, hmn⟩ hI' F₇ N₇
      replace F₇ := hag.fr F₇
      (repeat' (first | walk_at "mGo" | ((try with_reducible show wpAny _ _ _ _ _ _); (fail_if_success (walk_at "mSt")); first | ((with_reducible show wpAny _ _ (eval (Expr.Subscript _ (Expr.Slice _ (some (Expr.BoolOp _ _ _)) _ _) _) _) _ _ _); k_dflt (refine' eval_post ?eF1 ?eN1 ?ea1 ?eb1 ?ep1 ?ek1 ?ex1 ?_ ?ed1 ?ee1 ?ef1 ?eg1; (case eF1 => k_asm); (case eN1 => k_asm); (case ea1 => rfl); (case eb1 => rfl); (case ep1 => assumption); (case ek1 => assumption); (case ex1 => assumption); (case ed1 => decide); (case ee1 => rfl); (case ef1 => rfl); (case eg1 => rfl)); intro y' h' t' j' F' N' hy' hl'; (try k_sweep)) | ((with_reducible show wpAny _ _ (subscriptTail (Expr.Name _ _) (Expr.Name _ _) (Value.ref _) (Value.int _ _)) _ _ _); (refine item_int37 (by with_reducible assumption) (by k_mem) (by with_reducible assumption) (by lia) (by lia) (by with_reducible assumption) ?_; intro tR)) | walk1 | (dsimp only; walk1))))
      k_dflt (refine' use37 (sub_contract _ _ _ _ _ _ ?hx ?hy) ?kB ?kF ?kX ?kN ?kT ?kK ?kd ?ku trivial ?_)
      (case hx => lia)
      (case hy => lia)
      (case kB => with_reducible assumption)
      (case kF => with_reducible assumption)
      (case kX => with_reducible assumption)
      (case kN => with_reducible assumption)
      (case kT => with_reducible assumption)
      (case kK => first | exact rfl | assumption)
      (case kd => first | lia | ktr_room)
      (case ku => first | lia | ktr_units)
      rintro r' new' h' tk' ⟨rfl, t', rfl⟩ - F' N'
      simp only [List.nil_append] at N'
      have hget : (mixL X Y i j n)[((0 : Int) + (j : Int)).toNat]? = some ((cell cc X Y i (j + 1) : Nat) : Int) := by rw [show ((0 : Int) + (j : Int)).toNat = j by lia]; exact mixL_get X Y i j n hj
      have hD1 : I' ≠ D := fun e => hI' _ (.tail _ (.head _)) e.symm
      have hD2 : I ≠ D := fun e => hI _ (.head _) e.symm
      (repeat' (first | walk_at "mGo" | ((try with_reducible show wpAny _ _ _ _ _ _); (fail_if_success (walk_at "mSt")); first | ((with_reducible show wpAny _ _ (eval (Expr.Subscript _ (Expr.Slice _ (some (Expr.BoolOp _ _ _)) _ _) _) _) _ _ _); k_dflt (refine' eval_post ?eF1 ?eN1 ?ea1 ?eb1 ?ep1 ?ek1 ?ex1 ?_ ?ed1 ?ee1 ?ef1 ?eg1; (case eF1 => k_asm); (case eN1 => k_asm); (case ea1 => rfl); (case eb1 => rfl); (case ep1 => assumption); (case ek1 => assumption); (case ex1 => assumption); (case ed1 => decide); (case ee1 => rfl); (case ef1 => rfl); (case eg1 => rfl)); intro y' h' t' j' F' N' hy' hl'; (try k_sweep)) | ((with_reducible show wpAny _ _ (subscriptTail (Expr.Name _ _) (Expr.Name _ _) (Value.ref _) (Value.int _ _)) _ _ _); (refine item_int37 (by with_reducible assumption) (by k_mem) (by with_reducible assumption) (by lia) (by lia) (by with_reducible assumption) ?_; intro tR)) | walk1 | (dsimp only; walk1))))
      rename Fr _ _ _ _ => Fz
      rename News _ _ _ _ => Nz
      have hjl : ((0 : Int) + (j : Int)) < ((mixL X Y i j n).length : Int) := by rw [mixL_length]; lia
      have U : ∀ o o' : Obj, Upd D o o' [(I', io'), (I, io), (D, o)] [(I', io'), (I, io), (D, o')] := fun o o' => Upd.tail hD1 (Upd.tail hD2 (Upd.head (fun _ hN => nomatch hN)))
      refine ksa_set Fz Nz (U _ _) hvs (by lia) hjl (by lia) ?_
      clear Fz Nz
      intro h₈ F₈ N₈ hvs' _ _
      have hcost : subst (Txt.item y3 (0 + (i : Int))) (Txt.item x3 (0 + (j : Int))) = ((cc (Y[i]'(by lia)) (X[j]'(by lia)) : Nat) : Int) := by
        rw [Int.zero_add, Int.zero_add, item_nat y3 i (by lia), item_nat x3 j (by lia)]
        subst hXX hYY
        exact subst_cc _ _
      have hstep := cell_succ (c := cc) X Y i j (by lia) (by lia)
      have hcc := cc_cost.le (Y[i]'(by lia)) (X[j]'(by lia))
      have hz : (if d + subst (Txt.item y3 (0 + (i : Int))) (Txt.item x3 (0 + (j : Int))) < (if ((cell cc X Y i (j + 1) : Nat) : Int) < r then ((cell cc X Y i (j + 1) : Nat) : Int) else r) + 2 then d + subst (Txt.item y3 (0 + (i : Int))) (Txt.item x3 (0 + (j : Int))) else (if ((cell cc X Y i (j + 1) : Nat) : Int) < r then ((cell cc X Y i (j + 1) : Nat) : Int) else r) + 2) = ((cell cc X Y (i + 1) (j + 1) : Nat) : Int) := by
        rw [hcost, hstep]
        generalize cell cc X Y i (j + 1) = C at *
        by_cases hj0 : j = 0
        · subst hj0
          rw [if_pos rfl] at hr
          rw [cell_zero_right X Y i (by lia)] at hd ⊢
          rw [cell_zero_right X Y (i + 1) (by lia)]
          generalize cc Y[i] X[0] = S at *
          (repeat' split) <;> lia
        · rw [if_neg hj0] at hr
          generalize cell cc X Y (i + 1) j = R at *
          generalize cell cc X Y i j = D' at *
          generalize cc Y[i] X[j] = S at *
          rw [hd, hr]
          exact min_word D' S C R
      rw [show ((0 : Int) + (j : Int)).toNat = j by lia] at hvs' N₈
      rw [hz] at F₈ N₈ hvs'
      rw [mixL_set X Y i j n hj] at hvs'
      have hDI : D ≠ I' := hI' (D, _) (.tail _ (.head _))
      have hI1 : ∀ (o : Obj), ∀ p ∈ [(I, io), (D, o)], p.1 ≠ I' := fun o => List.forall_mem_cons.mpr ⟨hI' _ (.head _), List.forall_mem_cons.mpr ⟨hDI, List.forall_mem_nil _⟩⟩
      (repeat' (first | walk_at "mGo" | ((try with_reducible show wpAny _ _ _ _ _ _); (fail_if_success (walk_at "mSt")); first | ((with_reducible show wpAny _ _ (eval (Expr.Subscript _ (Expr.Slice _ (some (Expr.BoolOp _ _ _)) _ _) _) _) _ _ _); k_dflt (refine' eval_post ?eF1 ?eN1 ?ea1 ?eb1 ?ep1 ?ek1 ?ex1 ?_ ?ed1 ?ee1 ?ef1 ?eg1; (case eF1 => k_asm); (case eN1 => k_asm); (case ea1 => rfl); (case eb1 => rfl); (case ep1 => assumption); (case ek1 => assumption); (case ex1 => assumption); (case ed1 => decide); (case ee1 => rfl); (case ef1 => rfl); (case eg1 => rfl)); intro y' h' t' j' F' N' hy' hl'; (try k_sweep)) | ((with_reducible show wpAny _ _ (subscriptTail (Expr.Name _ _) (Expr.Name _ _) (Value.ref _) (Value.int _ _)) _ _ _); (refine item_int37 (by with_reducible assumption) (by k_mem) (by with_reducible assumption) (by lia) (by lia) (by with_reducible assumption) ?_; intro tR)) | walk1 | (dsimp only; walk1))))
      · rename Fr _ _ _ _ => Fz
        rename News _ _ _ _ => Nz
        refine EndL.intro Fz Nz ⟨_, rfl, hI1 _, _, _, _, _, _, _, _, _, _, _, _, _, .cons rfl (.cons rfl (.cons rfl (.cons rfl (.cons rfl (.cons rfl (.cons rfl (.cons rfl .nil))))))), rfl, hvs', rfl, by rw [if_neg (by lia)], fun k hk => ?_⟩
        rcases Nat.lt_or_ge k j with h | h
        · have := hmn k h; lia
        · rw [show k = j by lia]; lia
      · rename Fr _ _ _ _ => Fz
        rename News _ _ _ _ => Nz
        refine EndL.intro Fz Nz ⟨_, rfl, hI1 _, _, _, _, _, _, _, _, _, _, _, _, _, .cons rfl (.cons rfl (.cons rfl (.cons rfl (.cons rfl (.cons rfl (.cons rfl (.cons rfl .nil))))))), rfl, hvs', rfl, by rw [if_neg (by lia)], fun k hk => ?_⟩
        rcases Nat.lt_or_ge k j with h | h
        · have := hmn k h; lia
        · rw [show k = j by lia]; lia
    · clear Fz Nz Rz
      rintro m₇ nx h₇ tk₇ ⟨d, r, mn, vs, e, t1, t2, t3, tc, ta, tb, tmx, hag, rfl, hvs, hd, hr, hmn⟩ F₇ N₇
      replace F₇ := hag.fr F₇
      rw [if_neg (by lia)] at hr
      have hDI : D ≠ I := hI (D, _) (.head _)
      (repeat' (first | walk_at "mGo" | ((try with_reducible show wpAny _ _ _ _ _ _); (fail_if_success (walk_at "mSt")); first | ((with_reducible show wpAny _ _ (eval (Expr.Subscript _ (Expr.Slice _ (some (Expr.BoolOp _ _ _)) _ _) _) _) _ _ _); k_dflt (refine' eval_post ?eF1 ?eN1 ?ea1 ?eb1 ?ep1 ?ek1 ?ex1 ?_ ?ed1 ?ee1 ?ef1 ?eg1; (case eF1 => k_asm); (case eN1 => k_asm); (case ea1 => rfl); (case eb1 => rfl); (case ep1 => assumption); (case ek1 => assumption); (case ex1 => assumption); (case ed1 => decide); (case ee1 => rfl); (case ef1 => rfl); (case eg1 => rfl)); intro y' h' t' j' F' N' hy' hl'; (try k_sweep)) | ((with_reducible show wpAny _ _ (subscriptTail (Expr.Name _ _) (Expr.Name _ _) (Value.ref _) (Value.int _ _)) _ _ _); (refine item_int37 (by with_reducible assumption) (by k_mem) (by with_reducible assumption) (by lia) (by lia) (by with_reducible assumption) ?_; intro tR)) | walk1 | (dsimp only; walk1))))
      · rename Fr _ _ _ _ => Fz
        (repeat (first | with_reducible refine fturn_ret ?_ | with_reducible refine wturn_ret ?_ | walk_at "mGo"))
        refine cret_lev (s := s) hret Fz ?_
        have hl := (cell_end cc_cost X Y)
        refine ⟨_, hd3 _ hl, .inr ⟨?_, by lia⟩⟩
        have := dist_ge_row cc_cost (i := i) (k := (mx + 1).toNat) (by lia) (by lia) (fun j hj => by have := hmn j (by lia); lia) hl
        lia
      · rename Fr _ _ _ _ => Fz
        rename News _ _ _ _ => Nz
        exact EndL.intro Fz Nz ⟨_, rfl, List.forall_mem_cons.mpr ⟨hDI, List.forall_mem_nil _⟩, _, _, _, _, _, _, _, .cons rfl (.cons rfl (.cons rfl (.cons rfl (.cons rfl .nil)))), rfl, by rw [← mixL_turn]; exact hvs, fun _ => hr⟩
  · clear Fz Nz Rz hvs
    rintro m₆ nx h₆ tk₆ ⟨res, vs, e, tr, ta, tb, tmx, hag, rfl, hvs, hres⟩ F₆ N₆
    replace F₆ := hag.fr F₆
    (repeat' (first | walk_at "mGo" | ((try with_reducible show wpAny _ _ _ _ _ _); (fail_if_success (walk_at "mSt")); first | ((with_reducible show wpAny _ _ (eval (Expr.Subscript _ (Expr.Slice _ (some (Expr.BoolOp _ _ _)) _ _) _) _) _ _ _); k_dflt (refine' eval_post ?eF1 ?eN1 ?ea1 ?eb1 ?ep1 ?ek1 ?ex1 ?_ ?ed1 ?ee1 ?ef1 ?eg1; (case eF1 => k_asm); (case eN1 => k_asm); (case ea1 => rfl); (case eb1 => rfl); (case ep1 => assumption); (case ek1 => assumption); (case ex1 => assumption); (case ed1 => decide); (case ee1 => rfl); (case ef1 => rfl); (case eg1 => rfl)); intro y' h' t' j' F' N' hy' hl'; (try k_sweep)) | ((with_reducible show wpAny _ _ (subscriptTail (Expr.Name _ _) (Expr.Name _ _) (Value.ref _) (Value.int _ _)) _ _ _); (refine item_int37 (by with_reducible assumption) (by k_mem) (by with_reducible assumption) (by lia) (by lia) (by with_reducible assumption) ?_; intro tR)) | walk1 | (dsimp only; walk1))))
    rename Fr _ _ _ _ => Fz
    (repeat (first | with_reducible refine fturn_ret ?_ | with_reducible refine wturn_ret ?_ | walk_at "mGo"))
    refine cret_lev (s := s) hret Fz ⟨_, hd3 _ (cell_end cc_cost X Y), .inl ?_⟩
    rw [hres (by lia), hY, hX]
-- T3


/-- a list of texts -/
def StrsAre : List Value → List Str → Prop
  | [], [] => True
  | v :: vs, x :: xs => (∃ t, v = .str x t) ∧ StrsAre vs xs
  | _, _ => False
theorem StrsAre.length : ∀ {vs : List Value} {xs : List Str}, StrsAre vs xs → vs.length = xs.length
  | [], [], _ => rfl
  | _ :: _, _ :: _, h => by simp [StrsAre.length h.2]
theorem StrsAre.get : ∀ {vs : List Value} {xs : List Str}, StrsAre vs xs → ∀ {k : Nat} {x : Str}, xs[k]? = some x → ∃ t, vs[k]? = some (.str x t)
  | [], [], _, k, x, e => by simp at e
  | v :: vs, y :: xs, h, 0, x, e => by
    obtain ⟨⟨t, rfl⟩, _⟩ := h
    simp at e
    exact ⟨t, by simp [e]⟩
  | v :: vs, y :: xs, h, k + 1, x, e => by
    simpa using StrsAre.get h.2 (k := k) (x := x) (by simpa using e)
theorem item_str37 {prog : Program} {w : World} {A : Around} {E : Value → Shared → Prop} {s : Shared} {h₀ : Heap} {L : Addr} {m : Str → Option Value} {Q : Value → Shared → Prop} {value slice : Expr} {l : Addr} {vs : List Value} {xs : List Str} {k : Int} {x : Str} {u : Tok}
    (F : Fr h₀ L s.heap m) (hl : h₀.IsList l vs.toArray) (hi : StrsAre vs xs) (h0 : 0 ≤ k) (hfit : k < 2 ^ 63) (hk : xs[k.toNat]? = some x) (h : ∀ t, Q (.str x t) s)
    (hs : subscripted slice false (.ref l) (.int k u) = operate [.ref l, .int k u] (getItem (.ref l) (.int k u)) := by with_unfolding_all rfl) (hg : ∀ r, letTemporaryGo value (.ref l) r = pure () := by intro _; with_unfolding_all rfl) :
    wpAny (model prog w) A (subscriptTail value slice (.ref l) (.int k u)) Q E s := by
  obtain ⟨t, ht⟩ := hi.get hk
  exact item_listL (F.lst hl) h0 hfit ht (h t) hs hg
abbrev BisPost (xs : List Str) (x : Str) : Value → List (Addr × Obj) → Prop := fun r new => new = [] ∧ ∃ t, ∃ k : Nat, r = .int k t ∧ k ≤ xs.length ∧ (∀ (i : Nat) (y : Str), i < k → xs[i]? = some y → lst y < lst x) ∧ (∀ (i : Nat) (y : Str), k ≤ i → xs[i]? = some y → ¬ lst y < lst x)
section PartT3
theorem bisect_contract (prog : Program) (w : World) (l : Addr) (vs : List Value) (e : Nat) (xs : List Str) (x : Str) (tx : Tok) (hl : xs.length ≤ 100) (hsrt : Srt xs) :
   Call37 prog w 37 [.ref l, .str x tx] (fun h => h.get? l = some (listOf vs.toArray e) ∧ StrsAre vs xs) 2 (BisPost xs x) := by
  intro mean mg mb dp un gd cn cs a ccd cl outer A₀ base h₀ L m s Q E B F KX T hk hdep hun hpre hret
  (refine wpAny_call ?_; k_dflt (refine' enter37 ?k1 ?k2 ?k3 ?k5 ?kA ?kF ?kK ?k6 ?k7 ?k8 ?k9 ?kB ?_ ?c2 ?c3 ?c4 ?c5; (case kA => exact rfl); (case kF => exact rfl); (case kK => assumption); (case k1 => k_asm); (case k2 => k_asm); (case k3 => k_asm); (case k5 => k_asm); (case k6 => k_is); (case k7 => k_is); (case k8 => ktr_room); (case k9 => (refine' kp_binds ?kx ?ke; (case kx => exact Frag.In.keeps (by k_asm) (Fr.keep (by k_asm))); (case ke => exact fun _ => rfl))); (case c5 => decide); (case kB => exact locs rfl); (case c2 => exact rfl); (case c3 => exact rfl); (case c4 => exact rfl); k_whole))
  intro L₁ h₁ F₁ N₁ B₁ X₁ T₁
  clear B F KX T
  (try dsimp only)
  k_fold
  obtain ⟨hg, hss⟩ := hpre
  have hL : s.heap.IsList l vs.toArray := ⟨_, hg, rfl, _, rfl⟩
  have hlen := hss.length
  (repeat' (first | walk_at "mGo" | ((try with_reducible show wpAny _ _ _ _ _ _); (fail_if_success (walk_at "mSt")); first | ((with_reducible show wpAny _ _ (subscriptTail (Expr.Name _ _) (Expr.Name _ _) (Value.ref _) (Value.int _ _)) _ _ _); (refine item_str37 (by with_reducible assumption) (by with_reducible assumption) (by with_reducible assumption) (by lia) (by lia) (by with_reducible assumption) ?_; intro tR)) | ((with_reducible show wpAny _ _ (call (Value.builtin "len") [Value.ref _]) _ _ _); (refine len_list (Fr.lst (by with_reducible assumption) (by with_reducible assumption)) (by rw [List.size_toArray]; lia) ?_; (try rw [List.size_toArray]))) | walk1 | (dsimp only; walk1))))
  rename Fr _ _ _ _ => Fa
  rename News _ _ _ _ => Na
  try walk_at "mGo"
  refine while_led (fun n m' nx => ∃ (lo hi : Nat) (t1 t2 tx : Tok), Agree m' [("a", .ref l), ("x", .str x tx), ("lo", .int lo t1), ("hi", .int hi t2)] ∧ nx = [] ∧ lo ≤ hi ∧ hi ≤ xs.length ∧ (∀ (i : Nat) (y : Str), i < lo → xs[i]? = some y → lst y < lst x) ∧ (∀ (i : Nat) (y : Str), hi ≤ i → xs[i]? = some y → ¬ lst y < lst x) ∧ n = hi - lo)
    (fun m' nx => ∃ (lo : Nat) (t1 : Tok), Agree m' [("lo", .int lo t1)] ∧ nx = [] ∧ lo ≤ xs.length ∧ (∀ (i : Nat) (y : Str), i < lo → xs[i]? = some y → lst y < lst x) ∧ (∀ (i : Nat) (y : Str), lo ≤ i → xs[i]? = some y → ¬ lst y < lst x)) xs.length Fa Na ?_ ?_ ?_ PassesOwn.never
  · refine ⟨0, vs.length, _, _, _, .cons rfl (.cons rfl (.cons rfl (.cons rfl .nil))), rfl, Nat.zero_le _, by lia, fun i y h => absurd h (by lia), fun i y h e => ?_, by lia⟩
    rw [List.getElem?_eq_none (by lia)] at e
    cases e
  · rintro n m₁ nx h₂ tk₂ F₂ N₂ ⟨lo, hi, t1, t2, tx, hag, rfl, hlo, hhi, hb, ha, hn⟩
    clear Fa Na
    replace F₂ := hag.fr F₂
    simp only [kstB] at F₂
    have hfd : ((lo : Int) + (hi : Int)).fdiv 2 = (((lo + hi) / 2 : Nat) : Int) := by
      rw [Int.fdiv_eq_ediv_of_nonneg _ (by lia)]
      lia
    by_cases hlt : lo < hi
    · have hmid : (lo + hi) / 2 < xs.length := by lia
      obtain ⟨y, hy⟩ : ∃ y, xs[(lo + hi) / 2]? = some y := ⟨_, List.getElem?_eq_getElem hmid⟩
      have hyy : xs[(((lo : Int) + (hi : Int)).fdiv 2).toNat]? = some y := by rw [hfd, Int.toNat_natCast]; exact hy
      (repeat' (first | walk_at "mGo" | ((try with_reducible show wpAny _ _ _ _ _ _); (fail_if_success (walk_at "mSt")); first | ((with_reducible show wpAny _ _ (subscriptTail (Expr.Name _ _) (Expr.Name _ _) (Value.ref _) (Value.int _ _)) _ _ _); (refine item_str37 (by with_reducible assumption) (by with_reducible assumption) (by with_reducible assumption) (by lia) (by lia) (by with_reducible assumption) ?_; intro tR)) | ((with_reducible show wpAny _ _ (call (Value.builtin "len") [Value.ref _]) _ _ _); (refine len_list (Fr.lst (by with_reducible assumption) (by with_reducible assumption)) (by rw [List.size_toArray]; lia) ?_; (try rw [List.size_toArray]))) | walk1 | (dsimp only; walk1))))
      · rename Fr _ _ _ _ => Fz
        rename News _ _ _ _ => Nz
        rename y.cps.toList < x.cps.toList => hyx
        have hyx' : lst y < lst x := hyx
        rw [hfd] at Fz
        refine EndL.intro Fz Nz ⟨hi - ((lo + hi) / 2 + 1), by lia, (lo + hi) / 2 + 1, hi, _, _, _, .cons rfl (.cons rfl (.cons rfl (.cons rfl .nil))), rfl, by lia, hhi, fun i z hi' hz => ?_, ha, rfl⟩
        rcases Nat.lt_or_ge i ((lo + hi) / 2) with h | h
        · exact List.lt_trans (hsrt.get h hz hy) hyx'
        · rw [show i = (lo + hi) / 2 by lia, hy] at hz
          cases hz
          exact hyx'
      · rename Fr _ _ _ _ => Fz
        rename News _ _ _ _ => Nz
        rename ¬ y.cps.toList < x.cps.toList => hyx
        have hyx' : ¬ lst y < lst x := hyx
        rw [hfd] at Fz
        refine EndL.intro Fz Nz ⟨(lo + hi) / 2 - lo, by lia, lo, (lo + hi) / 2, _, _, _, .cons rfl (.cons rfl (.cons rfl (.cons rfl .nil))), rfl, by lia, by lia, hb, fun i z hi' hz => ?_, rfl⟩
        rcases Nat.lt_or_ge ((lo + hi) / 2) i with h | h
        · exact fun hzx => hyx' (List.lt_trans (hsrt.get h hy hz) hzx)
        · rw [show i = (lo + hi) / 2 by lia, hy] at hz
          cases hz
          exact hyx'
    · (repeat' (first | walk_at "mGo" | ((try with_reducible show wpAny _ _ _ _ _ _); (fail_if_success (walk_at "mSt")); first | ((with_reducible show wpAny _ _ (subscriptTail (Expr.Name _ _) (Expr.Name _ _) (Value.ref _) (Value.int _ _)) _ _ _); (refine item_str37 (by with_reducible assumption) (by with_reducible assumption) (by with_reducible assumption) (by lia) (by lia) (by with_reducible assumption) ?_; intro tR)) | ((with_reducible show wpAny _ _ (call (Value.builtin "len") [Value.ref _]) _ _ _); (refine len_list (Fr.lst (by with_reducible assumption) (by with_reducible assumption)) (by rw [List.size_toArray]; lia) ?_; (try rw [List.size_toArray]))) | walk1 | (dsimp only; walk1))))
      rename Fr _ _ _ _ => Fz
      rename News _ _ _ _ => Nz
      exact EndL.intro Fz Nz ⟨lo, _, .cons rfl .nil, rfl, by lia, hb, fun i z h hz => ha i z (by lia) hz⟩
  · rintro h₂ tk₂ m₂ nx F₂ N₂ ⟨lo, t1, hag, rfl, hlo, hb, ha⟩
    clear Fa Na
    replace F₂ := hag.fr F₂
    simp only [kstB] at F₂
    (repeat' (first | walk_at "mGo" | ((try with_reducible show wpAny _ _ _ _ _ _); (fail_if_success (walk_at "mSt")); first | ((with_reducible show wpAny _ _ (subscriptTail (Expr.Name _ _) (Expr.Name _ _) (Value.ref _) (Value.int _ _)) _ _ _); (refine item_str37 (by with_reducible assumption) (by with_reducible assumption) (by with_reducible assumption) (by lia) (by lia) (by with_reducible assumption) ?_; intro tR)) | ((with_reducible show wpAny _ _ (call (Value.builtin "len") [Value.ref _]) _ _ _); (refine len_list (Fr.lst (by with_reducible assumption) (by with_reducible assumption)) (by rw [List.size_toArray]; lia) ?_; (try rw [List.size_toArray]))) | walk1 | (dsimp only; walk1))))
    rename Fr _ _ _ _ => Fz
    exact hret _ [] _ _ ⟨rfl, _, lo, rfl, hlo, hb, ha⟩ Fz.keep (fun _ h => nomatch h)
end PartT3
-- T4


theorem StrsAre.drop : ∀ {vs : List Value} {xs : List Str} (k : Nat), StrsAre vs xs → StrsAre (vs.drop k) (xs.drop k)
  | _, _, 0, h => h
  | [], [], _ + 1, h => trivial
  | _ :: _, _ :: _, k + 1, h => StrsAre.drop k h.2
theorem StrsAre.take : ∀ {vs : List Value} {xs : List Str} (k : Nat), StrsAre vs xs → StrsAre (vs.take k) (xs.take k)
  | [], [], 0, h => trivial
  | _ :: _, _ :: _, 0, h => trivial
  | [], [], _ + 1, h => trivial
  | _ :: _, _ :: _, k + 1, h => ⟨h.1, StrsAre.take k h.2⟩
theorem StrsAre.app : ∀ {vs : List Value} {xs : List Str} {ws : List Value} {ys : List Str}, StrsAre vs xs → StrsAre ws ys → StrsAre (vs ++ ws) (xs ++ ys)
  | [], [], _, _, _, g => g
  | _ :: _, _ :: _, _, _, h, g => ⟨h.1, StrsAre.app h.2 g⟩
theorem StrsAre.one (x : Str) (t : Tok) : StrsAre [.str x t] [x] := ⟨⟨t, rfl⟩, trivial⟩
theorem strs_canLayAll0 : ∀ ns : List Str, ns.all PyData.strOk = true → PyData.canLayAll0 (ns.map PyData.str) = true
  | [], _ => rfl
  | x :: r, h => by
    simp only [List.all_cons, Bool.and_eq_true] at h
    simp [PyData.canLayAll0, PyData.canLay0, strs_canLayAll0 r h.2, h.1]
theorem strs_depthAll : ∀ ns : List Str, PyData.depthAll (ns.map PyData.str) = 0
  | [] => rfl
  | _ :: r => by simp [PyData.depthAll, PyData.depth, strs_depthAll r]
theorem strs_shaped (ns : List Str) (h : ns.all PyData.strOk = true) : SeqAt.shaped (.list (ns.map PyData.str)) = true := by
  simp [SeqAt.shaped, PyData.canLay0, PyData.depth, strs_canLayAll0 ns h, strs_depthAll]
theorem strs_sameAll : ∀ ns ms : List Str, PySem.Spec.sameAll (ns.map PyData.str) (ms.map PyData.str) = decide (ns = ms)
  | [], [] => by simp [PySem.Spec.sameAll]
  | [], _ :: _ => by simp [PySem.Spec.sameAll]
  | _ :: _, [] => by simp [PySem.Spec.sameAll]
  | a :: r, b :: t => by
    simp only [List.map_cons, PySem.Spec.sameAll, PySem.Spec.same, strs_sameAll r t]
    by_cases h : a = b <;> by_cases h' : r = t <;> simp [h, h']
theorem strs_same (ns ms : List Str) : PySem.Spec.same (.list (ns.map PyData.str)) (.list (ms.map PyData.str)) = decide (ns = ms) := by
  simp only [PySem.Spec.same]; exact strs_sameAll ns ms
theorem strs_carried : ∀ {vs : List Value} {ns : List Str}, StrsAre vs ns → CarriedAll vs (ns.map PyData.str)
  | [], [], _ => .nil
  | _ :: _, _ :: _, ⟨⟨t, e⟩, r⟩ => by subst e; exact .cons (.str _ t) (strs_carried r)
section
variable {prog : Program} {w : World} {A : Around} {E : Value → Shared → Prop} {s : Shared} {a b : Addr} {xs ys : List Value} {ns ms : List Str} {Q : Value → Shared → Prop}
theorem eq_strs37 (ha : s.heap.IsList a xs.toArray) (hb : s.heap.IsList b ys.toArray) (hi : StrsAre xs ns) (hj : StrsAre ys ms) (o1 : ns.all PyData.strOk = true) (o2 : ms.all PyData.strOk = true) (hu : A.units + 64 < cLine) (h : Q (.bool (decide (ns = ms))) s) :
    wpAny (model prog w) A (compareOp .Eq (.ref a) (.ref b)) Q E s :=
  eq_dataH_same (reads_newData ha (strs_carried hi)) (reads_newData hb (strs_carried hj)) (strs_shaped _ o1) (strs_shaped _ o2) hu (SeqAt.noMix_of_shape (.list .str) rfl _ _ (list_map_has fun _ => rfl) (list_map_has fun _ => rfl)) (by rw [strs_same]; exact h)
theorem ne_strs37 (ha : s.heap.IsList a xs.toArray) (hb : s.heap.IsList b ys.toArray) (hi : StrsAre xs ns) (hj : StrsAre ys ms) (o1 : ns.all PyData.strOk = true) (o2 : ms.all PyData.strOk = true) (hu : A.units + 64 < cLine) (h : Q (.bool (!decide (ns = ms))) s) :
    wpAny (model prog w) A (compareOp .NotEq (.ref a) (.ref b)) Q E s :=
  ne_dataH_same (reads_newData ha (strs_carried hi)) (reads_newData hb (strs_carried hj)) (strs_shaped _ o1) (strs_shaped _ o2) hu (SeqAt.noMix_of_shape (.list .str) rfl _ _ (list_map_has fun _ => rfl) (list_map_has fun _ => rfl)) (by rw [strs_same]; exact h)
end
theorem pick_one (vs : List Value) (k : Nat) : slicePick vs.toArray (some (k : Int)) (some ((k : Int) + 1)) none = ((vs.drop k).take 1).toArray := by
  have e : sliceBounds (some (k : Int)) (some ((k : Int) + 1)) none vs.toArray.size = (((min k vs.toArray.size : Nat) : Int), ((min (k + 1) vs.toArray.size : Nat) : Int), 1) := by
    simp only [sliceBounds, Option.getD_none, show (1 : Int) > 0 by decide, if_true, if_neg (show ¬ ((k : Int) < 0) by lia), if_neg (show ¬ ((k : Int) + 1 < 0) by lia)]
    congr 1
    · lia
    · congr 1
      lia
  rw [kmk_pick_nat _ e]
  show ((vs.drop (min k vs.toArray.size)).take (min (k + 1) vs.toArray.size - min k vs.toArray.size)).toArray = _
  rw [List.size_toArray, kmk_drop_min]
  by_cases h : k < vs.length
  · rw [show min (k + 1) vs.length - min k vs.length = 1 by lia]
  · rw [List.drop_of_length_le (by lia)]
    simp
theorem slice_one37 {prog : Program} {w : World} {A : Around} {E : Value → Shared → Prop} {s : Shared} {h₀ : Heap} {L l : Addr} {m : Str → Option Value} {news : List (Addr × Obj)} {value slice : PySem.Expr} {vs : List Value} {k : Nat} {t u : Tok} {Q : Value → Shared → Prop}
    (F : Fr h₀ L s.heap m) (N : News h₀ L s.heap news) (hl : s.heap.IsList l vs.toArray)
    (h : ∀ D h', Fr h₀ L h' m → News h₀ L h' ((D, listOf ((vs.drop k).take 1).toArray 0) :: news) → (∀ p ∈ news, p.1 < D) → Q (.ref D) { s with heap := h' }) (hz : vs.length ≤ 100)
    (hs : subscripted slice false (.ref l) (.ref s.heap.objs.size) = operate [.ref s.heap.objs.size, .ref l] (getItem (.ref l) (.ref s.heap.objs.size)) := by with_unfolding_all rfl) (ht : ∀ r, letTemporaryGo value (.ref l) r = pure () := by intro _; with_unfolding_all rfl) :
    wpAny (model prog w) A (subscriptTail value slice (.ref l) (.ref s.heap.objs.size)) Q E { s with heap := s.heap.push { cls := .type "slice", data := .fields #[.int (k : Int) t, .int ((k : Int) + 1) u, .none] } } :=
  kmk_slice F N hl (IsPart.int _ _) (IsPart.int _ _) (fun D h' F' N' l1 => h D h' F' (by rw [pick_one] at N'; exact N') l1) hs ht (by rw [List.size_toArray, sizeLine_eq]; lia)
theorem kl_ins_nat (l : List Value) (k : Nat) (y : Value) (hk : k ≤ l.length) : kl_ins l (k : Int) y = l.take k ++ y :: l.drop k := by
  unfold kl_ins
  rw [if_neg (by lia), show min (k : Int).toNat l.length = k by lia]
theorem take_one_iff {xs : List Str} {k : Nat} {x : Str} : (xs.drop k).take 1 = [x] ↔ xs[k]? = some x := by
  induction xs generalizing k with
  | nil => simp
  | cons y ys ih =>
    cases k with
    | zero => simp
    | succ k => simpa using ih

structure Ent where
  D : Addr
  P : Addr
  told : Str
  tk : Tok
  vs : List Value
  n : Nat
  ns : List Int
abbrev tupO (told : Str) (tk : Tok) (P : Addr) : Obj := { cls := Value.type "tuple", data := Data.seq #[Value.str told tk, Value.ref P] }
def entN : List Ent → List (Addr × Obj)
  | [] => []
  | e :: r => (e.D, tupO e.told e.tk e.P) :: (e.P, listOf e.vs.toArray e.n) :: entN r
def refsE (es : List Ent) : List Value := (es.map fun e => Value.ref e.D).reverse
def todoE (es : List Ent) : Todo := es.map fun e => (e.told, e.ns)
abbrev Apart (nx : List (Addr × Obj)) : Prop := (nx.map (fun p => p.1)).Nodup
inductive WrJ (rules : List (List Int)) (fin : List Str) (l R T : Addr) (n : Nat) (m : Str → Option Value) (nx : List (Addr × Obj)) : Prop
  | mk (row : List Str) (es : List Ent) (rvs : List Value) (re te : Nat) (j0 : Agree m [("rules", .ref l), ("row", .ref R), ("todo", .ref T)]) (j1 : nx = (T, listOf (refsE es).toArray te) :: (R, listOf rvs.toArray re) :: entN es) (j2 : Apart nx) (j3 : StrsAre rvs row) (j4 : (∀ e ∈ es, IntsAre e.vs e.ns)) (j5 : Runs rules n row (todoE es) fin) : WrJ rules fin l R T n m nx
inductive RulesAre (h : Heap) : List Value → List (List Int) → Prop
  | nil : RulesAre h [] []
  | cons {a : Addr} {vs : List Value} {e : Nat} {r : List Int} {rs : List Value} {rules : List (List Int)} : h.get? a = some (listOf vs.toArray e) → IntsAre vs r → RulesAre h rs rules → RulesAre h (.ref a :: rs) (r :: rules)

theorem start4 {h₀ h : Heap} {L : Addr} {T D P R : Nat} {t d p r : Obj} (N : News h₀ L h [(T, t), (D, d), (P, p), (R, r)]) {G : Prop} (l1 : R < P) (l2 : P < D) (l3 : D < T)
  (k : ∀ T' R' D' P', T' = T → R' = R → D' = D → P' = P → News h₀ L h [(T', t), (R', r), (D', d), (P', p)] → Apart [(T', t), (R', r), (D', d), (P', p)] → G) : G :=
  k T R D P rfl rfl rfl rfl (News.sub N (List.forall_mem_cons.mpr ⟨.head _, List.forall_mem_cons.mpr ⟨.tail _ (.tail _ (.tail _ (.head _))), List.forall_mem_cons.mpr ⟨.tail _ (.head _), List.forall_mem_cons.mpr ⟨.tail _ (.tail _ (.head _)), List.forall_mem_nil _⟩⟩⟩⟩)) (by simp [Apart, Nat.ne_of_gt, Nat.ne_of_lt, l1, l2, l3, Nat.lt_trans l1 l2, Nat.lt_trans l2 l3, Nat.lt_trans l1 (Nat.lt_trans l2 l3)])
theorem Apart.cons {a : Addr} {o : Obj} {r : List (Addr × Obj)} : Apart ((a, o) :: r) ↔ (∀ p ∈ r, p.1 ≠ a) ∧ Apart r := by
  unfold Apart
  rw [List.map_cons, List.nodup_cons]
  simp only [List.mem_map, not_exists, not_and, ne_eq]
theorem Apart.four {T R D P : Addr} {t r d p : Obj} {rest : List (Addr × Obj)} (h : Apart ((T, t) :: (R, r) :: (D, d) :: (P, p) :: rest)) :
    T ≠ R ∧ T ≠ D ∧ T ≠ P ∧ R ≠ D ∧ R ≠ P ∧ D ≠ P ∧ (∀ p ∈ rest, p.1 ≠ T) ∧ (∀ p ∈ rest, p.1 ≠ R) ∧ (∀ p ∈ rest, p.1 ≠ D) ∧ (∀ p ∈ rest, p.1 ≠ P) ∧ Apart rest := by
  simp only [Apart.cons, List.forall_mem_cons] at h
  obtain ⟨⟨a, b, c, d⟩, ⟨e, f, g⟩, ⟨i, j⟩, k, l⟩ := h
  exact ⟨Ne.symm a, Ne.symm b, Ne.symm c, Ne.symm e, Ne.symm f, Ne.symm i, d, g, j, k, l⟩
theorem kl_last_snoc : ∀ (p : List Value) (y : Value), kl_last (p ++ [y]) = some (p, y)
  | [], y => rfl
  | x :: p, y => by
    show kl_last (x :: (p ++ [y])) = _
    unfold kl_last
    rw [kl_last_snoc p y]
theorem ints_snoc {vs : List Value} : ∀ {ns : List Int} {x : Int}, IntsAre vs (ns ++ [x]) → ∃ vs' t, vs = vs' ++ [.int x t] ∧ IntsAre vs' ns := by
  induction vs with
  | nil =>
    intro ns x h
    cases ns <;> cases h
  | cons v vs ih =>
    intro ns x h
    cases ns with
    | nil =>
      cases h with
      | cons t _ h' => 
        cases h'
        exact ⟨[], _, rfl, .nil⟩
    | cons n ns =>
      cases h with
      | cons _ _ h' =>
        obtain ⟨vs', t, rfl, h2⟩ := ih h'
        exact ⟨_, t, rfl, .cons _ _ h2⟩
theorem Apart.build4 {T R D P : Addr} {t r d p : Obj} {rest : List (Addr × Obj)} (a : T ≠ R) (b : T ≠ D) (c : T ≠ P) (d' : R ≠ D) (e : R ≠ P) (f : D ≠ P)
    (hT : ∀ p ∈ rest, p.1 ≠ T) (hR : ∀ p ∈ rest, p.1 ≠ R) (hD : ∀ p ∈ rest, p.1 ≠ D) (hP : ∀ p ∈ rest, p.1 ≠ P) (h : Apart rest) : Apart ((T, t) :: (R, r) :: (D, d) :: (P, p) :: rest) := by
  simp only [Apart.cons, List.forall_mem_cons]
  exact ⟨⟨Ne.symm a, Ne.symm b, Ne.symm c, hT⟩, ⟨Ne.symm d', Ne.symm e, hR⟩, ⟨Ne.symm f, hD⟩, hP, h⟩
theorem allLt_all {d : Nat} : ∀ {l : List (Addr × Obj)}, AllLt d l → ∀ p ∈ l, @LT.lt Nat _ p.1 d
  | [], _, _, hp => nomatch hp
  | _ :: _, h, p, hp => by
    rcases List.mem_cons.mp hp with rfl | hp
    · exact h.1
    · exact allLt_all h.2 p hp
theorem allLt_ne {d : Nat} {l : List (Addr × Obj)} (h : AllLt d l) : ∀ p ∈ l, p.1 ≠ d := fun p hp => Nat.ne_of_lt (allLt_all h p hp)
theorem RulesAre.get {h : Heap} : ∀ {rs : List Value} {rules : List (List Int)}, RulesAre h rs rules → ∀ {i : Nat} {v : Value}, rs[i]? = some v → ∃ a vs e r, v = .ref a ∧ rules[i]? = some r ∧ h.get? a = some (listOf vs.toArray e) ∧ IntsAre vs r
  | _, _, .nil, i, v, hv => by simp at hv
  | _, _, .cons h1 h2 h3, 0, v, hv => by
    simp at hv
    exact ⟨_, _, _, _, hv.symm, rfl, h1, h2⟩
  | _, _, .cons h1 h2 h3, i + 1, v, hv => by
    obtain ⟨a, vs, e, r, h⟩ := h3.get (i := i) (v := v) (by simpa using hv)
    exact ⟨a, vs, e, r, by simpa using h⟩
theorem RulesAre.length {h : Heap} : ∀ {rs : List Value} {rules : List (List Int)}, RulesAre h rs rules → rs.length = rules.length
  | _, _, .nil => rfl
  | _, _, .cons _ _ h3 => by simp [h3.length]
theorem put_one {told : Str} {pile r : List Int} (h : r.length < 3 ∨ told.length < 2) : put [r] told pile = [(told, pile ++ r)] := by
  unfold put
  rw [List.filter_cons_of_pos (by simpa using h)]
  rfl
theorem put_none {told : Str} {pile r : List Int} (h : ¬ (r.length < 3)) (h' : ¬ told.length < 2) : put [r] told pile = [] := by
  unfold put
  rw [List.filter_cons_of_neg (by simp; lia)]
  rfl
theorem Apart.three {T R P : Addr} {t r p : Obj} {rest : List (Addr × Obj)} (h : Apart ((T, t) :: (R, r) :: (P, p) :: rest)) :
    (∀ p ∈ rest, p.1 ≠ T) ∧ (∀ p ∈ rest, p.1 ≠ R) ∧ (∀ p ∈ rest, p.1 ≠ P) ∧ Apart rest := by
  simp only [Apart.cons, List.forall_mem_cons] at h
  exact ⟨h.1.2.2, h.2.1.2, h.2.2.1, h.2.2.2⟩
theorem nont_apart {T R P D2 D3 I : Nat} {t r p d2 d3 : Obj} {rest : List (Addr × Obj)} (hTR : T ≠ R) (hTP : T ≠ P) (hRP : R ≠ P) (aT : ∀ p ∈ rest, p.1 ≠ T) (aR : ∀ p ∈ rest, p.1 ≠ R) (aP : ∀ p ∈ rest, p.1 ≠ P) (aE : Apart rest)
    (l3 : I < D3 ∧ T < D3 ∧ R < D3 ∧ P < D3 ∧ AllLt D3 rest) (l2 : D3 < D2 ∧ I < D2 ∧ T < D2 ∧ R < D2 ∧ P < D2 ∧ AllLt D2 rest) : Apart ((T, t) :: (R, r) :: (P, p) :: (D2, d2) :: (D3, d3) :: rest) := by
  obtain ⟨a1, a2, a3, a4, a5⟩ := l3
  obtain ⟨b0, b1, b2, b3, b4, b5⟩ := l2
  simp only [Apart.cons, List.forall_mem_cons]
  exact ⟨⟨Ne.symm hTR, Ne.symm hTP, Ne.symm (Nat.ne_of_lt b2), Ne.symm (Nat.ne_of_lt a2), aT⟩, ⟨Ne.symm hRP, Ne.symm (Nat.ne_of_lt b3), Ne.symm (Nat.ne_of_lt a3), aR⟩, ⟨Ne.symm (Nat.ne_of_lt b4), Ne.symm (Nat.ne_of_lt a4), aP⟩, ⟨Nat.ne_of_lt b0, allLt_ne b5⟩, allLt_ne a5, aE⟩
theorem nont_off {T R P D2 D3 I : Nat} {t r p d2 d3 : Obj} {rest : List (Addr × Obj)} (hT : T ≠ I) (hR : R ≠ I) (hP : P ≠ I) (hE : ∀ p ∈ rest, p.1 ≠ I)
    (l3 : I < D3 ∧ T < D3 ∧ R < D3 ∧ P < D3 ∧ AllLt D3 rest) (l2 : D3 < D2 ∧ I < D2 ∧ T < D2 ∧ R < D2 ∧ P < D2 ∧ AllLt D2 rest) : ∀ q ∈ (((T, t) :: (R, r) :: (P, p) :: (D2, d2) :: (D3, d3) :: rest) : List (Addr × Obj)), q.1 ≠ I := by
  simp only [List.forall_mem_cons]
  exact ⟨hT, hR, hP, Ne.symm (Nat.ne_of_lt l2.2.1), Ne.symm (Nat.ne_of_lt l3.1), hE⟩
theorem put_take {rules : List (List Int)} {told : Str} {pile r : List Int} {i : Nat} (h : rules[i]? = some r) : put (rules.take (i + 1)) told pile = put (rules.take i) told pile ++ put [r] told pile := by
  unfold put
  rw [List.take_add_one, h]
  simp
set_option hygiene false in
local macro_rules | `(tactic| walk_at "mMem") => `(tactic| first | (with_reducible assumption) | (with_reducible exact List.mem_cons_self) | (refine List.mem_cons_of_mem _ ?_; walk_at "mMem"))
local macro_rules | `(tactic| walk_at "mSub") => `(tactic| first | (with_reducible exact List.forall_mem_nil _) | (refine' List.forall_mem_cons.mpr ⟨?a_8, ?b_8⟩; (case a_8 => walk_at "mMem"); (case b_8 => walk_at "mSub")) | (intro _ _; walk_at "mMem"))
theorem refsE_cons (e : Ent) (es : List Ent) : refsE (e :: es) = refsE es ++ [Value.ref e.D] := by simp [refsE]
theorem term_end {h₀ h : Heap} {L : Addr} {D2 P T R D : Addr} {told : Str} {tk : Tok} {rl d : Obj} {pvs : List Value} {te pn : Nat} {es : List Ent} (pile : List Int)
   (N : News h₀ L h ((D2, tupO told tk P) :: (T, listOf (refsE es ++ [Value.ref D2]).toArray te) :: (R, rl) :: (D, d) :: (P, listOf pvs.toArray pn) :: entN es)) :
   News h₀ L h ((T, listOf (refsE (⟨D2, P, told, tk, pvs, pn, pile⟩ :: es)).toArray te) :: (R, rl) :: entN (⟨D2, P, told, tk, pvs, pn, pile⟩ :: es)) := by
  refine News.sub N ?_
  rw [refsE_cons]
  show ∀ p ∈ (T, listOf (refsE es ++ [Value.ref D2]).toArray te) :: (R, rl) :: (D2, tupO told tk P) :: (P, listOf pvs.toArray pn) :: entN es, _
  walk_at "mSub"
theorem nont_end {h₀ h : Heap} {L : Addr} {D2 D3 P T R I : Addr} {told : Str} {tk : Tok} {rl pl io : Obj} {pvs : List Value} {te : Nat} {es : List Ent} (pile : List Int)
   (N : News h₀ L h ((D2, tupO told tk D3) :: (D3, listOf pvs.toArray 0) :: (I, io) :: (T, listOf (refsE es ++ [Value.ref D2]).toArray te) :: (R, rl) :: (P, pl) :: entN es)) :
   News h₀ L h ((I, io) :: (T, listOf (refsE (⟨D2, D3, told, tk, pvs, 0, pile⟩ :: es)).toArray te) :: (R, rl) :: (P, pl) :: entN (⟨D2, D3, told, tk, pvs, 0, pile⟩ :: es)) := by
  refine News.sub N ?_
  rw [refsE_cons]
  show ∀ p ∈ (I, io) :: (T, listOf (refsE es ++ [Value.ref D2]).toArray te) :: (R, rl) :: (P, pl) :: (D2, tupO told tk D3) :: (D3, listOf pvs.toArray 0) :: entN es, _
  walk_at "mSub"
set_option hygiene false in
local macro_rules | `(tactic| walk_at "mLt") => `(tactic| with_reducible first | assumption | exact kj0 (by assumption) | exact kj1 (by assumption) | exact kj2 (by assumption) | exact kj3 (by assumption) | exact kj4 (by assumption) | exact kj5 (by assumption) | exact kj6 (by assumption) | exact kj7 (by assumption) | exact kj8 (by assumption) | exact kj9 (by assumption) | exact kj10 (by assumption) | exact kj11 (by assumption) | exact kz1 (by assumption) | exact kz2 (by assumption) | exact kz3 (by assumption) | exact kz4 (by assumption) | exact kz5 (by assumption) | exact kz6 (by assumption) | exact kz7 (by assumption) | exact kn0 (by assumption) | exact kn1 (by assumption) | exact kn2 (by assumption))
set_option hygiene false in
local macro_rules | `(tactic| walk_at "mNe") => `(tactic| first | walk_at "mLt" | exact Ne.symm (by walk_at "mLt") | exact Nat.ne_of_gt (by walk_at "mLt") | exact Nat.ne_of_lt (by walk_at "mLt") | exact Nat.ne_of_lt (Nat.lt_succ_self _) | exact Nat.ne_of_gt (Nat.lt_succ_self _) | k_ne)
set_option hygiene false in
local macro_rules | `(tactic| walk_at "mAll") => `(tactic| first | (with_reducible assumption) | exact List.forall_mem_nil _ | (refine' List.forall_mem_cons.mpr ⟨?a_11, ?b_11⟩; (case a_11 => walk_at "mNe"); (case b_11 => walk_at "mAll")))
set_option hygiene false in
local macro_rules | `(tactic| walk_at "mUpd") => `(tactic| first | (refine Upd.head ?_; walk_at "mAll") | (refine' Upd.tail ?a_12 ?b_12; (case a_12 => walk_at "mNe"); (case b_12 => walk_at "mUpd")))
set_option hygiene false in
local macro_rules | `(tactic| walk_at "mSides") => `(tactic| ((case kB => with_reducible assumption); (case kF => with_reducible assumption); (case kX => with_reducible assumption); (case kN => with_reducible assumption); (case kT => with_reducible assumption); (case kK => first | exact rfl | assumption); (case kd => first | lia | ktr_room); (case ku => first | lia | ktr_units)))

inductive WrtJ1 (R : Addr) (fin : List Str) (m : Str → Option Value) (nx : List (Addr × Obj)) : Prop
  | mk (rvs : List Value) (re : Nat) (j0 : Agree m [("row", .ref R)]) (j1 : nx = [(R, listOf rvs.toArray re)]) (j2 : StrsAre rvs fin) : WrtJ1 R fin m nx
inductive WrtJ2 (l : Addr) (R : Addr) (T : Addr) (P : Addr) (told : Str) (tk : Tok) (rvs : List Value) (re : Nat) (pvs : List Value) (pn : Nat) (rules : List (List Int)) (pile : List Int) (es : List Ent) (i : Nat) (m : Str → Option Value) (nx : List (Addr × Obj)) : Prop
  | mk (es1 : List Ent) (te : Nat) (j0 : Agree m [("rules", .ref l), ("row", .ref R), ("todo", .ref T), ("told", .str told tk), ("pile", .ref P)]) (j1 : nx = (T, listOf (refsE es1).toArray te) :: (R, listOf rvs.toArray re) :: (P, listOf pvs.toArray (pn + 1)) :: entN es1) (j2 : Apart nx) (j3 : (∀ e ∈ es1, IntsAre e.vs e.ns)) (j4 : todoE es1 = (put (rules.take i) told pile).reverse ++ todoE es) (j5 : es1.length ≤ es.length + i) : WrtJ2 l R T P told tk rvs re pvs pn rules pile es i m nx
theorem written_contract (prog : Program) (w : World) (l : Addr) (rs : List Value) (le : Nat) (rules : List (List Int)) (n : Nat) (fin : List Str) (hrun : Runs rules n [] [(⟨#[]⟩, [0, 256])] fin) (hrl : rules.length ≤ 3) (hrr : ∀ r ∈ rules, r.length ≤ 3) :
   Call37 prog w 65 [.ref l] (fun h => h.get? l = some (listOf rs.toArray le) ∧ RulesAre h rs rules) 12 (fun r new => ∃ R rvs re, r = .ref R ∧ new = [(R, listOf rvs.toArray re)] ∧ StrsAre rvs fin) := by
  intro mean mg mb dp un gd cn cs a ccd cl outer A₀ base h₀ L m s Q E B F KX T hk hdep hun hpre hret
  (refine wpAny_call ?_; k_dflt (refine' enter37 ?k1 ?k2 ?k3 ?k5 ?kA ?kF ?kK ?k6 ?k7 ?k8 ?k9 ?kB ?_ ?c2 ?c3 ?c4 ?c5; (case kA => exact rfl); (case kF => exact rfl); (case kK => assumption); (case k1 => k_asm); (case k2 => k_asm); (case k3 => k_asm); (case k5 => k_asm); (case k6 => k_is); (case k7 => k_is); (case k8 => ktr_room); (case k9 => exact BindsTo.of_eq rfl); (case c5 => decide); (case kB => exact locs rfl); (case c2 => exact rfl); (case c3 => exact rfl); (case c4 => exact rfl); k_whole))
  intro L₁ h₁ F₁ N₁ B₁ X₁ T₁
  clear B F KX T
  (try dsimp only)
  k_fold
  (repeat' (first | walk_at "mGo" | ((try with_reducible show wpAny _ _ _ _ _ _); (fail_if_success (walk_at "mSt")); first | ((with_reducible show wpAny _ _ (call _ _) _ _ _); first | ((with_reducible show wpAny _ _ (call (Value.builtin "list.pop") _) _ _ _); (refine' kl_pop ?F1 ?N1 (kl_last_snoc _ _) ?U1 ?z1 ?_; (case F1 => with_reducible assumption); (case N1 => with_reducible assumption); (case U1 => walk_at "mUpd"); (case z1 => (simp only [sizeLine_eq, List.length_append, List.length_cons, List.length_nil]; lia)); intro _ _ _)) | ((with_reducible show wpAny _ _ (call (Value.ref _) _) _ _ _); k_dflt (first | (refine' use37 (f := 58) (eof_contract _ _ _ _) ?kB ?kF ?kX ?kN ?kT ?kK ?kd ?ku trivial ?_) | (refine' use37 (f := 51) (nont_contract _ _ _ _) ?kB ?kF ?kX ?kN ?kT ?kK ?kd ?ku trivial ?_) | (refine' use37 (f := 44) (term_contract _ _ _ _) ?kB ?kF ?kX ?kN ?kT ?kK ?kd ?ku trivial ?_)); walk_at "mSides"; intro r' new' h' tk' hP' _ F' N'; (obtain ⟨e1', e2'⟩ := hP'); subst e1' e2'; (try simp only [List.nil_append] at N')) | ((with_reducible show wpAny _ _ (call (Value.builtin "chr") _) _ _ _); (refine chr_of_range (by lia) (by lia) ?_)) | ((with_reducible show wpAny _ _ (call (Value.builtin "len") [Value.ref _]) _ _ _); (refine len_list (Fr.lst (by with_reducible assumption) (by with_reducible assumption)) (by rw [List.size_toArray]; lia) ?_; (try rw [List.size_toArray]))) | ((with_reducible show wpAny _ _ (call (Value.builtin "list.append") [Value.ref _, _]) _ _ _); (k_dflt (refine' append_K ?F8 ?N8 ?U8 ?_ ?z8; (case F8 => with_reducible assumption); (case N8 => with_reducible assumption); (case U8 => walk_at "mUpd"); (case z8 => (simp only [sizeLine_eq, List.size_toArray]; lia))); intro h' F' N'; (try simp only [List.push_toArray] at N')))) | ((with_reducible show wpAny _ _ (truthy (Value.ref _)) _ _ _); (refine kgr_truthy (by with_reducible assumption) (.head _) rfl rfl (by with_reducible assumption) ?_; simp only [List.isEmpty_append, List.isEmpty_cons, List.isEmpty_nil, Bool.and_false, Bool.not_false, Bool.not_true])) | ((with_reducible show wpAny _ _ (subscriptTail (Expr.Name _ _) (Expr.Slice _ _ _ _) (Value.ref _) (Value.ref _)) _ _ _); ((with_reducible rename Fr _ _ _ _ => F'); (with_reducible rename News _ _ _ _ => N'); (refine slice_one37 F' N' (News.isList N' (.tail _ (.head _))) ?_ (by lia)); clear F' N'; intro D' h' F' N' l1; (try k_lt l1))) | ((with_reducible show wpAny _ _ (binaryOp Operator.Add (Value.ref _) (Value.ref _)) _ _ _); ((with_reducible rename Fr _ _ _ _ => F'); (with_reducible rename News _ _ _ _ => N'); (refine kmk_add_ints F' N' (News.isList N' (.tail _ (.tail _ (.tail _ (.head _))))) (Fr.lst F' (by with_reducible assumption)) (by with_reducible assumption) (by with_reducible assumption) ?_ (by simp only [sizeLine_eq]; lia)); clear F' N'; intro D' us' h' F' N' l1 hI'; (try k_lt l1))) | walk1 | (dsimp only; walk1))))
  rename Fr _ _ _ _ => Fa
  rename News _ _ _ _ => Na
  refine start4 Na ?_ ?_ ?_ ?_
  · lia
  · lia
  · lia
  clear Na
  rintro T R D P rfl rfl rfl rfl Na hAp
  refine while_led (WrJ rules fin l R T) (WrtJ1 R fin) n Fa Na ?_ ?_ ?_ PassesOwn.never
  · exact ⟨[], [⟨D, P, _, _, _, _, _⟩], [], _, _, .cons rfl (.cons rfl (.cons rfl .nil)), rfl, hAp, trivial, List.forall_mem_cons.mpr ⟨.cons _ _ (.cons _ _ .nil), List.forall_mem_nil _⟩, hrun⟩
  · rintro n m₁ nx h₂ tk₂ F₂ N₂ ⟨row, es, rvs, re, te, hag, rfl, hap, hrow, hes, hr⟩
    clear Fa Na
    replace F₂ := hag.fr F₂
    cases es with
    | nil =>
      have hT62 : ([] : List Value).length < 2 ^ 62 := by decide
      rw [show refsE [] = [] from rfl] at N₂
      (repeat' (first | walk_at "mGo" | ((try with_reducible show wpAny _ _ _ _ _ _); (fail_if_success (walk_at "mSt")); first | ((with_reducible show wpAny _ _ (call _ _) _ _ _); first | ((with_reducible show wpAny _ _ (call (Value.builtin "list.pop") _) _ _ _); (refine' kl_pop ?F1 ?N1 (kl_last_snoc _ _) ?U1 ?z1 ?_; (case F1 => with_reducible assumption); (case N1 => with_reducible assumption); (case U1 => walk_at "mUpd"); (case z1 => (simp only [sizeLine_eq, List.length_append, List.length_cons, List.length_nil]; lia)); intro _ _ _)) | ((with_reducible show wpAny _ _ (call (Value.ref _) _) _ _ _); k_dflt (first | (refine' use37 (f := 58) (eof_contract _ _ _ _) ?kB ?kF ?kX ?kN ?kT ?kK ?kd ?ku trivial ?_) | (refine' use37 (f := 51) (nont_contract _ _ _ _) ?kB ?kF ?kX ?kN ?kT ?kK ?kd ?ku trivial ?_) | (refine' use37 (f := 44) (term_contract _ _ _ _) ?kB ?kF ?kX ?kN ?kT ?kK ?kd ?ku trivial ?_)); walk_at "mSides"; intro r' new' h' tk' hP' _ F' N'; (obtain ⟨e1', e2'⟩ := hP'); subst e1' e2'; (try simp only [List.nil_append] at N')) | ((with_reducible show wpAny _ _ (call (Value.builtin "chr") _) _ _ _); (refine chr_of_range (by lia) (by lia) ?_)) | ((with_reducible show wpAny _ _ (call (Value.builtin "len") [Value.ref _]) _ _ _); (refine len_list (Fr.lst (by with_reducible assumption) (by with_reducible assumption)) (by rw [List.size_toArray]; lia) ?_; (try rw [List.size_toArray]))) | ((with_reducible show wpAny _ _ (call (Value.builtin "list.append") [Value.ref _, _]) _ _ _); (k_dflt (refine' append_K ?F8 ?N8 ?U8 ?_ ?z8; (case F8 => with_reducible assumption); (case N8 => with_reducible assumption); (case U8 => walk_at "mUpd"); (case z8 => (simp only [sizeLine_eq, List.size_toArray]; lia))); intro h' F' N'; (try simp only [List.push_toArray] at N')))) | ((with_reducible show wpAny _ _ (truthy (Value.ref _)) _ _ _); (refine kgr_truthy (by with_reducible assumption) (.head _) rfl rfl (by with_reducible assumption) ?_; simp only [List.isEmpty_append, List.isEmpty_cons, List.isEmpty_nil, Bool.and_false, Bool.not_false, Bool.not_true])) | ((with_reducible show wpAny _ _ (subscriptTail (Expr.Name _ _) (Expr.Slice _ _ _ _) (Value.ref _) (Value.ref _)) _ _ _); ((with_reducible rename Fr _ _ _ _ => F'); (with_reducible rename News _ _ _ _ => N'); (refine slice_one37 F' N' (News.isList N' (.tail _ (.head _))) ?_ (by lia)); clear F' N'; intro D' h' F' N' l1; (try k_lt l1))) | ((with_reducible show wpAny _ _ (binaryOp Operator.Add (Value.ref _) (Value.ref _)) _ _ _); ((with_reducible rename Fr _ _ _ _ => F'); (with_reducible rename News _ _ _ _ => N'); (refine kmk_add_ints F' N' (News.isList N' (.tail _ (.tail _ (.tail _ (.head _))))) (Fr.lst F' (by with_reducible assumption)) (by with_reducible assumption) (by with_reducible assumption) ?_ (by simp only [sizeLine_eq]; lia)); clear F' N'; intro D' us' h' F' N' l1 hI'; (try k_lt l1))) | walk1 | (dsimp only; walk1))))
      · rename decide (0 < 0) = true => hq
        exact absurd hq (by decide)
      rename Fr _ _ _ _ => Fz
      rename News _ _ _ _ => Nz
      cases hr
      have Nz' : News s.heap L₁ h₂ [(R, listOf rvs.toArray re)] := News.sub Nz (fun p hp => by rw [List.mem_singleton.mp hp]; exact .tail _ (.head _))
      exact EndL.intro Fz Nz' ⟨rvs, re, .cons rfl .nil, rfl, hrow⟩
    | cons e es =>
      refine hideG ?_; intro Gh kGh
      obtain ⟨D, P, told, tk, pvs, pn, ns⟩ := e
      refine kGh ?_; clear kGh Gh
      have hes1 : IntsAre pvs ns := hes _ (.head _)
      have hes2 : ∀ e ∈ es, IntsAre e.vs e.ns := fun e he => hes e (.tail _ he)
      clear hes hrun hret hag
      have hrf : refsE (⟨D, P, told, tk, pvs, pn, ns⟩ :: es) = refsE es ++ [.ref D] := by simp [refsE]
      have hrl : (refsE es).length = es.length := by simp [refsE]
      rw [hrf] at N₂ hap
      simp only [entN] at N₂ hap
      simp only [todoE, List.map_cons] at hr
      refine hideG ?_; intro Gh kGh
      refine and11 hap.four ?_; intro hTR hTD hTP hRD hRP hDP hET hER hED hEP hEE
      refine kGh ?_; clear kGh Gh
      clear hap hrf
      have hle : es.length ≤ 50 := by cases hr <;> rename (List.map _ es).length ≤ 50 => hq <;> simpa using hq
      have hT62 : (refsE es ++ [Value.ref D]).length < 2 ^ 62 := by rw [List.length_append, hrl, List.length_singleton]; lia
      have hTne : (refsE es ++ [Value.ref D]).isEmpty = false := by simp
      cases hr with
      | eof hS h1 h2 h3 h4 hok hr =>
        refine hideG ?_; intro Gh kGh
        refine ex2 (ints_snoc hes1) ?_; intro pvs tx hx_; refine and2 hx_ ?_; intro e0_ hes3; subst e0_; clear hx_
        refine kGh ?_; clear kGh Gh
        have hpl := hes3.length
        clear hes1
        (repeat' (first | walk_at "mGo" | ((try with_reducible show wpAny _ _ _ _ _ _); (fail_if_success (walk_at "mSt")); first | ((with_reducible show wpAny _ _ (call _ _) _ _ _); first | ((with_reducible show wpAny _ _ (call (Value.builtin "list.pop") _) _ _ _); (refine' kl_pop ?F1 ?N1 (kl_last_snoc _ _) ?U1 ?z1 ?_; (case F1 => with_reducible assumption); (case N1 => with_reducible assumption); (case U1 => walk_at "mUpd"); (case z1 => (simp only [sizeLine_eq, List.length_append, List.length_cons, List.length_nil]; lia)); intro _ _ _)) | ((with_reducible show wpAny _ _ (call (Value.ref _) _) _ _ _); k_dflt (first | (refine' use37 (f := 58) (eof_contract _ _ _ _) ?kB ?kF ?kX ?kN ?kT ?kK ?kd ?ku trivial ?_) | (refine' use37 (f := 51) (nont_contract _ _ _ _) ?kB ?kF ?kX ?kN ?kT ?kK ?kd ?ku trivial ?_) | (refine' use37 (f := 44) (term_contract _ _ _ _) ?kB ?kF ?kX ?kN ?kT ?kK ?kd ?ku trivial ?_)); walk_at "mSides"; intro r' new' h' tk' hP' _ F' N'; (obtain ⟨e1', e2'⟩ := hP'); subst e1' e2'; (try simp only [List.nil_append] at N')) | ((with_reducible show wpAny _ _ (call (Value.builtin "chr") _) _ _ _); (refine chr_of_range (by lia) (by lia) ?_)) | ((with_reducible show wpAny _ _ (call (Value.builtin "len") [Value.ref _]) _ _ _); (refine len_list (Fr.lst (by with_reducible assumption) (by with_reducible assumption)) (by rw [List.size_toArray]; lia) ?_; (try rw [List.size_toArray]))) | ((with_reducible show wpAny _ _ (call (Value.builtin "list.append") [Value.ref _, _]) _ _ _); (k_dflt (refine' append_K ?F8 ?N8 ?U8 ?_ ?z8; (case F8 => with_reducible assumption); (case N8 => with_reducible assumption); (case U8 => walk_at "mUpd"); (case z8 => (simp only [sizeLine_eq, List.size_toArray]; lia))); intro h' F' N'; (try simp only [List.push_toArray] at N')))) | ((with_reducible show wpAny _ _ (truthy (Value.ref _)) _ _ _); (refine kgr_truthy (by with_reducible assumption) (.head _) rfl rfl (by with_reducible assumption) ?_; simp only [List.isEmpty_append, List.isEmpty_cons, List.isEmpty_nil, Bool.and_false, Bool.not_false, Bool.not_true])) | ((with_reducible show wpAny _ _ (subscriptTail (Expr.Name _ _) (Expr.Slice _ _ _ _) (Value.ref _) (Value.ref _)) _ _ _); ((with_reducible rename Fr _ _ _ _ => F'); (with_reducible rename News _ _ _ _ => N'); (refine slice_one37 F' N' (News.isList N' (.tail _ (.head _))) ?_ (by lia)); clear F' N'; intro D' h' F' N' l1; (try k_lt l1))) | ((with_reducible show wpAny _ _ (binaryOp Operator.Add (Value.ref _) (Value.ref _)) _ _ _); ((with_reducible rename Fr _ _ _ _ => F'); (with_reducible rename News _ _ _ _ => N'); (refine kmk_add_ints F' N' (News.isList N' (.tail _ (.tail _ (.tail _ (.head _))))) (Fr.lst F' (by with_reducible assumption)) (by with_reducible assumption) (by with_reducible assumption) ?_ (by simp only [sizeLine_eq]; lia)); clear F' N'; intro D' us' h' F' N' l1 hI'; (try k_lt l1))) | walk1 | (dsimp only; walk1))))
        have hsb : StrsAre rvs row := hrow
        have hrv := hrow.length
        k_dflt (refine' use37 (f := 37) (bisect_contract _ _ R rvs re row told tk (by lia) hS) ?kB ?kF ?kX ?kN ?kT ?kK ?kd ?ku ?kp ?_)
        (case kp => rename News _ _ _ _ => Nz; exact ⟨(Nz _ (.tail _ (.head _))).1, hrow⟩)
        walk_at "mSides"
        rintro r' new' h' tk' ⟨rfl, t', k, rfl, hk, hb1, hb2⟩ - F' N'
        simp only [List.nil_append] at N'
        have hins := insS_at hS hk hb1 hb2
        have hok1 : ((row.drop k).take 1).all PyData.strOk = true := by
          simp only [List.all_cons, Bool.and_eq_true, List.all_eq_true] at hok ⊢
          exact fun x hx => hok.2 x (List.mem_of_mem_drop (List.mem_of_mem_take hx))
        have hok2 : [told].all PyData.strOk = true := by
          simp only [List.all_cons, List.all_nil, Bool.and_eq_true] at hok ⊢
          exact ⟨hok.1, trivial⟩
        have hpk := (hrow.drop k).take 1
        have htk := StrsAre.one told tk
        (repeat' (first | walk_at "mGo" | ((try with_reducible show wpAny _ _ _ _ _ _); (fail_if_success (walk_at "mSt")); first | ((with_reducible show wpAny _ _ (call _ _) _ _ _); first | ((with_reducible show wpAny _ _ (call (Value.builtin "list.pop") _) _ _ _); (refine' kl_pop ?F1 ?N1 (kl_last_snoc _ _) ?U1 ?z1 ?_; (case F1 => with_reducible assumption); (case N1 => with_reducible assumption); (case U1 => walk_at "mUpd"); (case z1 => (simp only [sizeLine_eq, List.length_append, List.length_cons, List.length_nil]; lia)); intro _ _ _)) | ((with_reducible show wpAny _ _ (call (Value.ref _) _) _ _ _); k_dflt (first | (refine' use37 (f := 58) (eof_contract _ _ _ _) ?kB ?kF ?kX ?kN ?kT ?kK ?kd ?ku trivial ?_) | (refine' use37 (f := 51) (nont_contract _ _ _ _) ?kB ?kF ?kX ?kN ?kT ?kK ?kd ?ku trivial ?_) | (refine' use37 (f := 44) (term_contract _ _ _ _) ?kB ?kF ?kX ?kN ?kT ?kK ?kd ?ku trivial ?_)); walk_at "mSides"; intro r' new' h' tk' hP' _ F' N'; (obtain ⟨e1', e2'⟩ := hP'); subst e1' e2'; (try simp only [List.nil_append] at N')) | ((with_reducible show wpAny _ _ (call (Value.builtin "chr") _) _ _ _); (refine chr_of_range (by lia) (by lia) ?_)) | ((with_reducible show wpAny _ _ (call (Value.builtin "len") [Value.ref _]) _ _ _); (refine len_list (Fr.lst (by with_reducible assumption) (by with_reducible assumption)) (by rw [List.size_toArray]; lia) ?_; (try rw [List.size_toArray]))) | ((with_reducible show wpAny _ _ (call (Value.builtin "list.append") [Value.ref _, _]) _ _ _); (k_dflt (refine' append_K ?F8 ?N8 ?U8 ?_ ?z8; (case F8 => with_reducible assumption); (case N8 => with_reducible assumption); (case U8 => walk_at "mUpd"); (case z8 => (simp only [sizeLine_eq, List.size_toArray]; lia))); intro h' F' N'; (try simp only [List.push_toArray] at N')))) | ((with_reducible show wpAny _ _ (truthy (Value.ref _)) _ _ _); (refine kgr_truthy (by with_reducible assumption) (.head _) rfl rfl (by with_reducible assumption) ?_; simp only [List.isEmpty_append, List.isEmpty_cons, List.isEmpty_nil, Bool.and_false, Bool.not_false, Bool.not_true])) | ((with_reducible show wpAny _ _ (subscriptTail (Expr.Name _ _) (Expr.Slice _ _ _ _) (Value.ref _) (Value.ref _)) _ _ _); ((with_reducible rename Fr _ _ _ _ => F'); (with_reducible rename News _ _ _ _ => N'); (refine slice_one37 F' N' (News.isList N' (.tail _ (.head _))) ?_ (by lia)); clear F' N'; intro D' h' F' N' l1; (try k_lt l1))) | ((with_reducible show wpAny _ _ (binaryOp Operator.Add (Value.ref _) (Value.ref _)) _ _ _); ((with_reducible rename Fr _ _ _ _ => F'); (with_reducible rename News _ _ _ _ => N'); (refine kmk_add_ints F' N' (News.isList N' (.tail _ (.tail _ (.tail _ (.head _))))) (Fr.lst F' (by with_reducible assumption)) (by with_reducible assumption) (by with_reducible assumption) ?_ (by simp only [sizeLine_eq]; lia)); clear F' N'; intro D' us' h' F' N' l1 hI'; (try k_lt l1))) | walk1 | (dsimp only; walk1))))
        refine ne_strs37 (News.isList (by with_reducible assumption) (.tail _ (.head _))) (News.isList (by with_reducible assumption) (.head _)) (by with_reducible assumption) (by with_reducible assumption) (by with_reducible assumption) (by with_reducible assumption) (by ke_room) ?_
        clear hsb hpk htk hok1 hok2 hb1 hb2
        (repeat' (first | walk_at "mGo" | ((try with_reducible show wpAny _ _ _ _ _ _); (fail_if_success (walk_at "mSt")); first | ((with_reducible show wpAny _ _ (call _ _) _ _ _); first | ((with_reducible show wpAny _ _ (call (Value.builtin "list.pop") _) _ _ _); (refine' kl_pop ?F1 ?N1 (kl_last_snoc _ _) ?U1 ?z1 ?_; (case F1 => with_reducible assumption); (case N1 => with_reducible assumption); (case U1 => walk_at "mUpd"); (case z1 => (simp only [sizeLine_eq, List.length_append, List.length_cons, List.length_nil]; lia)); intro _ _ _)) | ((with_reducible show wpAny _ _ (call (Value.ref _) _) _ _ _); k_dflt (first | (refine' use37 (f := 58) (eof_contract _ _ _ _) ?kB ?kF ?kX ?kN ?kT ?kK ?kd ?ku trivial ?_) | (refine' use37 (f := 51) (nont_contract _ _ _ _) ?kB ?kF ?kX ?kN ?kT ?kK ?kd ?ku trivial ?_) | (refine' use37 (f := 44) (term_contract _ _ _ _) ?kB ?kF ?kX ?kN ?kT ?kK ?kd ?ku trivial ?_)); walk_at "mSides"; intro r' new' h' tk' hP' _ F' N'; (obtain ⟨e1', e2'⟩ := hP'); subst e1' e2'; (try simp only [List.nil_append] at N')) | ((with_reducible show wpAny _ _ (call (Value.builtin "chr") _) _ _ _); (refine chr_of_range (by lia) (by lia) ?_)) | ((with_reducible show wpAny _ _ (call (Value.builtin "len") [Value.ref _]) _ _ _); (refine len_list (Fr.lst (by with_reducible assumption) (by with_reducible assumption)) (by rw [List.size_toArray]; lia) ?_; (try rw [List.size_toArray]))) | ((with_reducible show wpAny _ _ (call (Value.builtin "list.append") [Value.ref _, _]) _ _ _); (k_dflt (refine' append_K ?F8 ?N8 ?U8 ?_ ?z8; (case F8 => with_reducible assumption); (case N8 => with_reducible assumption); (case U8 => walk_at "mUpd"); (case z8 => (simp only [sizeLine_eq, List.size_toArray]; lia))); intro h' F' N'; (try simp only [List.push_toArray] at N')))) | ((with_reducible show wpAny _ _ (truthy (Value.ref _)) _ _ _); (refine kgr_truthy (by with_reducible assumption) (.head _) rfl rfl (by with_reducible assumption) ?_; simp only [List.isEmpty_append, List.isEmpty_cons, List.isEmpty_nil, Bool.and_false, Bool.not_false, Bool.not_true])) | ((with_reducible show wpAny _ _ (subscriptTail (Expr.Name _ _) (Expr.Slice _ _ _ _) (Value.ref _) (Value.ref _)) _ _ _); ((with_reducible rename Fr _ _ _ _ => F'); (with_reducible rename News _ _ _ _ => N'); (refine slice_one37 F' N' (News.isList N' (.tail _ (.head _))) ?_ (by lia)); clear F' N'; intro D' h' F' N' l1; (try k_lt l1))) | ((with_reducible show wpAny _ _ (binaryOp Operator.Add (Value.ref _) (Value.ref _)) _ _ _); ((with_reducible rename Fr _ _ _ _ => F'); (with_reducible rename News _ _ _ _ => N'); (refine kmk_add_ints F' N' (News.isList N' (.tail _ (.tail _ (.tail _ (.head _))))) (Fr.lst F' (by with_reducible assumption)) (by with_reducible assumption) (by with_reducible assumption) ?_ (by simp only [sizeLine_eq]; lia)); clear F' N'; intro D' us' h' F' N' l1 hI'; (try k_lt l1))) | walk1 | (dsimp only; walk1))))
        · rename Fr _ _ _ _ => Fz
          rename News _ _ _ _ => Nz
          rename List.take 1 (List.drop k row) = [told] => hq
          rw [if_pos (take_one_iff.mp hq)] at hins
          rw [hins] at hr
          have Nz' := News.sub Nz (nx' := (T, listOf (refsE es).toArray (te + 1)) :: (R, listOf rvs.toArray re) :: entN es) (by walk_at "mSub")
          refine EndL.intro Fz Nz' ?_
          exact ⟨_, Nat.lt_succ_self _, row, es, rvs, re, te + 1, .cons rfl (.cons rfl (.cons rfl .nil)), rfl, Apart.cons.mpr ⟨List.forall_mem_cons.mpr ⟨Ne.symm hTR, hET⟩, Apart.cons.mpr ⟨hER, hEE⟩⟩, hrow, hes2, hr⟩
        · refine' kl_insert (its := rvs.toArray) ?F ?N ?f (kl_ins_nat rvs k (Value.str told tk) (by lia)) ?U ?z ?_
          case F => with_reducible assumption
          case N => with_reducible assumption
          case U => walk_at "mUpd"
          case f => simp [Builtin.List.listFitsIndex]; lia
          case z => simp only [sizeLine_eq]; lia
          intro h' F' N'
          (repeat' (first | walk_at "mGo" | ((try with_reducible show wpAny _ _ _ _ _ _); (fail_if_success (walk_at "mSt")); first | ((with_reducible show wpAny _ _ (call _ _) _ _ _); first | ((with_reducible show wpAny _ _ (call (Value.builtin "list.pop") _) _ _ _); (refine' kl_pop ?F1 ?N1 (kl_last_snoc _ _) ?U1 ?z1 ?_; (case F1 => with_reducible assumption); (case N1 => with_reducible assumption); (case U1 => walk_at "mUpd"); (case z1 => (simp only [sizeLine_eq, List.length_append, List.length_cons, List.length_nil]; lia)); intro _ _ _)) | ((with_reducible show wpAny _ _ (call (Value.ref _) _) _ _ _); k_dflt (first | (refine' use37 (f := 58) (eof_contract _ _ _ _) ?kB ?kF ?kX ?kN ?kT ?kK ?kd ?ku trivial ?_) | (refine' use37 (f := 51) (nont_contract _ _ _ _) ?kB ?kF ?kX ?kN ?kT ?kK ?kd ?ku trivial ?_) | (refine' use37 (f := 44) (term_contract _ _ _ _) ?kB ?kF ?kX ?kN ?kT ?kK ?kd ?ku trivial ?_)); walk_at "mSides"; intro r' new' h' tk' hP' _ F' N'; (obtain ⟨e1', e2'⟩ := hP'); subst e1' e2'; (try simp only [List.nil_append] at N')) | ((with_reducible show wpAny _ _ (call (Value.builtin "chr") _) _ _ _); (refine chr_of_range (by lia) (by lia) ?_)) | ((with_reducible show wpAny _ _ (call (Value.builtin "len") [Value.ref _]) _ _ _); (refine len_list (Fr.lst (by with_reducible assumption) (by with_reducible assumption)) (by rw [List.size_toArray]; lia) ?_; (try rw [List.size_toArray]))) | ((with_reducible show wpAny _ _ (call (Value.builtin "list.append") [Value.ref _, _]) _ _ _); (k_dflt (refine' append_K ?F8 ?N8 ?U8 ?_ ?z8; (case F8 => with_reducible assumption); (case N8 => with_reducible assumption); (case U8 => walk_at "mUpd"); (case z8 => (simp only [sizeLine_eq, List.size_toArray]; lia))); intro h' F' N'; (try simp only [List.push_toArray] at N')))) | ((with_reducible show wpAny _ _ (truthy (Value.ref _)) _ _ _); (refine kgr_truthy (by with_reducible assumption) (.head _) rfl rfl (by with_reducible assumption) ?_; simp only [List.isEmpty_append, List.isEmpty_cons, List.isEmpty_nil, Bool.and_false, Bool.not_false, Bool.not_true])) | ((with_reducible show wpAny _ _ (subscriptTail (Expr.Name _ _) (Expr.Slice _ _ _ _) (Value.ref _) (Value.ref _)) _ _ _); ((with_reducible rename Fr _ _ _ _ => F'); (with_reducible rename News _ _ _ _ => N'); (refine slice_one37 F' N' (News.isList N' (.tail _ (.head _))) ?_ (by lia)); clear F' N'; intro D' h' F' N' l1; (try k_lt l1))) | ((with_reducible show wpAny _ _ (binaryOp Operator.Add (Value.ref _) (Value.ref _)) _ _ _); ((with_reducible rename Fr _ _ _ _ => F'); (with_reducible rename News _ _ _ _ => N'); (refine kmk_add_ints F' N' (News.isList N' (.tail _ (.tail _ (.tail _ (.head _))))) (Fr.lst F' (by with_reducible assumption)) (by with_reducible assumption) (by with_reducible assumption) ?_ (by simp only [sizeLine_eq]; lia)); clear F' N'; intro D' us' h' F' N' l1 hI'; (try k_lt l1))) | walk1 | (dsimp only; walk1))))
          rename Fr _ _ _ _ => Fz
          rename News _ _ _ _ => Nz
          rename ¬ List.take 1 (List.drop k row) = [told] => hq
          rw [if_neg (fun e => hq (take_one_iff.mpr e))] at hins
          rw [hins] at hr
          have Nz' := News.sub Nz (nx' := (T, listOf (refsE es).toArray (te + 1)) :: (R, listOf (rvs.take k ++ Value.str told tk :: rvs.drop k).toArray (re + 1)) :: entN es) (by walk_at "mSub")
          refine EndL.intro Fz Nz' ?_
          exact ⟨_, Nat.lt_succ_self _, _, es, _, re + 1, te + 1, .cons rfl (.cons rfl (.cons rfl .nil)), rfl, Apart.cons.mpr ⟨List.forall_mem_cons.mpr ⟨Ne.symm hTR, hET⟩, Apart.cons.mpr ⟨hER, hEE⟩⟩, (hrow.take k).app (show StrsAre (Value.str told tk :: rvs.drop k) (told :: row.drop k) from ⟨⟨_, rfl⟩, hrow.drop k⟩), hes2, hr⟩
      | nont h1 h2 h3 h4 hx hr =>
        rename Int => x
        rename List Int => pile
        rename Nat => n
        refine hideG ?_; intro Gh kGh
        refine ex2 (ints_snoc hes1) ?_; intro pvs tx hx_; refine and2 hx_ ?_; intro e0_ hes3; subst e0_; clear hx_
        refine kGh ?_; clear kGh Gh
        have hpl := hes3.length
        clear hes1
        (repeat' (first | walk_at "mGo" | ((try with_reducible show wpAny _ _ _ _ _ _); (fail_if_success (walk_at "mSt")); first | ((with_reducible show wpAny _ _ (call _ _) _ _ _); first | ((with_reducible show wpAny _ _ (call (Value.builtin "list.pop") _) _ _ _); (refine' kl_pop ?F1 ?N1 (kl_last_snoc _ _) ?U1 ?z1 ?_; (case F1 => with_reducible assumption); (case N1 => with_reducible assumption); (case U1 => walk_at "mUpd"); (case z1 => (simp only [sizeLine_eq, List.length_append, List.length_cons, List.length_nil]; lia)); intro _ _ _)) | ((with_reducible show wpAny _ _ (call (Value.ref _) _) _ _ _); k_dflt (first | (refine' use37 (f := 58) (eof_contract _ _ _ _) ?kB ?kF ?kX ?kN ?kT ?kK ?kd ?ku trivial ?_) | (refine' use37 (f := 51) (nont_contract _ _ _ _) ?kB ?kF ?kX ?kN ?kT ?kK ?kd ?ku trivial ?_) | (refine' use37 (f := 44) (term_contract _ _ _ _) ?kB ?kF ?kX ?kN ?kT ?kK ?kd ?ku trivial ?_)); walk_at "mSides"; intro r' new' h' tk' hP' _ F' N'; (obtain ⟨e1', e2'⟩ := hP'); subst e1' e2'; (try simp only [List.nil_append] at N')) | ((with_reducible show wpAny _ _ (call (Value.builtin "chr") _) _ _ _); (refine chr_of_range (by lia) (by lia) ?_)) | ((with_reducible show wpAny _ _ (call (Value.builtin "len") [Value.ref _]) _ _ _); (refine len_list (Fr.lst (by with_reducible assumption) (by with_reducible assumption)) (by rw [List.size_toArray]; lia) ?_; (try rw [List.size_toArray]))) | ((with_reducible show wpAny _ _ (call (Value.builtin "list.append") [Value.ref _, _]) _ _ _); (k_dflt (refine' append_K ?F8 ?N8 ?U8 ?_ ?z8; (case F8 => with_reducible assumption); (case N8 => with_reducible assumption); (case U8 => walk_at "mUpd"); (case z8 => (simp only [sizeLine_eq, List.size_toArray]; lia))); intro h' F' N'; (try simp only [List.push_toArray] at N')))) | ((with_reducible show wpAny _ _ (truthy (Value.ref _)) _ _ _); (refine kgr_truthy (by with_reducible assumption) (.head _) rfl rfl (by with_reducible assumption) ?_; simp only [List.isEmpty_append, List.isEmpty_cons, List.isEmpty_nil, Bool.and_false, Bool.not_false, Bool.not_true])) | ((with_reducible show wpAny _ _ (subscriptTail (Expr.Name _ _) (Expr.Slice _ _ _ _) (Value.ref _) (Value.ref _)) _ _ _); ((with_reducible rename Fr _ _ _ _ => F'); (with_reducible rename News _ _ _ _ => N'); (refine slice_one37 F' N' (News.isList N' (.tail _ (.head _))) ?_ (by lia)); clear F' N'; intro D' h' F' N' l1; (try k_lt l1))) | ((with_reducible show wpAny _ _ (binaryOp Operator.Add (Value.ref _) (Value.ref _)) _ _ _); ((with_reducible rename Fr _ _ _ _ => F'); (with_reducible rename News _ _ _ _ => N'); (refine kmk_add_ints F' N' (News.isList N' (.tail _ (.tail _ (.tail _ (.head _))))) (Fr.lst F' (by with_reducible assumption)) (by with_reducible assumption) (by with_reducible assumption) ?_ (by simp only [sizeLine_eq]; lia)); clear F' N'; intro D' us' h' F' N' l1 hI'; (try k_lt l1))) | walk1 | (dsimp only; walk1))))
        refine for_start ?_
        (repeat' (first | walk_at "mGo" | ((try with_reducible show wpAny _ _ _ _ _ _); (fail_if_success (walk_at "mSt")); first | ((with_reducible show wpAny _ _ (call _ _) _ _ _); first | ((with_reducible show wpAny _ _ (call (Value.builtin "list.pop") _) _ _ _); (refine' kl_pop ?F1 ?N1 (kl_last_snoc _ _) ?U1 ?z1 ?_; (case F1 => with_reducible assumption); (case N1 => with_reducible assumption); (case U1 => walk_at "mUpd"); (case z1 => (simp only [sizeLine_eq, List.length_append, List.length_cons, List.length_nil]; lia)); intro _ _ _)) | ((with_reducible show wpAny _ _ (call (Value.ref _) _) _ _ _); k_dflt (first | (refine' use37 (f := 58) (eof_contract _ _ _ _) ?kB ?kF ?kX ?kN ?kT ?kK ?kd ?ku trivial ?_) | (refine' use37 (f := 51) (nont_contract _ _ _ _) ?kB ?kF ?kX ?kN ?kT ?kK ?kd ?ku trivial ?_) | (refine' use37 (f := 44) (term_contract _ _ _ _) ?kB ?kF ?kX ?kN ?kT ?kK ?kd ?ku trivial ?_)); walk_at "mSides"; intro r' new' h' tk' hP' _ F' N'; (obtain ⟨e1', e2'⟩ := hP'); subst e1' e2'; (try simp only [List.nil_append] at N')) | ((with_reducible show wpAny _ _ (call (Value.builtin "chr") _) _ _ _); (refine chr_of_range (by lia) (by lia) ?_)) | ((with_reducible show wpAny _ _ (call (Value.builtin "len") [Value.ref _]) _ _ _); (refine len_list (Fr.lst (by with_reducible assumption) (by with_reducible assumption)) (by rw [List.size_toArray]; lia) ?_; (try rw [List.size_toArray]))) | ((with_reducible show wpAny _ _ (call (Value.builtin "list.append") [Value.ref _, _]) _ _ _); (k_dflt (refine' append_K ?F8 ?N8 ?U8 ?_ ?z8; (case F8 => with_reducible assumption); (case N8 => with_reducible assumption); (case U8 => walk_at "mUpd"); (case z8 => (simp only [sizeLine_eq, List.size_toArray]; lia))); intro h' F' N'; (try simp only [List.push_toArray] at N')))) | ((with_reducible show wpAny _ _ (truthy (Value.ref _)) _ _ _); (refine kgr_truthy (by with_reducible assumption) (.head _) rfl rfl (by with_reducible assumption) ?_; simp only [List.isEmpty_append, List.isEmpty_cons, List.isEmpty_nil, Bool.and_false, Bool.not_false, Bool.not_true])) | ((with_reducible show wpAny _ _ (subscriptTail (Expr.Name _ _) (Expr.Slice _ _ _ _) (Value.ref _) (Value.ref _)) _ _ _); ((with_reducible rename Fr _ _ _ _ => F'); (with_reducible rename News _ _ _ _ => N'); (refine slice_one37 F' N' (News.isList N' (.tail _ (.head _))) ?_ (by lia)); clear F' N'; intro D' h' F' N' l1; (try k_lt l1))) | ((with_reducible show wpAny _ _ (binaryOp Operator.Add (Value.ref _) (Value.ref _)) _ _ _); ((with_reducible rename Fr _ _ _ _ => F'); (with_reducible rename News _ _ _ _ => N'); (refine kmk_add_ints F' N' (News.isList N' (.tail _ (.tail _ (.tail _ (.head _))))) (Fr.lst F' (by with_reducible assumption)) (by with_reducible assumption) (by with_reducible assumption) ?_ (by simp only [sizeLine_eq]; lia)); clear F' N'; intro D' us' h' F' N' l1 hI'; (try k_lt l1))) | walk1 | (dsimp only; walk1))))
        rename Fr _ _ _ _ => Fz
        rename News _ _ _ _ => Nz
        have hrsl := hpre.2.length
        have Nz' := News.sub Nz (nx' := (T, listOf (refsE es).toArray (te + 1)) :: (R, listOf rvs.toArray re) :: (P, listOf pvs.toArray (pn + 1)) :: entN es) (by walk_at "mSub")
        refine for_list (vs := rs) (lo := listOf rs.toArray le) (WrtJ2 l R T P told tk rvs re pvs pn rules pile es)
          rfl rfl ⟨_, rfl⟩ (fun i m₁ nx₁ h hJ F₁ N₁ => F₁.keep _ _ hpre.1) (.inl ⟨_, _, rfl⟩) Fz Nz' ?_ ?_ ?_
        · exact ⟨es, te + 1, .cons rfl (.cons rfl (.cons rfl (.cons rfl (.cons rfl .nil)))), rfl, Apart.cons.mpr ⟨List.forall_mem_cons.mpr ⟨Ne.symm hTR, List.forall_mem_cons.mpr ⟨Ne.symm hTP, hET⟩⟩, Apart.cons.mpr ⟨List.forall_mem_cons.mpr ⟨Ne.symm hRP, hER⟩, Apart.cons.mpr ⟨hEP, hEE⟩⟩⟩, hes2, by simp [put], Nat.le_refl _⟩
        · clear Fz Nz Nz'
          rintro i v m₃ nx h₃ tk₃ I io hv ⟨es1, te1, hag, rfl, hap, hes1, htd, hl1⟩ hI F₃ N₃
          replace F₃ := hag.fr F₃
          refine hideG ?_; intro Gh kGh
          refine ex4 (hpre.2.get hv) ?_; intro ra rvs' rle rule hx_; refine and4 hx_ ?_; intro e0_ hru hrg hri; subst e0_; clear hx_
          refine kGh ?_; clear kGh Gh
          have hLr : s.heap.IsList ra rvs'.toArray := ⟨_, hrg, rfl, _, rfl⟩
          have hrle : rule.length ≤ 3 := hrr _ (List.mem_of_getElem? hru)
          have hrl3 := hri.length
          refine hideG ?_; intro Gh kGh
          refine and4 hap.three ?_; intro aT aR aP aE
          refine kGh ?_; clear kGh Gh
          clear hap
          have hi3 : i < rules.length := (List.getElem?_eq_some_iff.mp hru).1
          have hIT : T ≠ I := hI (T, _) (.head _)
          have hIR : R ≠ I := hI (R, _) (.tail _ (.head _))
          have hIP : P ≠ I := hI (P, _) (.tail _ (.tail _ (.head _)))
          have hIE : ∀ p ∈ entN es1, p.1 ≠ I := fun p hp => hI p (.tail _ (.tail _ (.tail _ hp)))
          clear hI
          have hrefs : (refsE es1).length = es1.length := by simp [refsE]
          have grow : (rule.length < 3 ∨ told.length < 2) → (told, pile ++ rule) :: todoE es1 = (put (rules.take (i + 1)) told pile).reverse ++ todoE es := by
            intro hc
            rw [put_take hru, put_one hc, List.reverse_append, htd]
            rfl
          have stay : ¬ rule.length < 3 → ¬ told.length < 2 → todoE es1 = (put (rules.take (i + 1)) told pile).reverse ++ todoE es := by
            intro hc hc'
            rw [put_take hru, put_none hc hc', List.append_nil, htd]
          (repeat' (first | walk_at "mGo" | ((try with_reducible show wpAny _ _ _ _ _ _); (fail_if_success (walk_at "mSt")); (fail_if_success (with_reducible show wpAny _ _ (exec (Stmt.If _ _ _ _) _) _ _ _)); first | ((with_reducible show wpAny _ _ (call _ _) _ _ _); first | ((with_reducible show wpAny _ _ (call (Value.builtin "list.pop") _) _ _ _); (refine' kl_pop ?F1 ?N1 (kl_last_snoc _ _) ?U1 ?z1 ?_; (case F1 => with_reducible assumption); (case N1 => with_reducible assumption); (case U1 => walk_at "mUpd"); (case z1 => (simp only [sizeLine_eq, List.length_append, List.length_cons, List.length_nil]; lia)); intro _ _ _)) | ((with_reducible show wpAny _ _ (call (Value.ref _) _) _ _ _); k_dflt (first | (refine' use37 (f := 58) (eof_contract _ _ _ _) ?kB ?kF ?kX ?kN ?kT ?kK ?kd ?ku trivial ?_) | (refine' use37 (f := 51) (nont_contract _ _ _ _) ?kB ?kF ?kX ?kN ?kT ?kK ?kd ?ku trivial ?_) | (refine' use37 (f := 44) (term_contract _ _ _ _) ?kB ?kF ?kX ?kN ?kT ?kK ?kd ?ku trivial ?_)); walk_at "mSides"; intro r' new' h' tk' hP' _ F' N'; (obtain ⟨e1', e2'⟩ := hP'); subst e1' e2'; (try simp only [List.nil_append] at N')) | ((with_reducible show wpAny _ _ (call (Value.builtin "chr") _) _ _ _); (refine chr_of_range (by lia) (by lia) ?_)) | ((with_reducible show wpAny _ _ (call (Value.builtin "len") [Value.ref _]) _ _ _); (refine len_list (Fr.lst (by with_reducible assumption) (by with_reducible assumption)) (by rw [List.size_toArray]; lia) ?_; (try rw [List.size_toArray]))) | ((with_reducible show wpAny _ _ (call (Value.builtin "list.append") [Value.ref _, _]) _ _ _); (k_dflt (refine' append_K ?F8 ?N8 ?U8 ?_ ?z8; (case F8 => with_reducible assumption); (case N8 => with_reducible assumption); (case U8 => walk_at "mUpd"); (case z8 => (simp only [sizeLine_eq, List.size_toArray]; lia))); intro h' F' N'; (try simp only [List.push_toArray] at N')))) | ((with_reducible show wpAny _ _ (truthy (Value.ref _)) _ _ _); (refine kgr_truthy (by with_reducible assumption) (.head _) rfl rfl (by with_reducible assumption) ?_; simp only [List.isEmpty_append, List.isEmpty_cons, List.isEmpty_nil, Bool.and_false, Bool.not_false, Bool.not_true])) | ((with_reducible show wpAny _ _ (subscriptTail (Expr.Name _ _) (Expr.Slice _ _ _ _) (Value.ref _) (Value.ref _)) _ _ _); ((with_reducible rename Fr _ _ _ _ => F'); (with_reducible rename News _ _ _ _ => N'); (refine slice_one37 F' N' (News.isList N' (.tail _ (.head _))) ?_ (by lia)); clear F' N'; intro D' h' F' N' l1; (try k_lt l1))) | ((with_reducible show wpAny _ _ (binaryOp Operator.Add (Value.ref _) (Value.ref _)) _ _ _); ((with_reducible rename Fr _ _ _ _ => F'); (with_reducible rename News _ _ _ _ => N'); (refine kmk_add_ints F' N' (News.isList N' (.tail _ (.tail _ (.tail _ (.head _))))) (Fr.lst F' (by with_reducible assumption)) (by with_reducible assumption) (by with_reducible assumption) ?_ (by simp only [sizeLine_eq]; lia)); clear F' N'; intro D' us' h' F' N' l1 hI'; (try k_lt l1))) | walk1 | (dsimp only; walk1))))
          refine if_cut (decide (rule.length < 3 ∨ told.length < 2)) ?_ ?_ ?_
          · (repeat' (first | walk_at "mGo" | ((try with_reducible show wpAny _ _ _ _ _ _); (fail_if_success (walk_at "mSt")); first | ((with_reducible show wpAny _ _ (call _ _) _ _ _); first | ((with_reducible show wpAny _ _ (call (Value.builtin "list.pop") _) _ _ _); (refine' kl_pop ?F1 ?N1 (kl_last_snoc _ _) ?U1 ?z1 ?_; (case F1 => with_reducible assumption); (case N1 => with_reducible assumption); (case U1 => walk_at "mUpd"); (case z1 => (simp only [sizeLine_eq, List.length_append, List.length_cons, List.length_nil]; lia)); intro _ _ _)) | ((with_reducible show wpAny _ _ (call (Value.ref _) _) _ _ _); k_dflt (first | (refine' use37 (f := 58) (eof_contract _ _ _ _) ?kB ?kF ?kX ?kN ?kT ?kK ?kd ?ku trivial ?_) | (refine' use37 (f := 51) (nont_contract _ _ _ _) ?kB ?kF ?kX ?kN ?kT ?kK ?kd ?ku trivial ?_) | (refine' use37 (f := 44) (term_contract _ _ _ _) ?kB ?kF ?kX ?kN ?kT ?kK ?kd ?ku trivial ?_)); walk_at "mSides"; intro r' new' h' tk' hP' _ F' N'; (obtain ⟨e1', e2'⟩ := hP'); subst e1' e2'; (try simp only [List.nil_append] at N')) | ((with_reducible show wpAny _ _ (call (Value.builtin "chr") _) _ _ _); (refine chr_of_range (by lia) (by lia) ?_)) | ((with_reducible show wpAny _ _ (call (Value.builtin "len") [Value.ref _]) _ _ _); (refine len_list (Fr.lst (by with_reducible assumption) (by with_reducible assumption)) (by rw [List.size_toArray]; lia) ?_; (try rw [List.size_toArray]))) | ((with_reducible show wpAny _ _ (call (Value.builtin "list.append") [Value.ref _, _]) _ _ _); (k_dflt (refine' append_K ?F8 ?N8 ?U8 ?_ ?z8; (case F8 => with_reducible assumption); (case N8 => with_reducible assumption); (case U8 => walk_at "mUpd"); (case z8 => (simp only [sizeLine_eq, List.size_toArray]; lia))); intro h' F' N'; (try simp only [List.push_toArray] at N')))) | ((with_reducible show wpAny _ _ (truthy (Value.ref _)) _ _ _); (refine kgr_truthy (by with_reducible assumption) (.head _) rfl rfl (by with_reducible assumption) ?_; simp only [List.isEmpty_append, List.isEmpty_cons, List.isEmpty_nil, Bool.and_false, Bool.not_false, Bool.not_true])) | ((with_reducible show wpAny _ _ (subscriptTail (Expr.Name _ _) (Expr.Slice _ _ _ _) (Value.ref _) (Value.ref _)) _ _ _); ((with_reducible rename Fr _ _ _ _ => F'); (with_reducible rename News _ _ _ _ => N'); (refine slice_one37 F' N' (News.isList N' (.tail _ (.head _))) ?_ (by lia)); clear F' N'; intro D' h' F' N' l1; (try k_lt l1))) | ((with_reducible show wpAny _ _ (binaryOp Operator.Add (Value.ref _) (Value.ref _)) _ _ _); ((with_reducible rename Fr _ _ _ _ => F'); (with_reducible rename News _ _ _ _ => N'); (refine kmk_add_ints F' N' (News.isList N' (.tail _ (.tail _ (.tail _ (.head _))))) (Fr.lst F' (by with_reducible assumption)) (by with_reducible assumption) (by with_reducible assumption) ?_ (by simp only [sizeLine_eq]; lia)); clear F' N'; intro D' us' h' F' N' l1 hI'; (try k_lt l1))) | walk1 | (dsimp only; walk1))))
            · exact (decide_eq_true (.inl (by lia))).symm
            · exact (decide_eq_true (.inr (by lia))).symm
            · exact (decide_eq_false (by lia)).symm
          · intro hc tk8
            replace hc := of_decide_eq_true hc
            (repeat' (first | walk_at "mGo" | ((try with_reducible show wpAny _ _ _ _ _ _); (fail_if_success (walk_at "mSt")); first | ((with_reducible show wpAny _ _ (call _ _) _ _ _); first | ((with_reducible show wpAny _ _ (call (Value.builtin "list.pop") _) _ _ _); (refine' kl_pop ?F1 ?N1 (kl_last_snoc _ _) ?U1 ?z1 ?_; (case F1 => with_reducible assumption); (case N1 => with_reducible assumption); (case U1 => walk_at "mUpd"); (case z1 => (simp only [sizeLine_eq, List.length_append, List.length_cons, List.length_nil]; lia)); intro _ _ _)) | ((with_reducible show wpAny _ _ (call (Value.ref _) _) _ _ _); k_dflt (first | (refine' use37 (f := 58) (eof_contract _ _ _ _) ?kB ?kF ?kX ?kN ?kT ?kK ?kd ?ku trivial ?_) | (refine' use37 (f := 51) (nont_contract _ _ _ _) ?kB ?kF ?kX ?kN ?kT ?kK ?kd ?ku trivial ?_) | (refine' use37 (f := 44) (term_contract _ _ _ _) ?kB ?kF ?kX ?kN ?kT ?kK ?kd ?ku trivial ?_)); walk_at "mSides"; intro r' new' h' tk' hP' _ F' N'; (obtain ⟨e1', e2'⟩ := hP'); subst e1' e2'; (try simp only [List.nil_append] at N')) | ((with_reducible show wpAny _ _ (call (Value.builtin "chr") _) _ _ _); (refine chr_of_range (by lia) (by lia) ?_)) | ((with_reducible show wpAny _ _ (call (Value.builtin "len") [Value.ref _]) _ _ _); (refine len_list (Fr.lst (by with_reducible assumption) (by with_reducible assumption)) (by rw [List.size_toArray]; lia) ?_; (try rw [List.size_toArray]))) | ((with_reducible show wpAny _ _ (call (Value.builtin "list.append") [Value.ref _, _]) _ _ _); (k_dflt (refine' append_K ?F8 ?N8 ?U8 ?_ ?z8; (case F8 => with_reducible assumption); (case N8 => with_reducible assumption); (case U8 => walk_at "mUpd"); (case z8 => (simp only [sizeLine_eq, List.size_toArray]; lia))); intro h' F' N'; (try simp only [List.push_toArray] at N')))) | ((with_reducible show wpAny _ _ (truthy (Value.ref _)) _ _ _); (refine kgr_truthy (by with_reducible assumption) (.head _) rfl rfl (by with_reducible assumption) ?_; simp only [List.isEmpty_append, List.isEmpty_cons, List.isEmpty_nil, Bool.and_false, Bool.not_false, Bool.not_true])) | ((with_reducible show wpAny _ _ (subscriptTail (Expr.Name _ _) (Expr.Slice _ _ _ _) (Value.ref _) (Value.ref _)) _ _ _); ((with_reducible rename Fr _ _ _ _ => F'); (with_reducible rename News _ _ _ _ => N'); (refine slice_one37 F' N' (News.isList N' (.tail _ (.head _))) ?_ (by lia)); clear F' N'; intro D' h' F' N' l1; (try k_lt l1))) | ((with_reducible show wpAny _ _ (binaryOp Operator.Add (Value.ref _) (Value.ref _)) _ _ _); ((with_reducible rename Fr _ _ _ _ => F'); (with_reducible rename News _ _ _ _ => N'); (refine kmk_add_ints F' N' (News.isList N' (.tail _ (.tail _ (.tail _ (.head _))))) (Fr.lst F' (by with_reducible assumption)) (by with_reducible assumption) (by with_reducible assumption) ?_ (by simp only [sizeLine_eq]; lia)); clear F' N'; intro D' us' h' F' N' l1 hI'; (try k_lt l1))) | walk1 | (dsimp only; walk1))))
            rename Fr _ _ _ _ => Fz
            rename News _ _ _ _ => Nz
            rename (I < _ ∧ T < _ ∧ R < _ ∧ P < _ ∧ AllLt _ (entN es1)) => hl3
            rename (_ < _ ∧ I < _ ∧ T < _ ∧ R < _ ∧ P < _ ∧ AllLt _ (entN es1)) => hl2
            rename IntsAre _ (pile ++ rule) => hI3
            have Nz' := nont_end (pile ++ rule) Nz
            refine EndL.intro Fz Nz' ?_
            exact ⟨_, rfl, nont_off hIT hIR hIP hIE hl3 hl2, _, te1 + 1, .cons rfl (.cons rfl (.cons rfl (.cons rfl (.cons rfl .nil)))), rfl, nont_apart hTR hTP hRP aT aR aP aE hl3 hl2, (List.forall_mem_cons (p := fun e : Ent => IntsAre e.vs e.ns)).mpr ⟨hI3, hes1⟩, grow hc, by simp only [List.length_cons]; lia⟩
          · intro hc tk8
            replace hc := of_decide_eq_false hc
            (repeat' (first | walk_at "mGo" | ((try with_reducible show wpAny _ _ _ _ _ _); (fail_if_success (walk_at "mSt")); first | ((with_reducible show wpAny _ _ (call _ _) _ _ _); first | ((with_reducible show wpAny _ _ (call (Value.builtin "list.pop") _) _ _ _); (refine' kl_pop ?F1 ?N1 (kl_last_snoc _ _) ?U1 ?z1 ?_; (case F1 => with_reducible assumption); (case N1 => with_reducible assumption); (case U1 => walk_at "mUpd"); (case z1 => (simp only [sizeLine_eq, List.length_append, List.length_cons, List.length_nil]; lia)); intro _ _ _)) | ((with_reducible show wpAny _ _ (call (Value.ref _) _) _ _ _); k_dflt (first | (refine' use37 (f := 58) (eof_contract _ _ _ _) ?kB ?kF ?kX ?kN ?kT ?kK ?kd ?ku trivial ?_) | (refine' use37 (f := 51) (nont_contract _ _ _ _) ?kB ?kF ?kX ?kN ?kT ?kK ?kd ?ku trivial ?_) | (refine' use37 (f := 44) (term_contract _ _ _ _) ?kB ?kF ?kX ?kN ?kT ?kK ?kd ?ku trivial ?_)); walk_at "mSides"; intro r' new' h' tk' hP' _ F' N'; (obtain ⟨e1', e2'⟩ := hP'); subst e1' e2'; (try simp only [List.nil_append] at N')) | ((with_reducible show wpAny _ _ (call (Value.builtin "chr") _) _ _ _); (refine chr_of_range (by lia) (by lia) ?_)) | ((with_reducible show wpAny _ _ (call (Value.builtin "len") [Value.ref _]) _ _ _); (refine len_list (Fr.lst (by with_reducible assumption) (by with_reducible assumption)) (by rw [List.size_toArray]; lia) ?_; (try rw [List.size_toArray]))) | ((with_reducible show wpAny _ _ (call (Value.builtin "list.append") [Value.ref _, _]) _ _ _); (k_dflt (refine' append_K ?F8 ?N8 ?U8 ?_ ?z8; (case F8 => with_reducible assumption); (case N8 => with_reducible assumption); (case U8 => walk_at "mUpd"); (case z8 => (simp only [sizeLine_eq, List.size_toArray]; lia))); intro h' F' N'; (try simp only [List.push_toArray] at N')))) | ((with_reducible show wpAny _ _ (truthy (Value.ref _)) _ _ _); (refine kgr_truthy (by with_reducible assumption) (.head _) rfl rfl (by with_reducible assumption) ?_; simp only [List.isEmpty_append, List.isEmpty_cons, List.isEmpty_nil, Bool.and_false, Bool.not_false, Bool.not_true])) | ((with_reducible show wpAny _ _ (subscriptTail (Expr.Name _ _) (Expr.Slice _ _ _ _) (Value.ref _) (Value.ref _)) _ _ _); ((with_reducible rename Fr _ _ _ _ => F'); (with_reducible rename News _ _ _ _ => N'); (refine slice_one37 F' N' (News.isList N' (.tail _ (.head _))) ?_ (by lia)); clear F' N'; intro D' h' F' N' l1; (try k_lt l1))) | ((with_reducible show wpAny _ _ (binaryOp Operator.Add (Value.ref _) (Value.ref _)) _ _ _); ((with_reducible rename Fr _ _ _ _ => F'); (with_reducible rename News _ _ _ _ => N'); (refine kmk_add_ints F' N' (News.isList N' (.tail _ (.tail _ (.tail _ (.head _))))) (Fr.lst F' (by with_reducible assumption)) (by with_reducible assumption) (by with_reducible assumption) ?_ (by simp only [sizeLine_eq]; lia)); clear F' N'; intro D' us' h' F' N' l1 hI'; (try k_lt l1))) | walk1 | (dsimp only; walk1))))
            rename Fr _ _ _ _ => Fz
            rename News _ _ _ _ => Nz
            refine EndL.intro Fz Nz ?_
            exact ⟨_, rfl, List.forall_mem_cons.mpr ⟨hIT, List.forall_mem_cons.mpr ⟨hIR, List.forall_mem_cons.mpr ⟨hIP, hIE⟩⟩⟩, es1, te1, .cons rfl (.cons rfl (.cons rfl (.cons rfl (.cons rfl .nil)))), rfl, Apart.cons.mpr ⟨List.forall_mem_cons.mpr ⟨Ne.symm hTR, List.forall_mem_cons.mpr ⟨Ne.symm hTP, aT⟩⟩, Apart.cons.mpr ⟨List.forall_mem_cons.mpr ⟨Ne.symm hRP, aR⟩, Apart.cons.mpr ⟨aP, aE⟩⟩⟩, hes1, stay (by lia) (by lia), by lia⟩
        · clear Fz Nz Nz'
          rintro m₃ nx h₃ tk₃ ⟨es1, te1, hag, rfl, hap, hes1, htd, hl1⟩ F₃ N₃
          replace F₃ := hag.fr F₃
          refine hideG ?_; intro Gh kGh
          refine and4 hap.three ?_; intro aT aR aP aE
          refine kGh ?_; clear kGh Gh
          clear hap
          (repeat' (first | walk_at "mGo" | ((try with_reducible show wpAny _ _ _ _ _ _); (fail_if_success (walk_at "mSt")); first | ((with_reducible show wpAny _ _ (call _ _) _ _ _); first | ((with_reducible show wpAny _ _ (call (Value.builtin "list.pop") _) _ _ _); (refine' kl_pop ?F1 ?N1 (kl_last_snoc _ _) ?U1 ?z1 ?_; (case F1 => with_reducible assumption); (case N1 => with_reducible assumption); (case U1 => walk_at "mUpd"); (case z1 => (simp only [sizeLine_eq, List.length_append, List.length_cons, List.length_nil]; lia)); intro _ _ _)) | ((with_reducible show wpAny _ _ (call (Value.ref _) _) _ _ _); k_dflt (first | (refine' use37 (f := 58) (eof_contract _ _ _ _) ?kB ?kF ?kX ?kN ?kT ?kK ?kd ?ku trivial ?_) | (refine' use37 (f := 51) (nont_contract _ _ _ _) ?kB ?kF ?kX ?kN ?kT ?kK ?kd ?ku trivial ?_) | (refine' use37 (f := 44) (term_contract _ _ _ _) ?kB ?kF ?kX ?kN ?kT ?kK ?kd ?ku trivial ?_)); walk_at "mSides"; intro r' new' h' tk' hP' _ F' N'; (obtain ⟨e1', e2'⟩ := hP'); subst e1' e2'; (try simp only [List.nil_append] at N')) | ((with_reducible show wpAny _ _ (call (Value.builtin "chr") _) _ _ _); (refine chr_of_range (by lia) (by lia) ?_)) | ((with_reducible show wpAny _ _ (call (Value.builtin "len") [Value.ref _]) _ _ _); (refine len_list (Fr.lst (by with_reducible assumption) (by with_reducible assumption)) (by rw [List.size_toArray]; lia) ?_; (try rw [List.size_toArray]))) | ((with_reducible show wpAny _ _ (call (Value.builtin "list.append") [Value.ref _, _]) _ _ _); (k_dflt (refine' append_K ?F8 ?N8 ?U8 ?_ ?z8; (case F8 => with_reducible assumption); (case N8 => with_reducible assumption); (case U8 => walk_at "mUpd"); (case z8 => (simp only [sizeLine_eq, List.size_toArray]; lia))); intro h' F' N'; (try simp only [List.push_toArray] at N')))) | ((with_reducible show wpAny _ _ (truthy (Value.ref _)) _ _ _); (refine kgr_truthy (by with_reducible assumption) (.head _) rfl rfl (by with_reducible assumption) ?_; simp only [List.isEmpty_append, List.isEmpty_cons, List.isEmpty_nil, Bool.and_false, Bool.not_false, Bool.not_true])) | ((with_reducible show wpAny _ _ (subscriptTail (Expr.Name _ _) (Expr.Slice _ _ _ _) (Value.ref _) (Value.ref _)) _ _ _); ((with_reducible rename Fr _ _ _ _ => F'); (with_reducible rename News _ _ _ _ => N'); (refine slice_one37 F' N' (News.isList N' (.tail _ (.head _))) ?_ (by lia)); clear F' N'; intro D' h' F' N' l1; (try k_lt l1))) | ((with_reducible show wpAny _ _ (binaryOp Operator.Add (Value.ref _) (Value.ref _)) _ _ _); ((with_reducible rename Fr _ _ _ _ => F'); (with_reducible rename News _ _ _ _ => N'); (refine kmk_add_ints F' N' (News.isList N' (.tail _ (.tail _ (.tail _ (.head _))))) (Fr.lst F' (by with_reducible assumption)) (by with_reducible assumption) (by with_reducible assumption) ?_ (by simp only [sizeLine_eq]; lia)); clear F' N'; intro D' us' h' F' N' l1 hI'; (try k_lt l1))) | walk1 | (dsimp only; walk1))))
          rename Fr _ _ _ _ => Fz
          rename News _ _ _ _ => Nz
          have Nz' := News.sub Nz (nx' := (T, listOf (refsE es1).toArray te1) :: (R, listOf rvs.toArray re) :: entN es1) (by walk_at "mSub")
          refine EndL.intro Fz Nz' ?_
          rw [hrsl, List.take_of_length_le (Nat.le_refl _)] at htd
          exact ⟨n, Nat.lt_succ_self _, row, es1, rvs, re, te1, .cons rfl (.cons rfl (.cons rfl .nil)), rfl, Apart.cons.mpr ⟨List.forall_mem_cons.mpr ⟨Ne.symm hTR, aT⟩, Apart.cons.mpr ⟨aR, aE⟩⟩, hrow, hes1, by rw [htd]; exact hr⟩
      | term h1 h2 h3 h4 hx hx' hr =>
        rename Int => x
        rename List Int => pile
        rename Nat => n
        refine hideG ?_; intro Gh kGh
        refine ex2 (ints_snoc hes1) ?_; intro pvs tx hx_; refine and2 hx_ ?_; intro e0_ hes3; subst e0_; clear hx_
        refine kGh ?_; clear kGh Gh
        have hpl := hes3.length
        clear hes1
        (repeat' (first | walk_at "mGo" | ((try with_reducible show wpAny _ _ _ _ _ _); (fail_if_success (walk_at "mSt")); first | ((with_reducible show wpAny _ _ (call _ _) _ _ _); first | ((with_reducible show wpAny _ _ (call (Value.builtin "list.pop") _) _ _ _); (refine' kl_pop ?F1 ?N1 (kl_last_snoc _ _) ?U1 ?z1 ?_; (case F1 => with_reducible assumption); (case N1 => with_reducible assumption); (case U1 => walk_at "mUpd"); (case z1 => (simp only [sizeLine_eq, List.length_append, List.length_cons, List.length_nil]; lia)); intro _ _ _)) | ((with_reducible show wpAny _ _ (call (Value.ref _) _) _ _ _); k_dflt (first | (refine' use37 (f := 58) (eof_contract _ _ _ _) ?kB ?kF ?kX ?kN ?kT ?kK ?kd ?ku trivial ?_) | (refine' use37 (f := 51) (nont_contract _ _ _ _) ?kB ?kF ?kX ?kN ?kT ?kK ?kd ?ku trivial ?_) | (refine' use37 (f := 44) (term_contract _ _ _ _) ?kB ?kF ?kX ?kN ?kT ?kK ?kd ?ku trivial ?_)); walk_at "mSides"; intro r' new' h' tk' hP' _ F' N'; (obtain ⟨e1', e2'⟩ := hP'); subst e1' e2'; (try simp only [List.nil_append] at N')) | ((with_reducible show wpAny _ _ (call (Value.builtin "chr") _) _ _ _); (refine chr_of_range (by lia) (by lia) ?_)) | ((with_reducible show wpAny _ _ (call (Value.builtin "len") [Value.ref _]) _ _ _); (refine len_list (Fr.lst (by with_reducible assumption) (by with_reducible assumption)) (by rw [List.size_toArray]; lia) ?_; (try rw [List.size_toArray]))) | ((with_reducible show wpAny _ _ (call (Value.builtin "list.append") [Value.ref _, _]) _ _ _); (k_dflt (refine' append_K ?F8 ?N8 ?U8 ?_ ?z8; (case F8 => with_reducible assumption); (case N8 => with_reducible assumption); (case U8 => walk_at "mUpd"); (case z8 => (simp only [sizeLine_eq, List.size_toArray]; lia))); intro h' F' N'; (try simp only [List.push_toArray] at N')))) | ((with_reducible show wpAny _ _ (truthy (Value.ref _)) _ _ _); (refine kgr_truthy (by with_reducible assumption) (.head _) rfl rfl (by with_reducible assumption) ?_; simp only [List.isEmpty_append, List.isEmpty_cons, List.isEmpty_nil, Bool.and_false, Bool.not_false, Bool.not_true])) | ((with_reducible show wpAny _ _ (subscriptTail (Expr.Name _ _) (Expr.Slice _ _ _ _) (Value.ref _) (Value.ref _)) _ _ _); ((with_reducible rename Fr _ _ _ _ => F'); (with_reducible rename News _ _ _ _ => N'); (refine slice_one37 F' N' (News.isList N' (.tail _ (.head _))) ?_ (by lia)); clear F' N'; intro D' h' F' N' l1; (try k_lt l1))) | ((with_reducible show wpAny _ _ (binaryOp Operator.Add (Value.ref _) (Value.ref _)) _ _ _); ((with_reducible rename Fr _ _ _ _ => F'); (with_reducible rename News _ _ _ _ => N'); (refine kmk_add_ints F' N' (News.isList N' (.tail _ (.tail _ (.tail _ (.head _))))) (Fr.lst F' (by with_reducible assumption)) (by with_reducible assumption) (by with_reducible assumption) ?_ (by simp only [sizeLine_eq]; lia)); clear F' N'; intro D' us' h' F' N' l1 hI'; (try k_lt l1))) | walk1 | (dsimp only; walk1))))
        rename Fr _ _ _ _ => Fz
        rename News _ _ _ _ => Nz
        rename T < _ ∧ R < _ ∧ D < _ ∧ P < _ ∧ AllLt _ (entN es) => hl
        have Nz' := term_end pile Nz
        refine EndL.intro Fz Nz' ?_
        exact ⟨n, Nat.lt_succ_self _, row, _, rvs, re, te + 1 + 1, .cons rfl (.cons rfl (.cons rfl .nil)), rfl, Apart.build4 hTR (Nat.ne_of_lt hl.1) hTP (Nat.ne_of_lt hl.2.1) hRP (Ne.symm (Nat.ne_of_lt hl.2.2.2.1)) hET hER (allLt_ne hl.2.2.2.2) hEP hEE, hrow, (List.forall_mem_cons (p := fun e : Ent => IntsAre e.vs e.ns)).mpr ⟨hes3, hes2⟩, hr⟩
  · rintro h₂ tk₂ m₂ nx F₂ N₂ ⟨rvs, re, hag, rfl, hrow⟩
    clear Fa Na
    replace F₂ := hag.fr F₂
    (repeat' (first | walk_at "mGo" | ((try with_reducible show wpAny _ _ _ _ _ _); (fail_if_success (walk_at "mSt")); first | ((with_reducible show wpAny _ _ (call _ _) _ _ _); first | ((with_reducible show wpAny _ _ (call (Value.builtin "list.pop") _) _ _ _); (refine' kl_pop ?F1 ?N1 (kl_last_snoc _ _) ?U1 ?z1 ?_; (case F1 => with_reducible assumption); (case N1 => with_reducible assumption); (case U1 => walk_at "mUpd"); (case z1 => (simp only [sizeLine_eq, List.length_append, List.length_cons, List.length_nil]; lia)); intro _ _ _)) | ((with_reducible show wpAny _ _ (call (Value.ref _) _) _ _ _); k_dflt (first | (refine' use37 (f := 58) (eof_contract _ _ _ _) ?kB ?kF ?kX ?kN ?kT ?kK ?kd ?ku trivial ?_) | (refine' use37 (f := 51) (nont_contract _ _ _ _) ?kB ?kF ?kX ?kN ?kT ?kK ?kd ?ku trivial ?_) | (refine' use37 (f := 44) (term_contract _ _ _ _) ?kB ?kF ?kX ?kN ?kT ?kK ?kd ?ku trivial ?_)); walk_at "mSides"; intro r' new' h' tk' hP' _ F' N'; (obtain ⟨e1', e2'⟩ := hP'); subst e1' e2'; (try simp only [List.nil_append] at N')) | ((with_reducible show wpAny _ _ (call (Value.builtin "chr") _) _ _ _); (refine chr_of_range (by lia) (by lia) ?_)) | ((with_reducible show wpAny _ _ (call (Value.builtin "len") [Value.ref _]) _ _ _); (refine len_list (Fr.lst (by with_reducible assumption) (by with_reducible assumption)) (by rw [List.size_toArray]; lia) ?_; (try rw [List.size_toArray]))) | ((with_reducible show wpAny _ _ (call (Value.builtin "list.append") [Value.ref _, _]) _ _ _); (k_dflt (refine' append_K ?F8 ?N8 ?U8 ?_ ?z8; (case F8 => with_reducible assumption); (case N8 => with_reducible assumption); (case U8 => walk_at "mUpd"); (case z8 => (simp only [sizeLine_eq, List.size_toArray]; lia))); intro h' F' N'; (try simp only [List.push_toArray] at N')))) | ((with_reducible show wpAny _ _ (truthy (Value.ref _)) _ _ _); (refine kgr_truthy (by with_reducible assumption) (.head _) rfl rfl (by with_reducible assumption) ?_; simp only [List.isEmpty_append, List.isEmpty_cons, List.isEmpty_nil, Bool.and_false, Bool.not_false, Bool.not_true])) | ((with_reducible show wpAny _ _ (subscriptTail (Expr.Name _ _) (Expr.Slice _ _ _ _) (Value.ref _) (Value.ref _)) _ _ _); ((with_reducible rename Fr _ _ _ _ => F'); (with_reducible rename News _ _ _ _ => N'); (refine slice_one37 F' N' (News.isList N' (.tail _ (.head _))) ?_ (by lia)); clear F' N'; intro D' h' F' N' l1; (try k_lt l1))) | ((with_reducible show wpAny _ _ (binaryOp Operator.Add (Value.ref _) (Value.ref _)) _ _ _); ((with_reducible rename Fr _ _ _ _ => F'); (with_reducible rename News _ _ _ _ => N'); (refine kmk_add_ints F' N' (News.isList N' (.tail _ (.tail _ (.tail _ (.head _))))) (Fr.lst F' (by with_reducible assumption)) (by with_reducible assumption) (by with_reducible assumption) ?_ (by simp only [sizeLine_eq]; lia)); clear F' N'; intro D' us' h' F' N' l1 hI'; (try k_lt l1))) | walk1 | (dsimp only; walk1))))
    rename Fr _ _ _ _ => Fz
    exact hret _ [(R, listOf rvs.toArray re)] _ _ ⟨R, rvs, re, rfl, rfl, hrow⟩ Fz.keep (fun p hp => by rw [List.mem_singleton.mp hp]; exact ⟨(N₂ _ (.head _)).1, (N₂ _ (.head _)).2.2⟩)
-- W5a
section
variable {prog : Program} {w : World} {A₀ A : Around} {s : Shared} {base h₀ : Heap} {outer : List Env} {L : Addr} {m : Str → Option Value} {env : Env} {K : Frag} {p : Program} {loose : List Str} {mean : ExcName → Option Value} {mg mb : Str → Option Value}
  {R : Result → Shared → Prop} {name qual : Str} {params : Arguments} {body : List Stmt} {scope : Scope} {dV kV doc pm cdv ct oc : Value} {an od : Option Addr} {osl : Array (Option Value)} {f : Addr} {args : Args} {binds : List (Str × Value)}
/-- as enter37, of a def that has cells -/
theorem enterC37 (B : Below A₀ base outer h₀) (F : Fr h₀ L s.heap m) (X₀ : K.In h₀) (T : Top p loose mean mg mb h₀) (hA : A.frames = some (env :: outer)) (hf : env.frame = some L) (hke : env.scope.kind = .function)
    (ho : K.lookup f = some ⟨oc, od, .func (fnOf name qual params body scope dV kV doc pm an cdv ct), osl⟩) (hcd : codeIn K cdv qual = true) (hroom : A.depth < recursionLimit)
    (hbind : BindsTo s (fnOf name qual params body scope dV kV doc pm an cdv ct) args binds) (hkind : (binds.all fun y => scope.names.lookup y.1 == some .local || scope.names.lookup y.1 == some .cell) = true)
    (hnd : ((cellsFrom 0 scope.names []).map (·.1)).Nodup)
    (h : ∀ L' h₁ tk cells, Fr s.heap L' h₁ (bindL (envOfC qual scope L' f cdv).kindOf binds fun _ => none) → News s.heap L' h₁ cells →
      CellsAre (bindC (envOfC qual scope L' f cdv).kindOf binds fun _ => none) (cellsFrom (L' + 1) scope.names []) cells → Below A base (env :: outer) s.heap → K.In s.heap → Top p loose mean mg mb s.heap →
      wpAny (model prog w) (A.deeper (envOfC qual scope L' f cdv)) (execs body (envOfC qual scope L' f cdv))
        (fun fl s' => R (.ok (.ret (match fl with | .ret v => v | _ => .none))) s') (fun _ _ => False)
        { s with heap := h₁, toks := tk })
    (hco : scope.isCoroutine = false) (hgen : scope.isGenerator = false) (hk : scope.kind = .function) : codeAny (model prog w) A (.call (.ref f) args) R s := by
  obtain ⟨FG, BG, st, -⟩ := groundX (R := R) B F (News.nil (h₀ := h₀) (L := L)) hA hf hke
  refine codeAny_call_function hroom (X₀.keeps F.keep _ _ ho) rfl hco hgen rfl (codeRec_of (X₀.keeps F.keep) hcd) (hbind _ _ _ _ ?_)
  refine wpAny_newFunctionEnv_cells hk (kindsX hkind _) fun env' he s' x => ?_
  subst he
  refine ⟨(T.nolimit.keeps F.keep).keeps x.toInCall.keep, codeAny_func ?_⟩
  obtain ⟨h₁, tk, rfl, _⟩ := x.done
  have hk₁ := x.toInCall.keep
  obtain ⟨cells, NC, Y⟩ := Cl.news (h₀ := s.heap) (Nat.le_refl _) fun n c hm => ⟨x.cell n c (lookup_of_mem_nodup (cellsFrom_names scope.names 0 (s.heap.objs.size + 1) [] [] rfl ▸ hnd) hm), x.above n c hm⟩
  exact wpAny_noRaise (h s.heap.objs.size h₁ tk cells ⟨x.toInCall.ns, hk₁, Nat.le_refl _⟩ NC Y BG (X₀.keeps F.keep) (T.keeps F.keep))
end
open PyProof.Rows.LCg in
/-- a comprehension by what holds between its turns -/
theorem comp_led {prog : Program} {w : World} {A : Around} {s : Shared} {h₀ : Heap} {L : Addr} {m : Str → Option Value} {env : Env} {elt : Expr} {x : Str} {scope : Scope} {cl : List (Str × Addr)} {S : List (Addr × Obj) → Prop} {P : Nat → Value → Prop}
    {Fin : List Value → List (Addr × Obj) → Prop} {n : Nat} {news : List (Addr × Obj)} (J : Nat → List Value → List (Addr × Obj) → Prop)
    (h0 : J 0 [] news)
    (turn : ∀ i ys nx v I oI C oC D m₂ h tk (E' : Value → Shared → Prop), i < n → J i ys nx → P i v → NsObj oC m₂ → m₂ x = some v → Fr h₀ L h m → News h₀ L h ((I, oI) :: (C, oC) :: (D, PyProof.Rows.LCg.lst ys) :: nx) → Off3 I C D nx → ((@Ne Nat I C) ∧ (@Ne Nat I D) ∧ (@Ne Nat C D)) →
      wpAny (model prog w) A (eval elt (compEnvC scope cl C env)) (CompEnd h₀ L m { s with heap := h, toks := tk } I oI C oC D (PyProof.Rows.LCg.lst ys) S (fun y nx' => J (i + 1) (ys ++ [y]) nx')) E' { s with heap := h, toks := tk })
    (fin : ∀ ys nx, J n ys nx → Fin ys nx) : CompRest prog w A h₀ L m env elt x scope cl s S P Fin n 0 [] news := by
  have key : ∀ k i ys nx, i + k = n → J i ys nx → CompRest prog w A h₀ L m env elt x scope cl s S P Fin k i ys nx := by
    intro k
    induction k with
    | zero =>
      intro i ys nx hi hJ
      obtain rfl : i = n := by lia
      exact CompRest.zero (fin ys nx hJ)
    | succ k ih =>
      intro i ys nx hi hJ
      refine CompRest.succ fun v I oI C oC D m₂ h tk E' hP hC hx F N off ne => ?_
      refine wpAny_mono (turn i ys nx v I oI C oC D m₂ h tk E' (by lia) hJ hP hC hx F N off ne) (fun y s₂ hq => ?_) fun _ _ e => e
      obtain ⟨h', tk', news', e, F', N', off', hS, r⟩ := hq
      exact ⟨h', tk', news', e, F', N', off', hS, ih _ _ _ (by lia) r⟩
  exact key n 0 [] news (by lia) h0
/-! what stays: pairwise facts over the unchanging rest of the ledger -/
inductive All2 {α β : Type} (R : α → β → Prop) : List α → List β → Prop
  | nil : All2 R [] []
  | cons {a : α} {b : β} {l : List α} {r : List β} : R a b → All2 R l r → All2 R (a :: l) (b :: r)
namespace All2
variable {α β : Type} {R R' : α → β → Prop}
theorem mono (h : ∀ a b, R a b → R' a b) {l : List α} {r : List β} (x : All2 R l r) : All2 R' l r := by
  induction x with
  | nil => exact .nil
  | cons x _ ih => exact .cons (h _ _ x) ih
theorem length {l : List α} {r : List β} (x : All2 R l r) : l.length = r.length := by
  induction x with
  | nil => rfl
  | cons _ _ ih => exact congrArg Nat.succ ih
theorem get {l : List α} {r : List β} (x : All2 R l r) : ∀ {i : Nat} {b : β}, r[i]? = some b → ∃ a, l[i]? = some a ∧ R a b := by
  induction x with
  | nil => intro i b h; cases h
  | cons x _ ih =>
    intro i b h
    cases i with
    | zero => exact ⟨_, rfl, Option.some.inj h ▸ x⟩
    | succ i => exact ih h
theorem getL {l : List α} {r : List β} (x : All2 R l r) : ∀ {i : Nat} {a : α}, l[i]? = some a → ∃ b, r[i]? = some b ∧ R a b := by
  induction x with
  | nil => intro i b h; cases h
  | cons x _ ih =>
    intro i b h
    cases i with
    | zero => exact ⟨_, rfl, Option.some.inj h ▸ x⟩
    | succ i => exact ih h
theorem app {l : List α} {r : List β} {l' : List α} {r' : List β} (x : All2 R l r) (h : All2 R l' r') : All2 R (l ++ l') (r ++ r') := by
  induction x with
  | nil => exact h
  | cons x _ ih => exact .cons x ih
theorem snoc {l : List α} {r : List β} {a : α} {b : β} (x : All2 R l r) (h : R a b) : All2 R (l ++ [a]) (r ++ [b]) := x.app (.cons h .nil)
theorem rep {a : α} {b : β} (h : R a b) : ∀ n, All2 R (List.replicate n a) (List.replicate n b)
  | 0 => .nil
  | n + 1 => .cons h (rep h n)
end All2
-- W5b
theorem StrsAre.lib : ∀ {vs : List Value} {xs : List Str}, StrsAre vs xs → PyProof.Rows.StrsAre vs xs
  | [], [], _ => .nil
  | _ :: _, _ :: _, ⟨⟨t, e⟩, r⟩ => by subst e; exact .cons _ t (StrsAre.lib r)
theorem StrsAre.ofLib : ∀ {vs : List Value} {xs : List Str}, PyProof.Rows.StrsAre vs xs → StrsAre vs xs
  | _, _, .nil => trivial
  | _, _, .cons _ t r => ⟨⟨t, rfl⟩, StrsAre.ofLib r⟩
theorem lst_join (xs : List Str) : lst (Txt.join (Str.ofString "") xs) = (xs.map lst).flatten := by
  show lst (Builtin.Str.glued (PySem.Str.ofString "") xs) = _
  rw [StrLaws.glued_eq_join]
  have key : ∀ (x : Str) (r : List Str), lst (Str.join (Str.ofString "") (x :: r)) = lst x ++ (r.map lst).flatten := by
    intro x r
    induction r generalizing x with
    | nil => simp [Str.join]
    | cons y r ih =>
      show lst (x ++ Str.ofString "" ++ Str.join (Str.ofString "") (y :: r)) = _
      rw [lst_append, lst_append, ih y]
      simp [show lst (Str.ofString "") = [] from rfl]
  cases xs with
  | nil => rfl
  | cons x r => rw [key]; simp
section
variable {prog : Program} {w : World} {A : Around} {E : Value → Shared → Prop} {s : Shared} {h₀ : Heap} {L : Addr} {m : Str → Option Value} {nx : List (Addr × Obj)}
theorem join37 {t : Tok} {Q : Value → Shared → Prop} {D : Addr} {ys : List Value} {xs : List Str} (hl : s.heap.IsList D ys.toArray) (hs : StrsAre ys xs) (hB : ∀ a ∈ xs, a.length ≤ 8) (hn : xs.length ≤ 1000)
    (h : ∀ t' k x, lst x = (xs.map lst).flatten → Q (.str x t') { s with toks := k }) : wpAny (model prog w) A (call (.builtin "str.join") [.str (PySem.Str.ofString "") t, .ref D]) Q E s :=
  KT.join_B (g := fun x : Str => x) 8 hl (strs_carried hs) hB (by lia) (by decide) fun t' k => h t' k _ (by rw [List.map_id' xs]; exact lst_join xs)
theorem item37 {Q : Value → Shared → Prop} {value slice : Expr} {l : Addr} {vs : List Value} {e : Nat} {k : Int} {v : Value} {u : Tok}
    (N : News h₀ L s.heap nx) (hm : (l, listOf vs.toArray e) ∈ nx) (h0 : 0 ≤ k) (hfit : k < 2 ^ 63) (hk : vs[k.toNat]? = some v) (h : Q v s)
    (hs : subscripted slice false (.ref l) (.int k u) = operate [.ref l, .int k u] (getItem (.ref l) (.int k u)) := by with_unfolding_all rfl) (hg : ∀ r, letTemporaryGo value (.ref l) r = pure () := by intro _; with_unfolding_all rfl) :
    wpAny (model prog w) A (subscriptTail value slice (.ref l) (.int k u)) Q E s :=
  item_listL ⟨_, (N _ hm).1, rfl, _, rfl⟩ h0 hfit hk h hs hg
theorem itemT37 {Q : Value → Shared → Prop} {value slice : Expr} {T : Addr} {x : Value} {l : List Value} {u : Tok}
    (N : News h₀ L s.heap nx) (hm : (T, ({ cls := Value.type "tuple", data := Data.seq (x :: l).toArray } : Obj)) ∈ nx) (h : Q x s)
    (hs : subscripted slice false (.ref T) (.int 0 u) = operate [.ref T, .int 0 u] (getItem (.ref T) (.int 0 u)) := by with_unfolding_all rfl) :
    wpAny (model prog w) A (subscriptTail value slice (.ref T) (.int 0 u)) Q E s :=
  item_tupleT (l := x :: l) (j := 0) (News.isTup N hm) (by decide) (by decide) (by simp [seqIndex?]) rfl h hs
theorem unpack37 {env : Env} {elts : List Expr} {k : Nat} {pos : Pos} {t : Addr} {l : List Value} {Q : Unit → Shared → Prop} (F : Fr h₀ L s.heap m) (N : News h₀ L s.heap nx) (hm : (t, ({ cls := Value.type "tuple", data := Data.seq l.toArray } : Obj)) ∈ nx)
    (hh : A.handled = none) (hn : (assignEach elts env).length = l.toArray.size) (hstar : (assignEach elts env).findIdx? (·.1) = none)
    (h : ∀ h', Fr h₀ L h' m → News h₀ L h' nx → wpAny (model prog w) A (assignInOrder ((assignEach elts env).map (·.2)) l) Q E { s with heap := h' }) :
    wpAny (model prog w) A (assign (.Tuple elts k pos) env (.ref t)) Q E s := unpackN_ F N (News.isTup N hm) hh hn hstar h
end
/-! what does not change -/
abbrev Led := List (Addr × Obj)
abbrev tupL (l : List Value) : Obj := { cls := Value.type "tuple", data := Data.seq l.toArray }
inductive TxtsX (X : Led) (v : Value) (ns : List (List Nat)) : Prop
  | mk (N : Addr) (vs : List Value) (e : Nat) (xs : List Str) (j0 : v = .ref N) (j1 : (N, listOf vs.toArray e) ∈ X) (j2 : StrsAre vs xs) (j3 : xs.map lst = ns) : TxtsX X v ns
inductive CellX (X : Led) (v : Value) (r : Res) : Prop
  | mk (T : Addr) (t : Tok) (nv : Value) (j0 : v = .ref T) (j1 : (T, tupL [.int (r.1 : Int) t, nv]) ∈ X) (j2 : TxtsX X nv r.2) : CellX X v r
inductive WayX (X : Led) (v : Value) (w : Way) : Prop
  | mk (T : Addr) (t : Tok) (lead : Str) (tl : Tok) (nv : Value) (trail : Str) (tt : Tok) (j0 : v = .ref T) (j1 : (T, tupL [.int (w.1 : Int) t, .str lead tl, nv, .str trail tt]) ∈ X) (j2 : TxtsX X nv w.2.2.1) (j3 : lst lead = w.2.1) (j4 : lst trail = w.2.2.2) : WayX X v w
inductive RowX (X : Led) (v : Value) (rs : List Res) : Prop
  | mk (R : Addr) (vals : List Value) (e : Nat) (j0 : v = .ref R) (j1 : (R, listOf vals.toArray e) ∈ X) (j2 : All2 (CellX X) vals rs) : RowX X v rs
section
variable {X X' : Led}
theorem TxtsX.mono (h : ∀ p ∈ X, p ∈ X') {v : Value} {ns : List (List Nat)} (c : TxtsX X v ns) : TxtsX X' v ns := by
  obtain ⟨N, vs, e, xs, h1, h2, h3, h4⟩ := c
  exact ⟨N, vs, e, xs, h1, h _ h2, h3, h4⟩
theorem CellX.mono (h : ∀ p ∈ X, p ∈ X') {v : Value} {r : Res} (c : CellX X v r) : CellX X' v r := by
  obtain ⟨T, t, nv, h1, h2, h3⟩ := c
  exact ⟨T, t, nv, h1, h _ h2, h3.mono h⟩
theorem WayX.mono (h : ∀ p ∈ X, p ∈ X') {v : Value} {r : Way} (c : WayX X v r) : WayX X' v r := by
  obtain ⟨T, t, lead, tl, nv, trail, tt, h1, h2, h3, h4, h5⟩ := c
  exact ⟨T, t, lead, tl, nv, trail, tt, h1, h _ h2, h3.mono h, h4, h5⟩
theorem RowX.mono (h : ∀ p ∈ X, p ∈ X') {v : Value} {r : List Res} (c : RowX X v r) : RowX X' v r := by
  obtain ⟨T, t, nv, h1, h2, h3⟩ := c
  exact ⟨T, t, nv, h1, h _ h2, h3.mono fun _ _ q => q.mono h⟩
end
/-- none of the rest lies at these places -/
def Off (as : List Addr) (X : Led) : Prop := ∀ a ∈ as, ∀ p ∈ X, p.1 ≠ a
theorem Off.get {as : List Addr} {X : Led} (h : Off as X) {a : Addr} (ha : a ∈ as) : ∀ p ∈ X, p.1 ≠ a := h a ha
theorem Off.cons {as : List Addr} {X : Led} {T : Nat} {o : Obj} (h : Off as X) (hT : ∀ a ∈ as, @LT.lt Nat _ a T) : Off as ((T, o) :: X) := by
  intro a ha p hp
  rcases List.mem_cons.mp hp with rfl | hp
  · exact Ne.symm (Nat.ne_of_lt (hT a ha))
  · exact h a ha p hp
theorem Off.sub {as bs : List Addr} {X : Led} (h : Off as X) (hs : ∀ a ∈ bs, a ∈ as) : Off bs X := fun a ha => h a (hs a ha)
theorem Off.add {as : List Addr} {X : Led} {a : Nat} (h : Off as X) (ha : AllLt a X) : Off (a :: as) X := by
  intro b hb
  rcases List.mem_cons.mp hb with rfl | hb
  · exact allLt_ne ha
  · exact h b hb
-- T5
set_option hygiene false in
local macro_rules | `(tactic| walk_at "eval ListComp") => `(tactic| (k_here; k_dflt (refine PyProof.Rows.LCg.ListComp_U (F₀ := by k_asm) (by with_unfolding_all rfl) (by decide) (by rfl) (by decide) (by rfl) ?_); k_dflt lcg_toSrc))
set_option hygiene false in
local macro_rules | `(tactic| walk_at "exec Assign cons ListComp") => `(tactic| (k_here; k_dflt (refine PyProof.Rows.LCg.Assign_ListComp_U (F₀ := by k_asm) (by rfl) (by with_unfolding_all rfl) (by with_unfolding_all rfl) (by decide) (by rfl) (by decide) (by rfl) (by rfl) (by rfl) ?_); k_dflt lcg_toSrc))
local macro_rules | `(tactic| walk_at "CompSrc") => `(tactic| (k_here; k_dflt (refine' PyProof.Rows.LCg.CompSrc.ledger ?h_16 ?F_16 ?N_16 ?m_16 ?z_16 ?_; (case h_16 => rfl); (case F_16 => k_asm); (case N_16 => k_asm); (case m_16 => walk_at "mMem"); (case z_16 => (simp only [sizeLine_eq, List.size_toArray]; lia))); intro g'))
local macro_rules | `(tactic| walk_at "CompSrc") => `(tactic| (k_here; k_dflt (refine PyProof.Rows.LCg.CompSrc.base (by rfl) (by k_asm) (by k_asm) (by assumption) (by first | size_fits | exact Nat.le_of_ble_eq_true rfl) ?_; intro g'; lcg_lit)))

def cst (x y : Nat) : Nat := (costF x y).toNat
abbrev tupI (x y : Nat) (t u : Tok) : Obj := tupL [Value.int (x : Int) t, Value.int (y : Int) u]
def NatsAre (vs : List Value) (ns : List Nat) : Prop := IntsAre vs (ns.map fun (n : Nat) => (n : Int))
theorem core_end {h₀ h : Heap} {L : Addr} {a b d : Addr × Obj} (N : News h₀ L h [d, a, b]) : News h₀ L h [b, a] := News.sub N (List.forall_mem_cons.mpr ⟨.tail _ (.tail _ (.head _)), List.forall_mem_cons.mpr ⟨.tail _ (.head _), List.forall_mem_nil _⟩⟩)
theorem flat_rep (v : Value) : ∀ n, (List.replicate n [v]).flatten = List.replicate n v
  | 0 => rfl
  | n + 1 => by simp [List.replicate_succ, flat_rep v n]
theorem News.rev2 {h₀ h : Heap} {L : Addr} {a b : Addr × Obj} (N : News h₀ L h [a, b]) : News h₀ L h [b, a] := News.sub N (List.forall_mem_cons.mpr ⟨.tail _ (.head _), List.forall_mem_cons.mpr ⟨.head _, List.forall_mem_nil _⟩⟩)

section
variable (pairs : List (Nat × Nat)) (core letters : List Nat)
/-- a stretch's answer, by its size and its first place -/
def cellAt (k st : Nat) : Res := (tab cst pairs core k).1 ((letters.drop st).take k)
def rowL (k : Nat) : List Res := (List.range (letters.length + 1 - k)).map fun st => cellAt pairs core letters k st
end
theorem near_start {pairs : List (Nat × Nat)} {core letters : List Nat} {h₀ h : Heap} {L : Addr} {K1 K2 Cc D l1 T0 N0 : Nat} {oc oh o1 : Obj} {k : Nat} {p : Int} {cx : Str} {t tc : Tok}
   (N : News h₀ L h [(Cc, listOf [Value.ref D].toArray 0), (D, listOf (List.replicate k (Value.ref T0)).toArray 0), (l1, o1), (T0, tupL [.int p t, .ref N0]), (N0, listOf [Value.str cx tc].toArray 0), (K1, oc), (K2, oh)])
   (hp : p = ((2 * core.length : Nat) : Int)) (hk : k = letters.length + 1) (hcx : lst cx = core) (k1 : K1 < N0) (k2 : K2 < N0) (n1 : N0 < T0) (n2 : T0 < D) (n3 : D < Cc) {G : Prop}
   (cont : ∀ (Cc' : Nat) (X : Led), Cc' = Cc → News h₀ L h ((K1, oc) :: (K2, oh) :: (Cc', listOf [Value.ref D].toArray 0) :: X) → Off [K1, K2, Cc'] X → All2 (RowX X) [Value.ref D] ((List.range 1).map (rowL pairs core letters)) → K1 < Cc' → K2 < Cc' → G) : G := by
  refine cont Cc [(D, listOf (List.replicate k (Value.ref T0)).toArray 0), (T0, tupL [.int p t, .ref N0]), (N0, listOf [Value.str cx tc].toArray 0)] rfl ?_ ?_ ?_ (by lia) (by lia)
  · refine News.sub N ?_
    walk_at "mSub"
  · intro a ha q hq
    simp only [List.mem_cons, List.not_mem_nil, or_false] at ha hq
    rcases ha with rfl | rfl | rfl <;> rcases hq with rfl | rfl | rfl <;> (dsimp only; first | exact Nat.ne_of_gt (by lia) | exact Nat.ne_of_lt (by lia))
  · refine .cons ⟨D, _, _, rfl, .head _, ?_⟩ .nil
    have e : rowL pairs core letters 0 = List.replicate k (2 * core.length, [core]) := by
      unfold rowL
      rw [hk, Nat.sub_zero]
      show List.map (fun _ => ((2 * core.length, [core]) : Res)) (List.range (letters.length + 1)) = _
      rw [List.map_const', List.length_range]
    rw [e]
    refine All2.rep ?_ k
    refine ⟨T0, t, .ref N0, rfl, ?_, ?_⟩
    · show (T0, tupL [.int ((2 * core.length : Nat) : Int) t, .ref N0]) ∈ _
      rw [← hp]
      exact .tail _ (.head _)
    · exact ⟨N0, _, _, [cx], rfl, .tail _ (.tail _ (.head _)), StrsAre.one _ _, by simp [hcx]⟩
theorem rowL_len (pairs : List (Nat × Nat)) (core letters : List Nat) (k : Nat) : (rowL pairs core letters k).length = letters.length + 1 - k := by simp [rowL]
theorem rowL_get {pairs : List (Nat × Nat)} {core letters : List Nat} {k st : Nat} (h : st < letters.length + 1 - k) : (rowL pairs core letters k)[st]? = some (cellAt pairs core letters k st) := by
  simp [rowL, h]
theorem rows_get {X : Led} {pairs : List (Nat × Nat)} {core letters : List Nat} {rows : List Value} {i k st : Nat} (h : All2 (RowX X) rows ((List.range i).map (rowL pairs core letters))) (hk : k < i) (hst : st < letters.length + 1 - k) :
   ∃ (R : Addr) (vals : List Value) (e : Nat) (T : Addr) (t : Tok) (nv : Value), rows[k]? = some (Value.ref R) ∧ (R, listOf vals.toArray e) ∈ X ∧ vals[st]? = some (Value.ref T) ∧ (T, tupL [.int ((cellAt pairs core letters k st).1 : Int) t, nv]) ∈ X ∧ TxtsX X nv (cellAt pairs core letters k st).2 := by
  obtain ⟨v, h1, h2⟩ := h.get (i := k) (b := rowL pairs core letters k) (by simp [hk])
  obtain ⟨R, vals, e, rfl, h3, h4⟩ := h2
  obtain ⟨v, h5, h6⟩ := h4.get (rowL_get hst)
  obtain ⟨T, t, nv, rfl, h7, h8⟩ := h6
  exact ⟨R, vals, e, T, t, nv, h1, h3, h5, h7, h8⟩
theorem row_end {X : Led} {h₀ h : Heap} {L : Addr} {K1 K2 Cc Ln : Nat} {oc oh co lo : Obj} (N : News h₀ L h ((K1, oc) :: (K2, oh) :: (Cc, co) :: (Ln, lo) :: X)) : News h₀ L h ((K1, oc) :: (K2, oh) :: (Cc, co) :: (Ln, lo) :: X) := N

theorem line_start {h₀ h : Heap} {L : Addr} {I K1 K2 Cc Ln : Nat} {io oc oh co lo : Obj} {X : Led} (N : News h₀ L h ((Ln, lo) :: (I, io) :: (K1, oc) :: (K2, oh) :: (Cc, co) :: X)) (l : I < Ln ∧ K1 < Ln ∧ K2 < Ln ∧ Cc < Ln ∧ AllLt Ln X) {G : Prop}
   (cont : ∀ (Ln' : Nat), Ln' = Ln → News h₀ L h ((I, io) :: (K1, oc) :: (K2, oh) :: (Cc, co) :: (Ln', lo) :: X) → (I < Ln' ∧ K1 < Ln' ∧ K2 < Ln' ∧ Cc < Ln') → (∀ p ∈ X, p.1 ≠ Ln') → G) : G :=
  cont Ln rfl (News.sub N (by walk_at "mSub")) ⟨l.1, l.2.1, l.2.2.1, l.2.2.2.1⟩ (allLt_ne l.2.2.2.2)
theorem cut5 {prog : Program} {w : World} {A : Around} {E : Value → Shared → Prop} {s : Shared} {env : Env} {h₀ : Heap} {L : Addr} {Q : Flow → Shared → Prop} {a b c d e : Stmt} {rest : List Stmt} (D : (Str → Option Value) → List (Addr × Obj) → Prop)
    (h : wpAny (model prog w) A (execs [a, b, c, d, e] env) (fun f s' => match f with | .next => EndL h₀ L s D s' | f => Q f s') E s)
    (k : ∀ h tk m nx, Fr h₀ L h m → News h₀ L h nx → D m nx → wpAny (model prog w) A (execs rest env) Q E { s with heap := h, toks := tk }) :
    wpAny (model prog w) A (execs (a :: b :: c :: d :: e :: rest) env) Q E s := cutN (pre := [a, b, c, d, e]) D h k
/-- the ways of one stretch, so far -/
inductive InWays (la pa ma I2 I K1 K2 Cc Ln : Nat) (io2 io oc co lo : Obj) (sz stt ld : Int) (hd rb1 ra1 : Nat) (nvb nva : Value) (X : Led) (ws : List Way) (m : Str → Option Value) (nx : List (Addr × Obj)) : Prop
  | mk (tsz tst tl tpb tpa th : Tok) (oh : Obj) (W we : Nat) (wv : List Value) (X' : Led) (j0 : Agree m [("letters", .ref la), ("pairs", .ref pa), ("middle", .ref ma), ("cells", .ref Cc), ("size", .int sz tsz), ("line", .ref Ln), ("start", .int stt tst), ("last", .int ld tl), ("price_behind", .int (rb1 : Int) tpb), ("nests_behind", nvb), ("price_ahead", .int (ra1 : Int) tpa), ("nests_ahead", nva), ("ways", .ref W)]) (j1 : nx = (I2, io2) :: (I, io) :: (K1, oc) :: (K2, oh) :: (Cc, co) :: (Ln, lo) :: (W, listOf wv.toArray we) :: X') (j2 : oh.data = .cell (some (.int (hd : Int) th))) (j3 : All2 (WayX X') wv ws) (j4 : (∀ p ∈ X, p ∈ X')) (j5 : Off [I2, I, K1, K2, Cc, Ln, W] X') (j6 : (I2 < W ∧ I < W ∧ K1 < W ∧ K2 < W ∧ Cc < W ∧ Ln < W)) : InWays la pa ma I2 I K1 K2 Cc Ln io2 io oc co lo sz stt ld hd rb1 ra1 nvb nva X ws m nx
theorem ways0 {h₀ h : Heap} {L : Addr} {s : Shared} {tk : Nat} {la pa ma I2 I K1 K2 Cc Ln W T1 T2 we : Nat} {io2 io oc oh co lo : Obj} {sz stt ld : Int} {hd : Nat} {rb ra : Res} {nvb nva : Value} {X : Led} {m : Str → Option Value} {tsz tst tl tpb tpa th t1 t2 t3 t4 t5 t6 : Tok}
   (F : Fr h₀ L h m) (N : News h₀ L h ((W, listOf [Value.ref T1, Value.ref T2].toArray we) :: (T2, tupL [.int ((ra.1 : Int) + 2) t4, .str (Str.ofString "") t5, nva, .str (Str.ofString "") t6]) :: (T1, tupL [.int ((rb.1 : Int) + 2) t1, .str (Str.ofString "") t2, nvb, .str (Str.ofString "") t3]) :: (I2, io2) :: (I, io) :: (K1, oc) :: (K2, oh) :: (Cc, co) :: (Ln, lo) :: X))
   (hag : Agree m [("letters", .ref la), ("pairs", .ref pa), ("middle", .ref ma), ("cells", .ref Cc), ("size", .int sz tsz), ("line", .ref Ln), ("start", .int stt tst), ("last", .int ld tl),
      ("price_behind", .int (rb.1 : Int) tpb), ("nests_behind", nvb), ("price_ahead", .int (ra.1 : Int) tpa), ("nests_ahead", nva), ("ways", .ref W)])
   (l1 : I2 < T1 ∧ I < T1 ∧ K1 < T1 ∧ K2 < T1 ∧ Cc < T1 ∧ Ln < T1 ∧ AllLt T1 X) (l2 : T1 < T2 ∧ I2 < T2 ∧ I < T2 ∧ K1 < T2 ∧ K2 < T2 ∧ Cc < T2 ∧ Ln < T2 ∧ AllLt T2 X) (l3 : T2 < W ∧ T1 < W ∧ I2 < W ∧ I < W ∧ K1 < W ∧ K2 < W ∧ Cc < W ∧ Ln < W ∧ AllLt W X)
   (o : Off [I2, I, K1, K2, Cc, Ln] X) (dh : oh.data = .cell (some (.int (hd : Int) th))) (hb : TxtsX X nvb rb.2) (ha : TxtsX X nva ra.2) :
   EndL h₀ L s (InWays la pa ma I2 I K1 K2 Cc Ln io2 io oc co lo sz stt ld hd rb.1 ra.1 nvb nva X [(rb.1 + 2, [], rb.2, []), (ra.1 + 2, [], ra.2, [])]) { s with heap := h, toks := tk } := by
  obtain ⟨a1, a2, a3, a4, a5, a6, a7⟩ := l1
  obtain ⟨b0, b1, b2, b3, b4, b5, b6, b7⟩ := l2
  obtain ⟨d0, d1, d2, d3, d4, d5, d6, d7, d8⟩ := l3
  refine EndL.intro F (News.sub N (nx' := (I2, io2) :: (I, io) :: (K1, oc) :: (K2, oh) :: (Cc, co) :: (Ln, lo) :: (W, listOf [Value.ref T1, Value.ref T2].toArray we) :: (T2, tupL [.int ((ra.1 : Int) + 2) t4, .str (Str.ofString "") t5, nva, .str (Str.ofString "") t6]) :: (T1, tupL [.int ((rb.1 : Int) + 2) t1, .str (Str.ofString "") t2, nvb, .str (Str.ofString "") t3]) :: X) (by walk_at "mSub")) ?_
  refine ⟨tsz, tst, tl, tpb, tpa, th, oh, W, we, _, _, hag, rfl, dh, ?_, ?_, ?_, ⟨d2, d3, d4, d5, d6, d7⟩⟩
  · refine .cons ⟨T1, t1, _, t2, nvb, _, t3, rfl, .tail _ (.head _), hb.mono ?_, rfl, rfl⟩ (.cons ⟨T2, t4, _, t5, nva, _, t6, rfl, .head _, ha.mono ?_, rfl, rfl⟩ .nil)
    · exact fun p hp => .tail _ (.tail _ hp)
    · exact fun p hp => .tail _ (.tail _ hp)
  · exact fun p hp => .tail _ (.tail _ hp)
  · have key : ∀ a : Nat, (∀ p ∈ X, p.1 ≠ a) → a ≠ T1 → a ≠ T2 → ∀ p ∈ ((T2, tupL [.int ((ra.1 : Int) + 2) t4, .str (Str.ofString "") t5, nva, .str (Str.ofString "") t6]) :: (T1, tupL [.int ((rb.1 : Int) + 2) t1, .str (Str.ofString "") t2, nvb, .str (Str.ofString "") t3]) :: X : Led), p.1 ≠ a := by
      intro a h1 h2 h3
      exact List.forall_mem_cons.mpr ⟨Ne.symm h3, List.forall_mem_cons.mpr ⟨Ne.symm h2, h1⟩⟩
    intro a hx
    simp only [List.mem_cons, List.not_mem_nil, or_false] at hx
    rcases hx with rfl | rfl | rfl | rfl | rfl | rfl | rfl
    · exact key _ (o.get (.head _)) (Nat.ne_of_lt a1) (Nat.ne_of_lt b1)
    · exact key _ (o.get (.tail _ (.head _))) (Nat.ne_of_lt a2) (Nat.ne_of_lt b2)
    · exact key _ (o.get (.tail _ (.tail _ (.head _)))) (Nat.ne_of_lt a3) (Nat.ne_of_lt b3)
    · exact key _ (o.get (.tail _ (.tail _ (.tail _ (.head _))))) (Nat.ne_of_lt a4) (Nat.ne_of_lt b4)
    · exact key _ (o.get (.tail _ (.tail _ (.tail _ (.tail _ (.head _)))))) (Nat.ne_of_lt a5) (Nat.ne_of_lt b5)
    · exact key _ (o.get (.tail _ (.tail _ (.tail _ (.tail _ (.tail _ (.head _))))))) (Nat.ne_of_lt a6) (Nat.ne_of_lt b6)
    · exact key _ (allLt_ne d8) (Ne.symm (Nat.ne_of_lt d1)) (Ne.symm (Nat.ne_of_lt d0))
theorem ext37 {prog : Program} {w : World} {A : Around} {E : Value → Shared → Prop} {s : Shared} {h₀ : Heap} {L D b : Addr} {m : Str → Option Value} {news news' : List (Addr × Obj)} {n n2 : Nat} {ws ws2 : List Value} {Q : Value → Shared → Prop} (F : Fr h₀ L s.heap m) (N : News h₀ L s.heap news) (hb : (b, listOf ws2.toArray n2) ∈ news) (hne : ws2.length ≠ 0)
    (U : Upd D (listOf ws.toArray n) (listOf (ws ++ ws2).toArray (n + 1)) news news') (h1 : ws.length ≤ 100) (h2 : ws2.length ≤ 100)
    (h : ∀ h', Fr h₀ L h' m → News h₀ L h' news' → Q .none { s with heap := h' }) : wpAny (model prog w) A (call (.builtin "list.extend") [.ref D, .ref b]) Q E s :=
  kl_extend F N hb rfl hne U (by simp [Builtin.List.listTooLong, sizeLine]; lia) (by simp only [sizeLine_eq]; lia) (by simp only [sizeLine_eq, List.size_toArray]; lia) h
theorem ext370 {prog : Program} {w : World} {A : Around} {E : Value → Shared → Prop} {s : Shared} {h₀ : Heap} {L D b : Addr} {m : Str → Option Value} {news news' : List (Addr × Obj)} {n n2 : Nat} {ws : List Value} {Q : Value → Shared → Prop} (F : Fr h₀ L s.heap m) (N : News h₀ L s.heap news) (hb : (b, listOf ([] : List Value).toArray n2) ∈ news)
    (U : Upd D (listOf ws.toArray n) (listOf ws.toArray n) news news') (h1 : ws.length ≤ 100)
    (h : ∀ h', Fr h₀ L h' m → News h₀ L h' news' → Q .none { s with heap := h' }) : wpAny (model prog w) A (call (.builtin "list.extend") [.ref D, .ref b]) Q E s :=
  kxn_extend F N hb rfl U (by simp [Builtin.List.listTooLong, sizeLine]; lia) (by simp only [sizeLine_eq]; lia) (by simp only [sizeLine_eq, List.size_toArray]; simp; lia) h
theorem cst_eq (x y : Nat) : ((cst x y : Nat) : Int) = costF x y := by
  unfold cst
  have : 0 ≤ costF x y := by unfold costF; (repeat' split) <;> lia
  lia
open PyProof.Rows.LCg in
theorem comp_end2 {h₀ : Heap} {L I C D T N1 : Nat} {m : Str → Option Value} {s₁ : Shared} {oI oC oD t n1 : Obj} {S : List (Addr × Obj) → Prop} {rest : Value → List (Addr × Obj) → Prop} {y : Value} {h' : Heap} {tk : Nat} {r : List (Addr × Obj)}
    (F : Fr h₀ L h' m) (N : News h₀ L h' ((T, t) :: (N1, n1) :: (I, oI) :: (C, oC) :: (D, oD) :: r)) (off : Off3 I C D r) (l1 : I < N1 ∧ C < N1 ∧ D < N1) (l2 : I < T ∧ C < T ∧ D < T) (hS : S ((T, t) :: (N1, n1) :: r)) (q : rest y ((T, t) :: (N1, n1) :: r)) :
    CompEnd h₀ L m s₁ I oI C oC D oD S rest y { s₁ with heap := h', toks := tk } :=
  CompEnd.intro F N ((T, t) :: (N1, n1) :: r) (by walk_at "mSub") ⟨⟨Ne.symm (Nat.ne_of_lt l2.1), Ne.symm (Nat.ne_of_lt l2.2.1), Ne.symm (Nat.ne_of_lt l2.2.2)⟩, ⟨Ne.symm (Nat.ne_of_lt l1.1), Ne.symm (Nat.ne_of_lt l1.2.1), Ne.symm (Nat.ne_of_lt l1.2.2)⟩, off⟩ hS q
/-- the ways of a lone sign -/
def waysB (core : List Nat) (i hd : Nat) : List Way := if i = 0 then core.map (fun m => (cst hd m, [], [core], [])) else []
theorem ways1 {h₀ h : Heap} {L : Addr} {s : Shared} {tk : Nat} {la pa ma I2 I K1 K2 Cc Ln W T N1 D we : Nat} {io2 io oc oh co lo lo2 : Obj} {sz stt ld cv : Int} {hd rb1 ra1 q : Nat} {nvb nva : Value} {X X₅ : Led} {wv : List Value} {ws : List Way} {m : Str → Option Value} {tsz tst tl tpb tpa th t1 t2 t3 tc : Tok} {cx : Str} {core : List Nat}
   (F : Fr h₀ L h m) (N : News h₀ L h ((D, lo2) :: (T, tupL [.int cv t1, .str (Str.ofString "") t2, .ref N1, .str (Str.ofString "") t3]) :: (N1, listOf [Value.str cx tc].toArray 0) :: (I2, io2) :: (I, io) :: (K1, oc) :: (K2, oh) :: (Cc, co) :: (Ln, lo) :: (W, listOf (wv ++ [Value.ref T]).toArray we) :: X₅))
   (hag : Agree m [("letters", .ref la), ("pairs", .ref pa), ("middle", .ref ma), ("cells", .ref Cc), ("size", .int sz tsz), ("line", .ref Ln), ("start", .int stt tst), ("last", .int ld tl),
      ("price_behind", .int (rb1 : Int) tpb), ("nests_behind", nvb), ("price_ahead", .int (ra1 : Int) tpa), ("nests_ahead", nva), ("ways", .ref W)])
   (l1 : I2 < N1 ∧ I < N1 ∧ K1 < N1 ∧ K2 < N1 ∧ Cc < N1 ∧ Ln < N1 ∧ W < N1) (l2 : I2 < T ∧ I < T ∧ K1 < T ∧ K2 < T ∧ Cc < T ∧ Ln < T ∧ W < T) (l3 : I2 < W ∧ I < W ∧ K1 < W ∧ K2 < W ∧ Cc < W ∧ Ln < W)
   (o : Off [I2, I, K1, K2, Cc, Ln, W] X₅) (dh : oh.data = .cell (some (.int (hd : Int) th))) (hw : All2 (WayX X₅) wv ws) (hX : ∀ p ∈ X, p ∈ X₅) (hc : lst cx = core) (hcv : cv = ((cst hd q : Nat) : Int)) (hq : core = [q]) :
   EndL h₀ L s (InWays la pa ma I2 I K1 K2 Cc Ln io2 io oc co lo sz stt ld hd rb1 ra1 nvb nva X (ws ++ waysB core 0 hd)) { s with heap := h, toks := tk } := by
  subst hcv
  refine EndL.intro F (News.sub N (nx' := (I2, io2) :: (I, io) :: (K1, oc) :: (K2, oh) :: (Cc, co) :: (Ln, lo) :: (W, listOf (wv ++ [Value.ref T]).toArray we) :: (T, tupL [.int ((cst hd q : Nat) : Int) t1, .str (Str.ofString "") t2, .ref N1, .str (Str.ofString "") t3]) :: (N1, listOf [Value.str cx tc].toArray 0) :: X₅) (by walk_at "mSub")) ?_
  refine ⟨tsz, tst, tl, tpb, tpa, th, oh, W, we, _, _, hag, rfl, dh, ?_, ?_, ?_, l3⟩
  · refine (hw.mono fun _ _ z => WayX.mono (fun p hp => .tail _ (.tail _ hp)) z).app ?_
    rw [hq]
    exact .cons ⟨T, t1, _, t2, .ref N1, _, t3, rfl, .head _, ⟨N1, _, _, [cx], rfl, .tail _ (.head _), StrsAre.one _ _, by rw [List.map_cons, hc, hq]; rfl⟩, rfl, rfl⟩ .nil
  · exact fun p hp => .tail _ (.tail _ (hX p hp))
  · refine Off.cons (Off.cons o ?_) ?_
    · intro a hx
      simp only [List.mem_cons, List.not_mem_nil, or_false] at hx
      rcases hx with rfl | rfl | rfl | rfl | rfl | rfl | rfl
      · exact l1.1
      · exact l1.2.1
      · exact l1.2.2.1
      · exact l1.2.2.2.1
      · exact l1.2.2.2.2.1
      · exact l1.2.2.2.2.2.1
      · exact l1.2.2.2.2.2.2
    · intro a hx
      simp only [List.mem_cons, List.not_mem_nil, or_false] at hx
      rcases hx with rfl | rfl | rfl | rfl | rfl | rfl | rfl
      · exact l2.1
      · exact l2.2.1
      · exact l2.2.2.1
      · exact l2.2.2.2.1
      · exact l2.2.2.2.2.1
      · exact l2.2.2.2.2.2.1
      · exact l2.2.2.2.2.2.2
theorem waysY {Y : Led} {h₀ h : Heap} {L : Addr} {s : Shared} {tk : Nat} {la pa ma I3 I2 I K1 K2 Cc Ln W we : Nat} {io3 io2 io oc oh co lo : Obj} {sz stt ld : Int} {hd rb1 ra1 : Nat} {nvb nva : Value} {X X₅ : Led} {wv nv : List Value} {ws wsn : List Way} {m : Str → Option Value} {tsz tst tl tpb tpa th : Tok}
   (F : Fr h₀ L h m) (N : News h₀ L h (Y ++ (I3, io3) :: (I2, io2) :: (I, io) :: (K1, oc) :: (K2, oh) :: (Cc, co) :: (Ln, lo) :: (W, listOf (wv ++ nv).toArray we) :: X₅))
   (hag : Agree m [("letters", .ref la), ("pairs", .ref pa), ("middle", .ref ma), ("cells", .ref Cc), ("size", .int sz tsz), ("line", .ref Ln), ("start", .int stt tst), ("last", .int ld tl),
      ("price_behind", .int (rb1 : Int) tpb), ("nests_behind", nvb), ("price_ahead", .int (ra1 : Int) tpa), ("nests_ahead", nva), ("ways", .ref W)])
   (hY : ∀ q ∈ Y, @LT.lt Nat _ I3 q.1 ∧ @LT.lt Nat _ I2 q.1 ∧ @LT.lt Nat _ I q.1 ∧ @LT.lt Nat _ K1 q.1 ∧ @LT.lt Nat _ K2 q.1 ∧ @LT.lt Nat _ Cc q.1 ∧ @LT.lt Nat _ Ln q.1 ∧ @LT.lt Nat _ W q.1) (l3 : I2 < W ∧ I < W ∧ K1 < W ∧ K2 < W ∧ Cc < W ∧ Ln < W)
   (hi3 : I2 ≠ I3 ∧ I ≠ I3 ∧ K1 ≠ I3 ∧ K2 ≠ I3 ∧ Cc ≠ I3 ∧ Ln ≠ I3 ∧ W ≠ I3 ∧ ∀ p ∈ X₅, p.1 ≠ I3)
   (o : Off [I2, I, K1, K2, Cc, Ln, W] X₅) (dh : oh.data = .cell (some (.int (hd : Int) th))) (hw : All2 (WayX X₅) wv ws) (hX : ∀ p ∈ X, p ∈ X₅) (hnew : All2 (WayX (Y ++ X₅)) nv wsn) :
   EndL h₀ L s (fun m nx => ∃ nx₂, nx = (I3, io3) :: nx₂ ∧ (∀ p ∈ nx₂, p.1 ≠ I3) ∧ InWays la pa ma I2 I K1 K2 Cc Ln io2 io oc co lo sz stt ld hd rb1 ra1 nvb nva X (ws ++ wsn) m nx₂) { s with heap := h, toks := tk } := by
  refine EndL.intro F (News.sub N (nx' := (I3, io3) :: (I2, io2) :: (I, io) :: (K1, oc) :: (K2, oh) :: (Cc, co) :: (Ln, lo) :: (W, listOf (wv ++ nv).toArray we) :: (Y ++ X₅)) ?_) ?_
  · intro p hp
    simp only [List.mem_cons, List.mem_append] at hp ⊢
    rcases hp with h | h | h | h | h | h | h | h | h | h
    · exact .inr (.inl h)
    · exact .inr (.inr (.inl h))
    · exact .inr (.inr (.inr (.inl h)))
    · exact .inr (.inr (.inr (.inr (.inl h))))
    · exact .inr (.inr (.inr (.inr (.inr (.inl h)))))
    · exact .inr (.inr (.inr (.inr (.inr (.inr (.inl h))))))
    · exact .inr (.inr (.inr (.inr (.inr (.inr (.inr (.inl h)))))))
    · exact .inr (.inr (.inr (.inr (.inr (.inr (.inr (.inr (.inl h))))))))
    · exact .inl h
    · exact .inr (.inr (.inr (.inr (.inr (.inr (.inr (.inr (.inr h))))))))
  · refine ⟨_, rfl, ?_, tsz, tst, tl, tpb, tpa, th, oh, W, we, _, Y ++ X₅, hag, rfl, dh, (hw.mono fun _ _ z => WayX.mono (fun p hp => List.mem_append_right _ hp) z).app hnew, fun p hp => List.mem_append_right _ (hX p hp), ?_, l3⟩
    · obtain ⟨a1, a2, a3, a4, a5, a6, a7, a8⟩ := hi3
      refine List.forall_mem_cons.mpr ⟨a1, List.forall_mem_cons.mpr ⟨a2, List.forall_mem_cons.mpr ⟨a3, List.forall_mem_cons.mpr ⟨a4, List.forall_mem_cons.mpr ⟨a5, List.forall_mem_cons.mpr ⟨a6, List.forall_mem_cons.mpr ⟨a7, fun p hp => ?_⟩⟩⟩⟩⟩⟩⟩
      rcases List.mem_append.mp hp with hp | hp
      · exact Ne.symm (Nat.ne_of_lt (hY p hp).1)
      · exact a8 p hp
    · intro a hx p hp
      rcases List.mem_append.mp hp with hp | hp
      · obtain ⟨b0, b1, b2, b3, b4, b5, b6, b7⟩ := hY p hp
        simp only [List.mem_cons, List.not_mem_nil, or_false] at hx
        rcases hx with rfl | rfl | rfl | rfl | rfl | rfl | rfl
        · exact Ne.symm (Nat.ne_of_lt b1)
        · exact Ne.symm (Nat.ne_of_lt b2)
        · exact Ne.symm (Nat.ne_of_lt b3)
        · exact Ne.symm (Nat.ne_of_lt b4)
        · exact Ne.symm (Nat.ne_of_lt b5)
        · exact Ne.symm (Nat.ne_of_lt b6)
        · exact Ne.symm (Nat.ne_of_lt b7)
      · exact o a hx p hp
theorem unpackB37 {prog : Program} {w : World} {A : Around} {E : Value → Shared → Prop} {s : Shared} {h₀ : Heap} {L : Addr} {m : Str → Option Value} {nx : List (Addr × Obj)} {env : Env} {elts : List Expr} {k : Nat} {pos : Pos} {t : Addr} {l : List Value} {Q : Unit → Shared → Prop} (F : Fr h₀ L s.heap m) (N : News h₀ L s.heap nx) (hm : h₀.get? t = some ({ cls := Value.type "tuple", data := Data.seq l.toArray } : Obj))
    (hh : A.handled = none) (hn : (assignEach elts env).length = l.toArray.size) (hstar : (assignEach elts env).findIdx? (·.1) = none)
    (h : ∀ h', Fr h₀ L h' m → News h₀ L h' nx → wpAny (model prog w) A (assignInOrder ((assignEach elts env).map (·.2)) l) Q E { s with heap := h' }) :
    wpAny (model prog w) A (assign (.Tuple elts k pos) env (.ref t)) Q E s := unpackN_ F N ⟨_, F.keep _ _ hm, rfl, _, rfl⟩ hh hn hstar h
/-- the ways of one pair -/
def waysP (h l : Nat) (rb ra : Res) (ri : Option Res) (p : Nat × Nat) : List Way := [(rb.1 + cst h p.1 + 2, [p.1], rb.2, [p.2]), (ra.1 + 2 + cst l p.2, [p.1], ra.2, [p.2])] ++ (match ri with | some r => [(r.1 + cst h p.1 + cst l p.2, [p.1], r.2, [p.2])] | none => [])
theorem waysP_len (h l : Nat) (rb ra : Res) (ri : Option Res) (p : Nat × Nat) : (waysP h l rb ra ri p).length ≤ 3 := by
  unfold waysP
  cases ri <;> simp
theorem waysP_flat (h l : Nat) (rb ra : Res) (ri : Option Res) : ∀ ps : List (Nat × Nat), (ps.flatMap (waysP h l rb ra ri)).length ≤ 3 * ps.length
  | [] => by simp
  | p :: ps => by
    have h1 := waysP_len h l rb ra ri p
    have h2 := waysP_flat h l rb ra ri ps
    simp only [List.flatMap_cons, List.length_append, List.length_cons]
    lia
theorem waysB_len (core : List Nat) (i hd : Nat) (h : core.length ≤ 1) : (waysB core i hd).length ≤ 1 := by
  unfold waysB
  split <;> simp [h]
theorem flat_take {ps : List (Nat × Nat)} {p : Nat × Nat} {k : Nat} {f : Nat × Nat → List Way} (h : ps[k]? = some p) : (ps.take (k + 1)).flatMap f = (ps.take k).flatMap f ++ f p := by
  rw [List.take_add_one, h]
  simp
theorem ways_shape (a b : Way) (u v z : List Way) : a :: b :: (u ++ (v ++ z)) = ([a, b] ++ u ++ v) ++ z := by simp
theorem ways_eq (pairs : List (Nat × Nat)) (core : List Nat) (i hd ld : Nat) (rb ra : Res) (ri : Option Res) : [(rb.1 + 2, ([] : List Nat), rb.2, ([] : List Nat)), (ra.1 + 2, [], ra.2, [])] ++ waysB core i hd ++ pairs.flatMap (waysP hd ld rb ra ri) = waysOf cst pairs core (i == 0) hd ld rb ra ri := by
  unfold waysOf waysB
  by_cases h : i = 0
  · rw [if_pos h, if_pos (by simp [h])]; rfl
  · rw [if_neg h, if_neg (by simp [h])]; rfl
open PyProof.Rows.LCg in
theorem comp_end0 {h₀ : Heap} {L I C D : Nat} {m : Str → Option Value} {s₁ : Shared} {oI oC oD : Obj} {S : List (Addr × Obj) → Prop} {rest : Value → List (Addr × Obj) → Prop} {y : Value} {h' : Heap} {tk : Nat} {r : List (Addr × Obj)}
    (F : Fr h₀ L h' m) (N : News h₀ L h' ((I, oI) :: (C, oC) :: (D, oD) :: r)) (off : Off3 I C D r) (hS : S r) (q : rest y r) :
    CompEnd h₀ L m s₁ I oI C oC D oD S rest y { s₁ with heap := h', toks := tk } :=
  CompEnd.intro F N r (fun _ h => h) off hS q
theorem ints_app : ∀ {vs : List Value} {ns : List Int} {ws : List Value} {ms : List Int}, IntsAre vs ns → IntsAre ws ms → IntsAre (vs ++ ws) (ns ++ ms)
  | _, _, _, _, .nil, h => h
  | _, _, _, _, .cons _ _ r, h => .cons _ _ (ints_app r h)
theorem near_nm {h₀ h : Heap} {L : Addr} {I2 I K1 K2 Cc Ln W Nr D : Nat} {io2 io oc oh co lo wo no dO : Obj} {X : Led} (N : News h₀ L h ((Nr, no) :: (D, dO) :: (I2, io2) :: (I, io) :: (K1, oc) :: (K2, oh) :: (Cc, co) :: (Ln, lo) :: (W, wo) :: X))
   (l : D < Nr ∧ I2 < Nr ∧ I < Nr ∧ K1 < Nr ∧ K2 < Nr ∧ Cc < Nr ∧ Ln < Nr ∧ W < Nr ∧ AllLt Nr X) {G : Prop}
   (cont : ∀ (Nr' : Nat), Nr' = Nr → News h₀ L h ((I2, io2) :: (I, io) :: (K1, oc) :: (K2, oh) :: (Cc, co) :: (Ln, lo) :: (W, wo) :: (Nr', no) :: X) → (I2 < Nr' ∧ I < Nr' ∧ K1 < Nr' ∧ K2 < Nr' ∧ Cc < Nr' ∧ Ln < Nr' ∧ W < Nr') → (∀ p ∈ X, p.1 ≠ Nr') → G) : G :=
  cont Nr rfl (News.sub N (by walk_at "mSub")) ⟨l.2.1, l.2.2.1, l.2.2.2.1, l.2.2.2.2.1, l.2.2.2.2.2.1, l.2.2.2.2.2.2.1, l.2.2.2.2.2.2.2.1⟩ (allLt_ne l.2.2.2.2.2.2.2.2)
theorem off_upd {l1 : Led} {Nr : Addr} {o o' : Obj} {r : Led} {I : Addr} (h : ∀ p ∈ l1 ++ (Nr, o) :: r, p.1 ≠ I) : ∀ p ∈ l1 ++ (Nr, o') :: r, p.1 ≠ I := by
  intro p hp
  rcases List.mem_append.mp hp with hp | hp
  · exact h p (List.mem_append_left _ hp)
  · rcases List.mem_cons.mp hp with rfl | hp
    · exact h (Nr, o) (List.mem_append_right _ (.head _))
    · exact h p (List.mem_append_right _ (.tail _ hp))
def stepW (w : Way) (near : List (List Nat)) (N : List Nat) : List (List Nat) := if w.2.1 = [] ∨ N.length < 4 then (if w.2.1 ++ N ++ w.2.2.2 ∈ near then near else near ++ [w.2.1 ++ N ++ w.2.2.2]) else near
theorem addWay_step (near : List (List Nat)) (w : Way) : addWay near w = w.2.2.1.foldl (stepW w) near := rfl
theorem any_lst {xs : List Str} {k : Str} : xs.any (fun y => y == k) = true ↔ lst k ∈ xs.map lst := by
  rw [List.any_eq_true, List.mem_map]
  constructor
  · rintro ⟨y, hy, e⟩
    exact ⟨y, hy, by rw [eq_of_beq e]⟩
  · rintro ⟨y, hy, e⟩
    exact ⟨y, hy, by rw [lst_inj e]; exact beq_self_eq_true _⟩
/-- one nest, put to the near ones -/
theorem step_put {w : Way} {xs : List Str} {near : List (List Nat)} {lead y trail k : Str} (hx : xs.map lst = near) (hl : lst lead = w.2.1) (ht : lst trail = w.2.2.2) (hk : k = lead ++ y ++ trail) (hc : w.2.1 = [] ∨ (lst y).length < 4) :
   (xs.any (fun z => z == k) = true → xs.map lst = stepW w near (lst y)) ∧ (¬ xs.any (fun z => z == k) = true → (xs ++ [k]).map lst = stepW w near (lst y)) := by
  have e : lst k = w.2.1 ++ lst y ++ w.2.2.2 := by rw [hk, lst_append, lst_append, hl, ht]
  unfold stepW
  rw [if_pos hc, any_lst, hx, e]
  constructor
  · intro h
    rw [if_pos h]
  · intro h
    rw [if_neg h, List.map_append, hx, List.map_cons, List.map_nil, e]
theorem step_skip {w : Way} {near : List (List Nat)} {y : Str} (hc : ¬ (w.2.1 = [] ∨ (lst y).length < 4)) : stepW w near (lst y) = near := by
  unfold stepW
  rw [if_neg hc]
theorem lead_nil {lead : Str} {l : List Nat} (h : lst lead = l) : (lead == Str.ofString "") = true ↔ l = [] := by
  constructor
  · intro e
    rw [← h, eq_of_beq e]
    rfl
  · intro e
    have : lead = Str.ofString "" := lst_inj (by rw [h, e]; rfl)
    rw [this]
    exact beq_self_eq_true _
theorem fold_take {α β : Type} {f : β → α → β} {l : List α} {q : Nat} {a : α} {b : β} (h : l[q]? = some a) : (l.take (q + 1)).foldl f b = f ((l.take q).foldl f b) a := by
  rw [List.take_add_one, h]
  simp
theorem filt_take {ws : List Way} {k : Nat} {w : Way} {p : Way → Bool} (h : ws[k]? = some w) : (ws.take (k + 1)).filter p = (ws.take k).filter p ++ (if p w then [w] else []) := by
  rw [List.take_add_one, h]
  simp [List.filter_cons]
theorem cell_fin {h₀ h : Heap} {L : Addr} {D I2 I K1 K2 Cc Ln W Nr : Nat} {dO io2 io oc oh co lo wo no : Obj} {X : Led} (N : News h₀ L h ((D, dO) :: (I2, io2) :: (I, io) :: (K1, oc) :: (K2, oh) :: (Cc, co) :: (Ln, lo) :: (W, wo) :: (Nr, no) :: X)) :
    News h₀ L h ((I2, io2) :: (I, io) :: (K1, oc) :: (K2, oh) :: (Cc, co) :: (Ln, lo) :: (D, dO) :: (Nr, no) :: X) := News.sub N (by walk_at "mSub")
theorem lt5 {I K1 K2 Cc Ln D : Nat} (a : I < D) (b : K1 < D) (c : K2 < D) (d : Cc < D) (e : Ln < D) : ∀ a ∈ [I, K1, K2, Cc, Ln], @LT.lt Nat _ a D := by
  intro x hx
  simp only [List.mem_cons, List.not_mem_nil, or_false] at hx
  rcases hx with rfl | rfl | rfl | rfl | rfl <;> assumption
theorem itemNeg37 {prog : Program} {w : World} {A : Around} {E : Value → Shared → Prop} {s : Shared} {h₀ : Heap} {L : Addr} {nx : List (Addr × Obj)} {Q : Value → Shared → Prop} {value slice : Expr} {l : Addr} {vs : List Value} {e : Nat} {v : Value} {u : Tok}
    (N : News h₀ L s.heap nx) (hm : (l, listOf vs.toArray e) ∈ nx) (hl : 0 < vs.length) (hk : vs[vs.length - 1]? = some v) (h : Q v s)
    (hs : subscripted slice false (.ref l) (.int (-1) u) = operate [.ref l, .int (-1) u] (getItem (.ref l) (.int (-1) u)) := by with_unfolding_all rfl) (hg : ∀ r, letTemporaryGo value (.ref l) r = pure () := by intro _; with_unfolding_all rfl) :
    wpAny (model prog w) A (subscriptTail value slice (.ref l) (.int (-1) u)) Q E s :=
  subscriptTail_builtin (News.isList N hm).typeIs slot_list_getitem.lookup (wpAny_getItem_list_neg (News.isList N hm) (by decide) (by rw [List.size_toArray]; lia) (by decide) (by rw [List.size_toArray, show ((-1 : Int) + (vs.length : Int)).toNat = vs.length - 1 by lia]; simpa using hk) h) hs hg
theorem off6 {I2 I K1 K2 Cc Ln : Addr} {X : Led} (a : ∀ p ∈ X, p.1 ≠ I2) (b : ∀ p ∈ X, p.1 ≠ I) (c : ∀ p ∈ X, p.1 ≠ K1) (d : ∀ p ∈ X, p.1 ≠ K2) (e : ∀ p ∈ X, p.1 ≠ Cc) (f : ∀ p ∈ X, p.1 ≠ Ln) : Off [I2, I, K1, K2, Cc, Ln] X := by
  intro x hx
  simp only [List.mem_cons, List.not_mem_nil, or_false] at hx
  rcases hx with rfl | rfl | rfl | rfl | rfl | rfl
  · exact a
  · exact b
  · exact c
  · exact d
  · exact e
  · exact f
set_option hygiene false in
local macro_rules | `(tactic| walk_at "subscriptTail") => `(tactic| ((with_reducible show wpAny _ _ (subscriptTail _ _ (Value.ref _) (Value.int _ _)) _ _ _); first
  | (refine' item_listL (Fr.lst ?F_18 ?hl_18) ?a_18 ?b_18 ?k_18 ?_; (case F_18 => with_reducible assumption); (case hl_18 => with_reducible assumption); (case k_18 => with_reducible assumption); (case a_18 => lia); (case b_18 => lia))
  | (refine' item37 ?N_18 ?m_18 ?a_18 ?b_18 ?k_18 ?_; (case N_18 => with_reducible assumption); (case m_18 => walk_at "mMem"); (case k_18 => with_reducible assumption); (case a_18 => lia); (case b_18 => lia))))
local macro_rules | `(tactic| walk_at "storeName") => `(tactic| (k_dflt (refine' storeX_C ?F_19 ?N_19 ?c_19 ?U_19 ?d_19 ?_ ?a_19 ?b_19; (case a_19 => rfl); (case b_19 => rfl); (case F_19 => k_asm); (case N_19 => k_asm); (case c_19 => rfl); (case U_19 => walk_at "mUpdF"); (case d_19 => k_asm)); intro h' o' F' N' d'; (try dsimp only at N')))
set_option hygiene false in
local macro_rules | `(tactic| walk_at "mUpdF") => `(tactic| first | (refine UpdF.head ?_; walk_at "mAll") | (refine' UpdF.tail ?a_20 ?b_20; (case a_20 => walk_at "mNe"); (case b_20 => walk_at "mUpdF")))
inductive NearJ1 (la : Addr) (pa : Addr) (ma : Addr) (L₁ : Addr) (core : List Nat) (m' : Str → Option Value) (nx : List (Addr × Obj)) : Prop
  | mk (o1 o2 : Obj) (cx : Str) (tc : Tok) (v : Option Value) (j0 : Agree m' [("letters", .ref la), ("pairs", .ref pa), ("middle", .ref ma)]) (j1 : nx = [(L₁ + 1, o1), (L₁ + 1 + 1, o2)]) (j2 : o1.data = .cell (some (.str cx tc))) (j3 : o2.data = .cell v) (j4 : lst cx = core) : NearJ1 la pa ma L₁ core m' nx
inductive NearJ2 (la : Addr) (pa : Addr) (ma : Addr) (L₁ : Addr) (cx : Str) (tc : Tok) (pairs : List (Nat × Nat)) (core : List Nat) (letters : List Nat) (Cc : Addr) (i : Nat) (m' : Str → Option Value) (nx : List (Addr × Obj)) : Prop
  | mk (oc oh : Obj) (rows : List Value) (ce : Nat) (X : Led) (j0 : Agree m' [("letters", .ref la), ("pairs", .ref pa), ("middle", .ref ma), ("cells", .ref Cc)]) (j1 : nx = (L₁ + 1, oc) :: (L₁ + 1 + 1, oh) :: (Cc, listOf rows.toArray ce) :: X) (j2 : oc.data = .cell (some (.str cx tc))) (j3 : (∃ v, oh.data = .cell v)) (j4 : Off [L₁ + 1, L₁ + 1 + 1, Cc] X) (j5 : All2 (RowX X) rows ((List.range (i + 1)).map (rowL pairs core letters))) : NearJ2 la pa ma L₁ cx tc pairs core letters Cc i m' nx
inductive NearJ3 (la : Addr) (pa : Addr) (ma : Addr) (L₁ : Addr) (pairs : List (Nat × Nat)) (core : List Nat) (letters : List Nat) (Cc : Addr) (oc : Obj) (rows : List Value) (ce : Nat) (X : Led) (I : Addr) (io : Obj) (sz : Int) (Ln : Addr) (i : Nat) (j : Nat) (m' : Str → Option Value) (nx : List (Addr × Obj)) : Prop
  | mk (oh : Obj) (lvals : List Value) (lne : Nat) (X' : Led) (tsz : Tok) (j0 : Agree m' [("letters", .ref la), ("pairs", .ref pa), ("middle", .ref ma), ("cells", .ref Cc), ("size", .int sz tsz), ("line", .ref Ln)]) (j1 : nx = (I, io) :: (L₁ + 1, oc) :: (L₁ + 1 + 1, oh) :: (Cc, listOf rows.toArray ce) :: (Ln, listOf lvals.toArray lne) :: X') (j2 : (∃ v, oh.data = .cell v)) (j3 : Off [I, L₁ + 1, L₁ + 1 + 1, Cc, Ln] X') (j4 : (∀ p ∈ X, p ∈ X')) (j5 : All2 (CellX X') lvals ((List.range j).map (cellAt pairs core letters (i + 1)))) : NearJ3 la pa ma L₁ pairs core letters Cc oc rows ce X I io sz Ln i j m' nx
inductive NearJ4 (la : Addr) (pa : Addr) (ma : Addr) (L₁ : Addr) (Cc : Addr) (oc : Obj) (oh : Obj) (rows : List Value) (ce : Nat) (I : Addr) (io : Obj) (sz : Int) (Ln : Addr) (I2 : Addr) (io2 : Obj) (lvals : List Value) (lne : Nat) (W : Addr) (we : Nat) (wv : List Value) (X₅ : Led) (ws : List Way) (Nr : Addr) (k : Nat) (m : Str → Option Value) (nx : List (Addr × Obj)) : Prop
  | mk (tsz tle : Tok) (nvals : List Value) (xs : List Str) (ne : Nat) (j0 : Agree m [("letters", .ref la), ("pairs", .ref pa), ("middle", .ref ma), ("cells", .ref Cc), ("size", .int sz tsz), ("line", .ref Ln), ("least", .int (leastOf ws : Int) tle), ("near", .ref Nr)]) (j1 : nx = (I2, io2) :: (I, io) :: (L₁ + 1, oc) :: (L₁ + 1 + 1, oh) :: (Cc, listOf rows.toArray ce) :: (Ln, listOf lvals.toArray lne) :: (W, listOf wv.toArray we) :: (Nr, listOf nvals.toArray ne) :: X₅) (j2 : StrsAre nvals xs) (j3 : xs.map lst = ((ws.take k).filter (fun w => w.1 = leastOf ws)).foldl addWay []) : NearJ4 la pa ma L₁ Cc oc oh rows ce I io sz Ln I2 io2 lvals lne W we wv X₅ ws Nr k m nx
inductive NearJ5 (la : Addr) (pa : Addr) (ma : Addr) (L₁ : Addr) (Cc : Addr) (oc : Obj) (oh : Obj) (rows : List Value) (ce : Nat) (I : Addr) (io : Obj) (sz : Int) (Ln : Addr) (I2 : Addr) (io2 : Obj) (lvals : List Value) (lne : Nat) (W : Addr) (we : Nat) (wv : List Value) (X₅ : Led) (ws : List Way) (Nr : Addr) (I4 : Addr) (io4 : Obj) (wy : Way) (lead : Str) (trail : Str) (k : Nat) (q : Nat) (m : Str → Option Value) (nx : List (Addr × Obj)) : Prop
  | mk (tsz tle tlead ttrail : Tok) (nvals : List Value) (xs : List Str) (ne : Nat) (j0 : Agree m [("letters", .ref la), ("pairs", .ref pa), ("middle", .ref ma), ("cells", .ref Cc), ("size", .int sz tsz), ("line", .ref Ln), ("least", .int (leastOf ws : Int) tle), ("near", .ref Nr), ("lead", .str lead tlead), ("trail", .str trail ttrail)]) (j1 : nx = (I4, io4) :: (I2, io2) :: (I, io) :: (L₁ + 1, oc) :: (L₁ + 1 + 1, oh) :: (Cc, listOf rows.toArray ce) :: (Ln, listOf lvals.toArray lne) :: (W, listOf wv.toArray we) :: (Nr, listOf nvals.toArray ne) :: X₅) (j2 : StrsAre nvals xs) (j3 : xs.map lst = (wy.2.2.1.take q).foldl (stepW wy) (((ws.take k).filter (fun w => w.1 = leastOf ws)).foldl addWay [])) (j4 : xs.length ≤ 32768 + q) : NearJ5 la pa ma L₁ Cc oc oh rows ce I io sz Ln I2 io2 lvals lne W we wv X₅ ws Nr I4 io4 wy lead trail k q m nx
section PartT5
set_option hygiene false in
local macro_rules | `(tactic| walk_at "mSt") => `(tactic| with_reducible show PyProof.Rows.LCg.CompRest _ _ _ _ _ _ _ _ _ _ _ _ _ _ _ (Array.size _) _ _ _)
theorem nearest_contract (prog : Program) (w : World) (la pa ma p1 p2 : Addr) (lvs mvs : List Value) (le pe me : Nat) (letters core : List Nat) (a1 b1 a2 b2 : Nat) (t1 t2 t3 t4 : Tok)
   (hlv : NatsAre lvs letters) (hmv : NatsAre mvs core) (hl1 : 1 ≤ letters.length) (hl5 : letters.length ≤ 5) (hl256 : ∀ x ∈ letters, x < 256) (hc1 : core.length ≤ 1) (hc256 : ∀ x ∈ core, x < 256) (ha1 : a1 < 256) (hb1 : b1 < 256) (ha2 : a2 < 256) (hb2 : b2 < 256) :
   Call37 prog w 77 [.ref la, .ref pa, .ref ma] (fun h => h.get? la = some (listOf lvs.toArray le) ∧ h.get? pa = some (listOf [Value.ref p1, Value.ref p2].toArray pe) ∧ h.get? ma = some (listOf mvs.toArray me) ∧ h.get? p1 = some (tupI a1 b1 t1 t2) ∧ h.get? p2 = some (tupI a2 b2 t3 t4)) 12
    (fun r new => ∃ (T Nn : Addr) (t : Tok) (vs : List Value) (e : Nat) (xs : List Str), r = .ref T ∧ new = [(T, tupL [.int ((cellG cst [(a1, b1), (a2, b2)] core letters letters.length 0).1 : Int) t, .ref Nn]), (Nn, listOf vs.toArray e)] ∧ StrsAre vs xs ∧ xs.map lst = (cellG cst [(a1, b1), (a2, b2)] core letters letters.length 0).2) := by
  intro mean mg mb dp un gd cn cs a ccd cl outer A₀ base h₀ L m s Q E B F KX T hk hdep hun hpre hret
  refine hideG ?_; intro Gh kGh
  refine and5 hpre ?_; intro hla hpa hma hp1 hp2; clear hpre
  refine kGh ?_; clear kGh Gh
  have hlL : s.heap.IsList la lvs.toArray := ⟨_, hla, rfl, _, rfl⟩
  have hmL : s.heap.IsList ma mvs.toArray := ⟨_, hma, rfl, _, rfl⟩
  have hpL : s.heap.IsList pa [Value.ref p1, Value.ref p2].toArray := ⟨_, hpa, rfl, _, rfl⟩
  have hll := hlv.length
  rw [List.length_map] at hll
  (refine wpAny_call ?_; k_dflt (refine' enterC37 ?k1 ?k2 ?k3 ?k5 ?kA ?kF ?kK ?k6 ?k7 ?k8 ?k9 ?kB ?kD ?_ ?c2 ?c3 ?c4; (case kA => exact rfl); (case kF => exact rfl); (case kK => assumption); (case k1 => k_asm); (case k2 => k_asm); (case k3 => k_asm); (case k5 => k_asm); (case k6 => k_is); (case k7 => k_is); (case k8 => ktr_room); (case k9 => exact BindsTo.of_eq rfl); (case kB => exact rfl); (case kD => decide +kernel); (case c2 => exact rfl); (case c3 => exact rfl); (case c4 => exact rfl); k_whole))
  intro L₁ h₁ tk₁ cells F₁ N₁ Y₁ B₁ X₁ T₁
  clear B F KX T
  replace F₁ := Agree.fr (bs := [("letters", .ref la), ("pairs", .ref pa), ("middle", .ref ma)]) F₁ (.cons rfl (.cons rfl (.cons rfl .nil)))
  have hY := CellsAre.two Y₁
  refine hideG ?_; intro Gh kGh
  obtain ⟨oh, oc, hE, dh, dc⟩ := hY
  refine kGh ?_; clear kGh Gh
  subst hE
  clear Y₁
  replace dh : ∃ v, oh.data = .cell v := ⟨_, dh⟩
  replace dc : ∃ v, oc.data = .cell v := ⟨_, dc⟩
  show wpAny _ _ _ _ _ _
  k_fold
  try walk_at "mGo"
  refine cut1 (h₀ := s.heap) (L := L₁) (NearJ1 la pa ma L₁ core) ?_ ?_
  · k_fold
    obtain ⟨vh, dh⟩ := dh
    obtain ⟨vc, dc⟩ := dc
    rcases core with _ | ⟨q, _ | ⟨q', r⟩⟩
    · cases hmv
      (repeat' (first | walk_at "mGo" | ((try with_reducible show wpAny _ _ _ _ _ _); (fail_if_success (walk_at "mSt")); first | ((with_reducible show wpAny _ _ (assign _ _ _) _ _ _); first | ((with_reducible show wpAny _ _ (assign (Expr.Tuple _ _ _) _ (Value.ref _)) _ _ _); ((refine' unpack37 ?F1 ?N1 ?m1 ?h1 ?n1 ?s1 ?_; (case F1 => with_reducible assumption); (case N1 => with_reducible assumption); (case m1 => walk_at "mMem"); (case h1 => exact rfl); (case n1 => exact rfl); (case s1 => exact rfl)); intro _ _ _)) | ((with_reducible show wpAny _ _ (assign (Expr.Tuple _ _ _) _ (Value.ref _)) _ _ _); ((refine' unpackB37 ?F2 ?N2 ?m2 ?h2 ?n2 ?s2 ?_; (case F2 => with_reducible assumption); (case N2 => with_reducible assumption); (case m2 => with_reducible assumption); (case h2 => exact rfl); (case n2 => exact rfl); (case s2 => exact rfl)); intro _ _ _))) | ((with_reducible show wpAny _ _ (subscriptTail _ _ _ _) _ _ _); first | ((with_reducible show wpAny _ _ (subscriptTail (Expr.Name _ _) (Expr.UnaryOp _ _ _) _ (Value.int _ _)) _ _ _); (refine' itemNeg37 ?N3 ?m3 ?l3 ?k3 ?_; (case N3 => with_reducible assumption); (case m3 => walk_at "mMem"); (case k3 => with_reducible assumption); (case l3 => lia))) | ((with_reducible show wpAny _ _ (subscriptTail (Expr.Name _ _) (Expr.Constant _ _ _) (Value.ref _) (Value.int _ _)) _ _ _); (refine' itemT37 ?N6 ?m6 ?_; (case N6 => with_reducible assumption); (case m6 => walk_at "mMem"))) | ((with_reducible show wpAny _ _ (subscriptTail _ _ (Value.ref _) (Value.int _ _)) _ _ _); walk_at "subscriptTail")) | ((with_reducible show wpAny _ _ (compareOp CmpOp.NotIn (Value.str _ _) (Value.ref _)) _ _ _); ((refine' notin_list_strs (News.isList ?N4 ?m4) (StrsAre.lib ?S4) ?_; (case N4 => with_reducible assumption); (case m4 => walk_at "mMem"); (case S4 => with_reducible assumption)))) | ((with_reducible show wpAny _ _ (call _ _) _ _ _); first | ((with_reducible show wpAny _ _ (call (Value.builtin "min") [Value.ref _]) _ _ _); ((refine' kso_min ?F5 ?N5 (News.isList ?N25 (.head _)) ?i5 ?e5 ?h5 ?_; (case F5 => with_reducible assumption); (case N5 => with_reducible assumption); (case N25 => with_reducible assumption); (case i5 => with_reducible assumption); (case e5 => with_reducible assumption); (case h5 => exact rfl)); intro h' M' t' k' F' N' hM1 hM2)) | ((with_reducible show wpAny _ _ (call (Value.ref _) _) _ _ _); k_dflt (refine' use37 (f := 72) (cost_contract _ _ _ _ _ _ ?hx7 ?hy7) ?kB ?kF ?kX ?kN ?kT ?kK ?kd ?ku trivial ?_); (case hx7 => exact ⟨by lia, by lia⟩); (case hy7 => exact ⟨by lia, by lia⟩); walk_at "mSides"; intro r' new' h' tk' hP' _ F' N'; (obtain ⟨e1', tC', e2'⟩ := hP'); subst e1' e2'; (try simp only [List.nil_append] at N')) | ((with_reducible show wpAny _ _ (call (Value.builtin "list.extend") [Value.ref _, Value.ref _]) _ _ _); (k_dflt (refine' ext370 ?F8 ?N8 (.head _) ?U8 ?h18 ?_; (case F8 => with_reducible assumption); (case N8 => with_reducible assumption); (case U8 => walk_at "mUpd"); (case h18 => lia)); intro _ _ _)) | ((with_reducible show wpAny _ _ (call (Value.builtin "list.extend") [Value.ref _, Value.ref _]) _ _ _); (k_dflt (refine' ext37 ?F9 ?N9 (.head _) ?ne9 ?U9 ?h19 ?h29 ?_; (case F9 => with_reducible assumption); (case N9 => with_reducible assumption); (case U9 => walk_at "mUpd"); (case ne9 => exact Nat.succ_ne_zero _); (case h19 => lia); (case h29 => exact Nat.le_of_ble_eq_true rfl)); intro _ _ _)) | ((with_reducible show wpAny _ _ (call (Value.builtin "len") [Value.ref _]) _ _ _); (refine len_list (Fr.lst (by with_reducible assumption) (by with_reducible assumption)) (by rw [List.size_toArray]; lia) ?_; (try rw [List.size_toArray]))) | ((with_reducible show wpAny _ _ (call (Value.builtin "str.join") _) _ _ _); ((refine' join37 (News.isList ?N12 ?m12) ?S12 ?b12 ?n12 ?_; (case N12 => with_reducible assumption); (case m12 => exact .head _); (case S12 => first | exact (trivial : StrsAre [] []) | exact StrsAre.one _ _ | with_reducible assumption); (case b12 => first | with_reducible assumption | (intro a ha; cases ha; done) | (intro a ha; rw [List.mem_singleton.mp ha]; exact Nat.le_of_ble_eq_true rfl)); (case n12 => first | exact Nat.le_of_ble_eq_true rfl | lia)); intro _ _ _ _)) | ((with_reducible show wpAny _ _ (call (Value.builtin "chr") _) _ _ _); (refine chr_of_range (by lia) (by lia) ?_)) | ((with_reducible show wpAny _ _ (call (Value.builtin "list.append") [Value.ref _, _]) _ _ _); (k_dflt (refine' append_K ?F14 ?N14 ?U14 ?_ ?z14; (case F14 => with_reducible assumption); (case N14 => with_reducible assumption); (case U14 => walk_at "mUpd"); (case z14 => (simp only [sizeLine_eq, List.size_toArray, List.length_append, List.length_cons, List.length_nil]; lia))); intro h' F' N'; (try simp only [List.push_toArray] at N')))) | ((with_reducible show wpAny _ _ (binaryOp Operator.Mult (Value.ref _) (Value.int _ _)) _ _ _); ((refine' KMa.mul ?F11 ?N11 (News.isList ?N211 (.head _)) ?lo11 ?hi11 ?z11 (flat_rep _ _) ?_; (case F11 => with_reducible assumption); (case N11 => with_reducible assumption); (case N211 => with_reducible assumption); (case lo11 => lia); (case hi11 => lia); (case z11 => (simp only [List.length_cons, List.length_nil]; lia))); intro D' h' F' N' l1; (try k_lt l1))) | walk1 | (dsimp only; walk1))))
      rename Fr _ _ _ _ => Fz
      rename News _ _ _ _ => Nz
      rename Obj.data _ = Data.cell (some (Value.str _ _)) => dz
      have Nz' := core_end Nz
      refine EndL.intro Fz Nz' ?_
      exact ⟨_, _, _, _, _, .cons rfl (.cons rfl (.cons rfl .nil)), rfl, dz, dh, rfl⟩
    · obtain ⟨tq, rfl⟩ : ∃ t, mvs = [.int (q : Int) t] := by
        cases hmv with
        | cons t _ h' =>
          cases h'
          exact ⟨_, rfl⟩
      have hq : q < 256 := hc256 q (.head _)
      (repeat' (first | walk_at "mGo" | ((try with_reducible show wpAny _ _ _ _ _ _); (fail_if_success (walk_at "mSt")); first | ((with_reducible show wpAny _ _ (assign _ _ _) _ _ _); first | ((with_reducible show wpAny _ _ (assign (Expr.Tuple _ _ _) _ (Value.ref _)) _ _ _); ((refine' unpack37 ?F1 ?N1 ?m1 ?h1 ?n1 ?s1 ?_; (case F1 => with_reducible assumption); (case N1 => with_reducible assumption); (case m1 => walk_at "mMem"); (case h1 => exact rfl); (case n1 => exact rfl); (case s1 => exact rfl)); intro _ _ _)) | ((with_reducible show wpAny _ _ (assign (Expr.Tuple _ _ _) _ (Value.ref _)) _ _ _); ((refine' unpackB37 ?F2 ?N2 ?m2 ?h2 ?n2 ?s2 ?_; (case F2 => with_reducible assumption); (case N2 => with_reducible assumption); (case m2 => with_reducible assumption); (case h2 => exact rfl); (case n2 => exact rfl); (case s2 => exact rfl)); intro _ _ _))) | ((with_reducible show wpAny _ _ (subscriptTail _ _ _ _) _ _ _); first | ((with_reducible show wpAny _ _ (subscriptTail (Expr.Name _ _) (Expr.UnaryOp _ _ _) _ (Value.int _ _)) _ _ _); (refine' itemNeg37 ?N3 ?m3 ?l3 ?k3 ?_; (case N3 => with_reducible assumption); (case m3 => walk_at "mMem"); (case k3 => with_reducible assumption); (case l3 => lia))) | ((with_reducible show wpAny _ _ (subscriptTail (Expr.Name _ _) (Expr.Constant _ _ _) (Value.ref _) (Value.int _ _)) _ _ _); (refine' itemT37 ?N6 ?m6 ?_; (case N6 => with_reducible assumption); (case m6 => walk_at "mMem"))) | ((with_reducible show wpAny _ _ (subscriptTail _ _ (Value.ref _) (Value.int _ _)) _ _ _); walk_at "subscriptTail")) | ((with_reducible show wpAny _ _ (compareOp CmpOp.NotIn (Value.str _ _) (Value.ref _)) _ _ _); ((refine' notin_list_strs (News.isList ?N4 ?m4) (StrsAre.lib ?S4) ?_; (case N4 => with_reducible assumption); (case m4 => walk_at "mMem"); (case S4 => with_reducible assumption)))) | ((with_reducible show wpAny _ _ (call _ _) _ _ _); first | ((with_reducible show wpAny _ _ (call (Value.builtin "min") [Value.ref _]) _ _ _); ((refine' kso_min ?F5 ?N5 (News.isList ?N25 (.head _)) ?i5 ?e5 ?h5 ?_; (case F5 => with_reducible assumption); (case N5 => with_reducible assumption); (case N25 => with_reducible assumption); (case i5 => with_reducible assumption); (case e5 => with_reducible assumption); (case h5 => exact rfl)); intro h' M' t' k' F' N' hM1 hM2)) | ((with_reducible show wpAny _ _ (call (Value.ref _) _) _ _ _); k_dflt (refine' use37 (f := 72) (cost_contract _ _ _ _ _ _ ?hx7 ?hy7) ?kB ?kF ?kX ?kN ?kT ?kK ?kd ?ku trivial ?_); (case hx7 => exact ⟨by lia, by lia⟩); (case hy7 => exact ⟨by lia, by lia⟩); walk_at "mSides"; intro r' new' h' tk' hP' _ F' N'; (obtain ⟨e1', tC', e2'⟩ := hP'); subst e1' e2'; (try simp only [List.nil_append] at N')) | ((with_reducible show wpAny _ _ (call (Value.builtin "list.extend") [Value.ref _, Value.ref _]) _ _ _); (k_dflt (refine' ext370 ?F8 ?N8 (.head _) ?U8 ?h18 ?_; (case F8 => with_reducible assumption); (case N8 => with_reducible assumption); (case U8 => walk_at "mUpd"); (case h18 => lia)); intro _ _ _)) | ((with_reducible show wpAny _ _ (call (Value.builtin "list.extend") [Value.ref _, Value.ref _]) _ _ _); (k_dflt (refine' ext37 ?F9 ?N9 (.head _) ?ne9 ?U9 ?h19 ?h29 ?_; (case F9 => with_reducible assumption); (case N9 => with_reducible assumption); (case U9 => walk_at "mUpd"); (case ne9 => exact Nat.succ_ne_zero _); (case h19 => lia); (case h29 => exact Nat.le_of_ble_eq_true rfl)); intro _ _ _)) | ((with_reducible show wpAny _ _ (call (Value.builtin "len") [Value.ref _]) _ _ _); (refine len_list (Fr.lst (by with_reducible assumption) (by with_reducible assumption)) (by rw [List.size_toArray]; lia) ?_; (try rw [List.size_toArray]))) | ((with_reducible show wpAny _ _ (call (Value.builtin "str.join") _) _ _ _); ((refine' join37 (News.isList ?N12 ?m12) ?S12 ?b12 ?n12 ?_; (case N12 => with_reducible assumption); (case m12 => exact .head _); (case S12 => first | exact (trivial : StrsAre [] []) | exact StrsAre.one _ _ | with_reducible assumption); (case b12 => first | with_reducible assumption | (intro a ha; cases ha; done) | (intro a ha; rw [List.mem_singleton.mp ha]; exact Nat.le_of_ble_eq_true rfl)); (case n12 => first | exact Nat.le_of_ble_eq_true rfl | lia)); intro _ _ _ _)) | ((with_reducible show wpAny _ _ (call (Value.builtin "chr") _) _ _ _); (refine chr_of_range (by lia) (by lia) ?_)) | ((with_reducible show wpAny _ _ (call (Value.builtin "list.append") [Value.ref _, _]) _ _ _); (k_dflt (refine' append_K ?F14 ?N14 ?U14 ?_ ?z14; (case F14 => with_reducible assumption); (case N14 => with_reducible assumption); (case U14 => walk_at "mUpd"); (case z14 => (simp only [sizeLine_eq, List.size_toArray, List.length_append, List.length_cons, List.length_nil]; lia))); intro h' F' N'; (try simp only [List.push_toArray] at N')))) | ((with_reducible show wpAny _ _ (binaryOp Operator.Mult (Value.ref _) (Value.int _ _)) _ _ _); ((refine' KMa.mul ?F11 ?N11 (News.isList ?N211 (.head _)) ?lo11 ?hi11 ?z11 (flat_rep _ _) ?_; (case F11 => with_reducible assumption); (case N11 => with_reducible assumption); (case N211 => with_reducible assumption); (case lo11 => lia); (case hi11 => lia); (case z11 => (simp only [List.length_cons, List.length_nil]; lia))); intro D' h' F' N' l1; (try k_lt l1))) | walk1 | (dsimp only; walk1))))
      rename Fr _ _ _ _ => Fz
      rename News _ _ _ _ => Nz
      rename Obj.data _ = Data.cell (some (Value.str _ _)) => dz
      rename lst _ = _ => hx
      have Nz' := core_end Nz
      refine EndL.intro Fz Nz' ?_
      exact ⟨_, _, _, _, _, .cons rfl (.cons rfl (.cons rfl .nil)), rfl, dz, dh, hx⟩
    · simp at hc1
  clear dh dc F₁ N₁
  rintro h₂ tk₂ m₂ nx F₂ N₂ ⟨oc, oh, cx, tc, vh, hag, rfl, dc, dh, hcx⟩
  replace F₂ := hag.fr F₂
  clear hag
  have hcl : cx.length = core.length := by rw [← lst_length, hcx]
  (repeat' (first | walk_at "mGo" | ((try with_reducible show wpAny _ _ _ _ _ _); (fail_if_success (walk_at "mSt")); first | ((with_reducible show wpAny _ _ (assign _ _ _) _ _ _); first | ((with_reducible show wpAny _ _ (assign (Expr.Tuple _ _ _) _ (Value.ref _)) _ _ _); ((refine' unpack37 ?F1 ?N1 ?m1 ?h1 ?n1 ?s1 ?_; (case F1 => with_reducible assumption); (case N1 => with_reducible assumption); (case m1 => walk_at "mMem"); (case h1 => exact rfl); (case n1 => exact rfl); (case s1 => exact rfl)); intro _ _ _)) | ((with_reducible show wpAny _ _ (assign (Expr.Tuple _ _ _) _ (Value.ref _)) _ _ _); ((refine' unpackB37 ?F2 ?N2 ?m2 ?h2 ?n2 ?s2 ?_; (case F2 => with_reducible assumption); (case N2 => with_reducible assumption); (case m2 => with_reducible assumption); (case h2 => exact rfl); (case n2 => exact rfl); (case s2 => exact rfl)); intro _ _ _))) | ((with_reducible show wpAny _ _ (subscriptTail _ _ _ _) _ _ _); first | ((with_reducible show wpAny _ _ (subscriptTail (Expr.Name _ _) (Expr.UnaryOp _ _ _) _ (Value.int _ _)) _ _ _); (refine' itemNeg37 ?N3 ?m3 ?l3 ?k3 ?_; (case N3 => with_reducible assumption); (case m3 => walk_at "mMem"); (case k3 => with_reducible assumption); (case l3 => lia))) | ((with_reducible show wpAny _ _ (subscriptTail (Expr.Name _ _) (Expr.Constant _ _ _) (Value.ref _) (Value.int _ _)) _ _ _); (refine' itemT37 ?N6 ?m6 ?_; (case N6 => with_reducible assumption); (case m6 => walk_at "mMem"))) | ((with_reducible show wpAny _ _ (subscriptTail _ _ (Value.ref _) (Value.int _ _)) _ _ _); walk_at "subscriptTail")) | ((with_reducible show wpAny _ _ (compareOp CmpOp.NotIn (Value.str _ _) (Value.ref _)) _ _ _); ((refine' notin_list_strs (News.isList ?N4 ?m4) (StrsAre.lib ?S4) ?_; (case N4 => with_reducible assumption); (case m4 => walk_at "mMem"); (case S4 => with_reducible assumption)))) | ((with_reducible show wpAny _ _ (call _ _) _ _ _); first | ((with_reducible show wpAny _ _ (call (Value.builtin "min") [Value.ref _]) _ _ _); ((refine' kso_min ?F5 ?N5 (News.isList ?N25 (.head _)) ?i5 ?e5 ?h5 ?_; (case F5 => with_reducible assumption); (case N5 => with_reducible assumption); (case N25 => with_reducible assumption); (case i5 => with_reducible assumption); (case e5 => with_reducible assumption); (case h5 => exact rfl)); intro h' M' t' k' F' N' hM1 hM2)) | ((with_reducible show wpAny _ _ (call (Value.ref _) _) _ _ _); k_dflt (refine' use37 (f := 72) (cost_contract _ _ _ _ _ _ ?hx7 ?hy7) ?kB ?kF ?kX ?kN ?kT ?kK ?kd ?ku trivial ?_); (case hx7 => exact ⟨by lia, by lia⟩); (case hy7 => exact ⟨by lia, by lia⟩); walk_at "mSides"; intro r' new' h' tk' hP' _ F' N'; (obtain ⟨e1', tC', e2'⟩ := hP'); subst e1' e2'; (try simp only [List.nil_append] at N')) | ((with_reducible show wpAny _ _ (call (Value.builtin "list.extend") [Value.ref _, Value.ref _]) _ _ _); (k_dflt (refine' ext370 ?F8 ?N8 (.head _) ?U8 ?h18 ?_; (case F8 => with_reducible assumption); (case N8 => with_reducible assumption); (case U8 => walk_at "mUpd"); (case h18 => lia)); intro _ _ _)) | ((with_reducible show wpAny _ _ (call (Value.builtin "list.extend") [Value.ref _, Value.ref _]) _ _ _); (k_dflt (refine' ext37 ?F9 ?N9 (.head _) ?ne9 ?U9 ?h19 ?h29 ?_; (case F9 => with_reducible assumption); (case N9 => with_reducible assumption); (case U9 => walk_at "mUpd"); (case ne9 => exact Nat.succ_ne_zero _); (case h19 => lia); (case h29 => exact Nat.le_of_ble_eq_true rfl)); intro _ _ _)) | ((with_reducible show wpAny _ _ (call (Value.builtin "len") [Value.ref _]) _ _ _); (refine len_list (Fr.lst (by with_reducible assumption) (by with_reducible assumption)) (by rw [List.size_toArray]; lia) ?_; (try rw [List.size_toArray]))) | ((with_reducible show wpAny _ _ (call (Value.builtin "str.join") _) _ _ _); ((refine' join37 (News.isList ?N12 ?m12) ?S12 ?b12 ?n12 ?_; (case N12 => with_reducible assumption); (case m12 => exact .head _); (case S12 => first | exact (trivial : StrsAre [] []) | exact StrsAre.one _ _ | with_reducible assumption); (case b12 => first | with_reducible assumption | (intro a ha; cases ha; done) | (intro a ha; rw [List.mem_singleton.mp ha]; exact Nat.le_of_ble_eq_true rfl)); (case n12 => first | exact Nat.le_of_ble_eq_true rfl | lia)); intro _ _ _ _)) | ((with_reducible show wpAny _ _ (call (Value.builtin "chr") _) _ _ _); (refine chr_of_range (by lia) (by lia) ?_)) | ((with_reducible show wpAny _ _ (call (Value.builtin "list.append") [Value.ref _, _]) _ _ _); (k_dflt (refine' append_K ?F14 ?N14 ?U14 ?_ ?z14; (case F14 => with_reducible assumption); (case N14 => with_reducible assumption); (case U14 => walk_at "mUpd"); (case z14 => (simp only [sizeLine_eq, List.size_toArray, List.length_append, List.length_cons, List.length_nil]; lia))); intro h' F' N'; (try simp only [List.push_toArray] at N')))) | ((with_reducible show wpAny _ _ (binaryOp Operator.Mult (Value.ref _) (Value.int _ _)) _ _ _); ((refine' KMa.mul ?F11 ?N11 (News.isList ?N211 (.head _)) ?lo11 ?hi11 ?z11 (flat_rep _ _) ?_; (case F11 => with_reducible assumption); (case N11 => with_reducible assumption); (case N211 => with_reducible assumption); (case lo11 => lia); (case hi11 => lia); (case z11 => (simp only [List.length_cons, List.length_nil]; lia))); intro D' h' F' N' l1; (try k_lt l1))) | walk1 | (dsimp only; walk1))))
  try walk_at "mGo"
  refine for_start ?_
  (repeat' (first | walk_at "mGo" | ((try with_reducible show wpAny _ _ _ _ _ _); (fail_if_success (walk_at "mSt")); first | ((with_reducible show wpAny _ _ (assign _ _ _) _ _ _); first | ((with_reducible show wpAny _ _ (assign (Expr.Tuple _ _ _) _ (Value.ref _)) _ _ _); ((refine' unpack37 ?F1 ?N1 ?m1 ?h1 ?n1 ?s1 ?_; (case F1 => with_reducible assumption); (case N1 => with_reducible assumption); (case m1 => walk_at "mMem"); (case h1 => exact rfl); (case n1 => exact rfl); (case s1 => exact rfl)); intro _ _ _)) | ((with_reducible show wpAny _ _ (assign (Expr.Tuple _ _ _) _ (Value.ref _)) _ _ _); ((refine' unpackB37 ?F2 ?N2 ?m2 ?h2 ?n2 ?s2 ?_; (case F2 => with_reducible assumption); (case N2 => with_reducible assumption); (case m2 => with_reducible assumption); (case h2 => exact rfl); (case n2 => exact rfl); (case s2 => exact rfl)); intro _ _ _))) | ((with_reducible show wpAny _ _ (subscriptTail _ _ _ _) _ _ _); first | ((with_reducible show wpAny _ _ (subscriptTail (Expr.Name _ _) (Expr.UnaryOp _ _ _) _ (Value.int _ _)) _ _ _); (refine' itemNeg37 ?N3 ?m3 ?l3 ?k3 ?_; (case N3 => with_reducible assumption); (case m3 => walk_at "mMem"); (case k3 => with_reducible assumption); (case l3 => lia))) | ((with_reducible show wpAny _ _ (subscriptTail (Expr.Name _ _) (Expr.Constant _ _ _) (Value.ref _) (Value.int _ _)) _ _ _); (refine' itemT37 ?N6 ?m6 ?_; (case N6 => with_reducible assumption); (case m6 => walk_at "mMem"))) | ((with_reducible show wpAny _ _ (subscriptTail _ _ (Value.ref _) (Value.int _ _)) _ _ _); walk_at "subscriptTail")) | ((with_reducible show wpAny _ _ (compareOp CmpOp.NotIn (Value.str _ _) (Value.ref _)) _ _ _); ((refine' notin_list_strs (News.isList ?N4 ?m4) (StrsAre.lib ?S4) ?_; (case N4 => with_reducible assumption); (case m4 => walk_at "mMem"); (case S4 => with_reducible assumption)))) | ((with_reducible show wpAny _ _ (call _ _) _ _ _); first | ((with_reducible show wpAny _ _ (call (Value.builtin "min") [Value.ref _]) _ _ _); ((refine' kso_min ?F5 ?N5 (News.isList ?N25 (.head _)) ?i5 ?e5 ?h5 ?_; (case F5 => with_reducible assumption); (case N5 => with_reducible assumption); (case N25 => with_reducible assumption); (case i5 => with_reducible assumption); (case e5 => with_reducible assumption); (case h5 => exact rfl)); intro h' M' t' k' F' N' hM1 hM2)) | ((with_reducible show wpAny _ _ (call (Value.ref _) _) _ _ _); k_dflt (refine' use37 (f := 72) (cost_contract _ _ _ _ _ _ ?hx7 ?hy7) ?kB ?kF ?kX ?kN ?kT ?kK ?kd ?ku trivial ?_); (case hx7 => exact ⟨by lia, by lia⟩); (case hy7 => exact ⟨by lia, by lia⟩); walk_at "mSides"; intro r' new' h' tk' hP' _ F' N'; (obtain ⟨e1', tC', e2'⟩ := hP'); subst e1' e2'; (try simp only [List.nil_append] at N')) | ((with_reducible show wpAny _ _ (call (Value.builtin "list.extend") [Value.ref _, Value.ref _]) _ _ _); (k_dflt (refine' ext370 ?F8 ?N8 (.head _) ?U8 ?h18 ?_; (case F8 => with_reducible assumption); (case N8 => with_reducible assumption); (case U8 => walk_at "mUpd"); (case h18 => lia)); intro _ _ _)) | ((with_reducible show wpAny _ _ (call (Value.builtin "list.extend") [Value.ref _, Value.ref _]) _ _ _); (k_dflt (refine' ext37 ?F9 ?N9 (.head _) ?ne9 ?U9 ?h19 ?h29 ?_; (case F9 => with_reducible assumption); (case N9 => with_reducible assumption); (case U9 => walk_at "mUpd"); (case ne9 => exact Nat.succ_ne_zero _); (case h19 => lia); (case h29 => exact Nat.le_of_ble_eq_true rfl)); intro _ _ _)) | ((with_reducible show wpAny _ _ (call (Value.builtin "len") [Value.ref _]) _ _ _); (refine len_list (Fr.lst (by with_reducible assumption) (by with_reducible assumption)) (by rw [List.size_toArray]; lia) ?_; (try rw [List.size_toArray]))) | ((with_reducible show wpAny _ _ (call (Value.builtin "str.join") _) _ _ _); ((refine' join37 (News.isList ?N12 ?m12) ?S12 ?b12 ?n12 ?_; (case N12 => with_reducible assumption); (case m12 => exact .head _); (case S12 => first | exact (trivial : StrsAre [] []) | exact StrsAre.one _ _ | with_reducible assumption); (case b12 => first | with_reducible assumption | (intro a ha; cases ha; done) | (intro a ha; rw [List.mem_singleton.mp ha]; exact Nat.le_of_ble_eq_true rfl)); (case n12 => first | exact Nat.le_of_ble_eq_true rfl | lia)); intro _ _ _ _)) | ((with_reducible show wpAny _ _ (call (Value.builtin "chr") _) _ _ _); (refine chr_of_range (by lia) (by lia) ?_)) | ((with_reducible show wpAny _ _ (call (Value.builtin "list.append") [Value.ref _, _]) _ _ _); (k_dflt (refine' append_K ?F14 ?N14 ?U14 ?_ ?z14; (case F14 => with_reducible assumption); (case N14 => with_reducible assumption); (case U14 => walk_at "mUpd"); (case z14 => (simp only [sizeLine_eq, List.size_toArray, List.length_append, List.length_cons, List.length_nil]; lia))); intro h' F' N'; (try simp only [List.push_toArray] at N')))) | ((with_reducible show wpAny _ _ (binaryOp Operator.Mult (Value.ref _) (Value.int _ _)) _ _ _); ((refine' KMa.mul ?F11 ?N11 (News.isList ?N211 (.head _)) ?lo11 ?hi11 ?z11 (flat_rep _ _) ?_; (case F11 => with_reducible assumption); (case N11 => with_reducible assumption); (case N211 => with_reducible assumption); (case lo11 => lia); (case hi11 => lia); (case z11 => (simp only [List.length_cons, List.length_nil]; lia))); intro D' h' F' N' l1; (try k_lt l1))) | walk1 | (dsimp only; walk1))))
  rename Fr _ _ _ _ => Fz
  rename News _ _ _ _ => Nz
  rename IsRange _ _ _ _ _ _ _ _ => Rz
  generalize hpairs : [(a1, b1), (a2, b2)] = pairs
  have hR0 : ∀ n : Nat, ((n : Int) + 1) = ((n + 1 : Nat) : Int) := by intro n; lia
  refine near_start (pairs := pairs) (core := core) (letters := letters) Nz (by rw [hcl]; push_cast; rfl) (by lia) hcx ?_ ?_ ?_ ?_ ?_ ?_
  · lia
  · lia
  · lia
  · lia
  · lia
  rintro Cc X rfl Nb hoff hrows c1 c2
  try walk_at "mGo"
  refine for_range (n := letters.length) (NearJ2 la pa ma L₁ cx tc pairs core letters Cc)
    rfl Rz ?_ ?_ ⟨_, _, rfl⟩ Fz Nb ?_ ?_ ?_
  · exact rng_small (by lia) (by lia) (by lia)
  · simp [Builtin.Range.rangeSize]
    lia
  · exact ⟨oc, oh, _, _, X, .cons rfl (.cons rfl (.cons rfl (.cons rfl .nil))), rfl, dc, ⟨vh, dh⟩, hoff, hrows⟩
  · clear Fz Nz Nb Rz hoff hrows dc dh
    ((repeat (with_reducible rename News _ _ _ _ => Nq; clear Nq)); (repeat (with_reducible rename Fr _ _ _ _ => Fq; clear Fq)); (repeat (with_reducible rename IsRange _ _ _ _ _ _ _ _ => Rq; clear Rq)))
    rintro i t m₃ nx h₃ tk₃ I io hi ⟨oc, oh, rows, ce, X, hag, rfl, dc, dh, hoff, hrows⟩ hI F₃ N₃
    replace F₃ := hag.fr F₃
    clear hag
    have i1 : L₁ + 1 ≠ I := hI (L₁ + 1, _) (.head _)
    have i2 : L₁ + 1 + 1 ≠ I := hI (L₁ + 1 + 1, _) (.tail _ (.head _))
    have i3 : Cc ≠ I := hI (Cc, _) (.tail _ (.tail _ (.head _)))
    have iX : ∀ p ∈ X, p.1 ≠ I := fun p hp => hI p (.tail _ (.tail _ (.tail _ hp)))
    clear hI
    generalize hsz : (1 : Int) + (i : Int) = sz at *
    (repeat' (first | walk_at "mGo" | ((try with_reducible show wpAny _ _ _ _ _ _); (fail_if_success (walk_at "mSt")); first | ((with_reducible show wpAny _ _ (assign _ _ _) _ _ _); first | ((with_reducible show wpAny _ _ (assign (Expr.Tuple _ _ _) _ (Value.ref _)) _ _ _); ((refine' unpack37 ?F1 ?N1 ?m1 ?h1 ?n1 ?s1 ?_; (case F1 => with_reducible assumption); (case N1 => with_reducible assumption); (case m1 => walk_at "mMem"); (case h1 => exact rfl); (case n1 => exact rfl); (case s1 => exact rfl)); intro _ _ _)) | ((with_reducible show wpAny _ _ (assign (Expr.Tuple _ _ _) _ (Value.ref _)) _ _ _); ((refine' unpackB37 ?F2 ?N2 ?m2 ?h2 ?n2 ?s2 ?_; (case F2 => with_reducible assumption); (case N2 => with_reducible assumption); (case m2 => with_reducible assumption); (case h2 => exact rfl); (case n2 => exact rfl); (case s2 => exact rfl)); intro _ _ _))) | ((with_reducible show wpAny _ _ (subscriptTail _ _ _ _) _ _ _); first | ((with_reducible show wpAny _ _ (subscriptTail (Expr.Name _ _) (Expr.UnaryOp _ _ _) _ (Value.int _ _)) _ _ _); (refine' itemNeg37 ?N3 ?m3 ?l3 ?k3 ?_; (case N3 => with_reducible assumption); (case m3 => walk_at "mMem"); (case k3 => with_reducible assumption); (case l3 => lia))) | ((with_reducible show wpAny _ _ (subscriptTail (Expr.Name _ _) (Expr.Constant _ _ _) (Value.ref _) (Value.int _ _)) _ _ _); (refine' itemT37 ?N6 ?m6 ?_; (case N6 => with_reducible assumption); (case m6 => walk_at "mMem"))) | ((with_reducible show wpAny _ _ (subscriptTail _ _ (Value.ref _) (Value.int _ _)) _ _ _); walk_at "subscriptTail")) | ((with_reducible show wpAny _ _ (compareOp CmpOp.NotIn (Value.str _ _) (Value.ref _)) _ _ _); ((refine' notin_list_strs (News.isList ?N4 ?m4) (StrsAre.lib ?S4) ?_; (case N4 => with_reducible assumption); (case m4 => walk_at "mMem"); (case S4 => with_reducible assumption)))) | ((with_reducible show wpAny _ _ (call _ _) _ _ _); first | ((with_reducible show wpAny _ _ (call (Value.builtin "min") [Value.ref _]) _ _ _); ((refine' kso_min ?F5 ?N5 (News.isList ?N25 (.head _)) ?i5 ?e5 ?h5 ?_; (case F5 => with_reducible assumption); (case N5 => with_reducible assumption); (case N25 => with_reducible assumption); (case i5 => with_reducible assumption); (case e5 => with_reducible assumption); (case h5 => exact rfl)); intro h' M' t' k' F' N' hM1 hM2)) | ((with_reducible show wpAny _ _ (call (Value.ref _) _) _ _ _); k_dflt (refine' use37 (f := 72) (cost_contract _ _ _ _ _ _ ?hx7 ?hy7) ?kB ?kF ?kX ?kN ?kT ?kK ?kd ?ku trivial ?_); (case hx7 => exact ⟨by lia, by lia⟩); (case hy7 => exact ⟨by lia, by lia⟩); walk_at "mSides"; intro r' new' h' tk' hP' _ F' N'; (obtain ⟨e1', tC', e2'⟩ := hP'); subst e1' e2'; (try simp only [List.nil_append] at N')) | ((with_reducible show wpAny _ _ (call (Value.builtin "list.extend") [Value.ref _, Value.ref _]) _ _ _); (k_dflt (refine' ext370 ?F8 ?N8 (.head _) ?U8 ?h18 ?_; (case F8 => with_reducible assumption); (case N8 => with_reducible assumption); (case U8 => walk_at "mUpd"); (case h18 => lia)); intro _ _ _)) | ((with_reducible show wpAny _ _ (call (Value.builtin "list.extend") [Value.ref _, Value.ref _]) _ _ _); (k_dflt (refine' ext37 ?F9 ?N9 (.head _) ?ne9 ?U9 ?h19 ?h29 ?_; (case F9 => with_reducible assumption); (case N9 => with_reducible assumption); (case U9 => walk_at "mUpd"); (case ne9 => exact Nat.succ_ne_zero _); (case h19 => lia); (case h29 => exact Nat.le_of_ble_eq_true rfl)); intro _ _ _)) | ((with_reducible show wpAny _ _ (call (Value.builtin "len") [Value.ref _]) _ _ _); (refine len_list (Fr.lst (by with_reducible assumption) (by with_reducible assumption)) (by rw [List.size_toArray]; lia) ?_; (try rw [List.size_toArray]))) | ((with_reducible show wpAny _ _ (call (Value.builtin "str.join") _) _ _ _); ((refine' join37 (News.isList ?N12 ?m12) ?S12 ?b12 ?n12 ?_; (case N12 => with_reducible assumption); (case m12 => exact .head _); (case S12 => first | exact (trivial : StrsAre [] []) | exact StrsAre.one _ _ | with_reducible assumption); (case b12 => first | with_reducible assumption | (intro a ha; cases ha; done) | (intro a ha; rw [List.mem_singleton.mp ha]; exact Nat.le_of_ble_eq_true rfl)); (case n12 => first | exact Nat.le_of_ble_eq_true rfl | lia)); intro _ _ _ _)) | ((with_reducible show wpAny _ _ (call (Value.builtin "chr") _) _ _ _); (refine chr_of_range (by lia) (by lia) ?_)) | ((with_reducible show wpAny _ _ (call (Value.builtin "list.append") [Value.ref _, _]) _ _ _); (k_dflt (refine' append_K ?F14 ?N14 ?U14 ?_ ?z14; (case F14 => with_reducible assumption); (case N14 => with_reducible assumption); (case U14 => walk_at "mUpd"); (case z14 => (simp only [sizeLine_eq, List.size_toArray, List.length_append, List.length_cons, List.length_nil]; lia))); intro h' F' N'; (try simp only [List.push_toArray] at N')))) | ((with_reducible show wpAny _ _ (binaryOp Operator.Mult (Value.ref _) (Value.int _ _)) _ _ _); ((refine' KMa.mul ?F11 ?N11 (News.isList ?N211 (.head _)) ?lo11 ?hi11 ?z11 (flat_rep _ _) ?_; (case F11 => with_reducible assumption); (case N11 => with_reducible assumption); (case N211 => with_reducible assumption); (case lo11 => lia); (case hi11 => lia); (case z11 => (simp only [List.length_cons, List.length_nil]; lia))); intro D' h' F' N' l1; (try k_lt l1))) | walk1 | (dsimp only; walk1))))
    try walk_at "mGo"
    refine for_start ?_
    (repeat' (first | walk_at "mGo" | ((try with_reducible show wpAny _ _ _ _ _ _); (fail_if_success (walk_at "mSt")); first | ((with_reducible show wpAny _ _ (assign _ _ _) _ _ _); first | ((with_reducible show wpAny _ _ (assign (Expr.Tuple _ _ _) _ (Value.ref _)) _ _ _); ((refine' unpack37 ?F1 ?N1 ?m1 ?h1 ?n1 ?s1 ?_; (case F1 => with_reducible assumption); (case N1 => with_reducible assumption); (case m1 => walk_at "mMem"); (case h1 => exact rfl); (case n1 => exact rfl); (case s1 => exact rfl)); intro _ _ _)) | ((with_reducible show wpAny _ _ (assign (Expr.Tuple _ _ _) _ (Value.ref _)) _ _ _); ((refine' unpackB37 ?F2 ?N2 ?m2 ?h2 ?n2 ?s2 ?_; (case F2 => with_reducible assumption); (case N2 => with_reducible assumption); (case m2 => with_reducible assumption); (case h2 => exact rfl); (case n2 => exact rfl); (case s2 => exact rfl)); intro _ _ _))) | ((with_reducible show wpAny _ _ (subscriptTail _ _ _ _) _ _ _); first | ((with_reducible show wpAny _ _ (subscriptTail (Expr.Name _ _) (Expr.UnaryOp _ _ _) _ (Value.int _ _)) _ _ _); (refine' itemNeg37 ?N3 ?m3 ?l3 ?k3 ?_; (case N3 => with_reducible assumption); (case m3 => walk_at "mMem"); (case k3 => with_reducible assumption); (case l3 => lia))) | ((with_reducible show wpAny _ _ (subscriptTail (Expr.Name _ _) (Expr.Constant _ _ _) (Value.ref _) (Value.int _ _)) _ _ _); (refine' itemT37 ?N6 ?m6 ?_; (case N6 => with_reducible assumption); (case m6 => walk_at "mMem"))) | ((with_reducible show wpAny _ _ (subscriptTail _ _ (Value.ref _) (Value.int _ _)) _ _ _); walk_at "subscriptTail")) | ((with_reducible show wpAny _ _ (compareOp CmpOp.NotIn (Value.str _ _) (Value.ref _)) _ _ _); ((refine' notin_list_strs (News.isList ?N4 ?m4) (StrsAre.lib ?S4) ?_; (case N4 => with_reducible assumption); (case m4 => walk_at "mMem"); (case S4 => with_reducible assumption)))) | ((with_reducible show wpAny _ _ (call _ _) _ _ _); first | ((with_reducible show wpAny _ _ (call (Value.builtin "min") [Value.ref _]) _ _ _); ((refine' kso_min ?F5 ?N5 (News.isList ?N25 (.head _)) ?i5 ?e5 ?h5 ?_; (case F5 => with_reducible assumption); (case N5 => with_reducible assumption); (case N25 => with_reducible assumption); (case i5 => with_reducible assumption); (case e5 => with_reducible assumption); (case h5 => exact rfl)); intro h' M' t' k' F' N' hM1 hM2)) | ((with_reducible show wpAny _ _ (call (Value.ref _) _) _ _ _); k_dflt (refine' use37 (f := 72) (cost_contract _ _ _ _ _ _ ?hx7 ?hy7) ?kB ?kF ?kX ?kN ?kT ?kK ?kd ?ku trivial ?_); (case hx7 => exact ⟨by lia, by lia⟩); (case hy7 => exact ⟨by lia, by lia⟩); walk_at "mSides"; intro r' new' h' tk' hP' _ F' N'; (obtain ⟨e1', tC', e2'⟩ := hP'); subst e1' e2'; (try simp only [List.nil_append] at N')) | ((with_reducible show wpAny _ _ (call (Value.builtin "list.extend") [Value.ref _, Value.ref _]) _ _ _); (k_dflt (refine' ext370 ?F8 ?N8 (.head _) ?U8 ?h18 ?_; (case F8 => with_reducible assumption); (case N8 => with_reducible assumption); (case U8 => walk_at "mUpd"); (case h18 => lia)); intro _ _ _)) | ((with_reducible show wpAny _ _ (call (Value.builtin "list.extend") [Value.ref _, Value.ref _]) _ _ _); (k_dflt (refine' ext37 ?F9 ?N9 (.head _) ?ne9 ?U9 ?h19 ?h29 ?_; (case F9 => with_reducible assumption); (case N9 => with_reducible assumption); (case U9 => walk_at "mUpd"); (case ne9 => exact Nat.succ_ne_zero _); (case h19 => lia); (case h29 => exact Nat.le_of_ble_eq_true rfl)); intro _ _ _)) | ((with_reducible show wpAny _ _ (call (Value.builtin "len") [Value.ref _]) _ _ _); (refine len_list (Fr.lst (by with_reducible assumption) (by with_reducible assumption)) (by rw [List.size_toArray]; lia) ?_; (try rw [List.size_toArray]))) | ((with_reducible show wpAny _ _ (call (Value.builtin "str.join") _) _ _ _); ((refine' join37 (News.isList ?N12 ?m12) ?S12 ?b12 ?n12 ?_; (case N12 => with_reducible assumption); (case m12 => exact .head _); (case S12 => first | exact (trivial : StrsAre [] []) | exact StrsAre.one _ _ | with_reducible assumption); (case b12 => first | with_reducible assumption | (intro a ha; cases ha; done) | (intro a ha; rw [List.mem_singleton.mp ha]; exact Nat.le_of_ble_eq_true rfl)); (case n12 => first | exact Nat.le_of_ble_eq_true rfl | lia)); intro _ _ _ _)) | ((with_reducible show wpAny _ _ (call (Value.builtin "chr") _) _ _ _); (refine chr_of_range (by lia) (by lia) ?_)) | ((with_reducible show wpAny _ _ (call (Value.builtin "list.append") [Value.ref _, _]) _ _ _); (k_dflt (refine' append_K ?F14 ?N14 ?U14 ?_ ?z14; (case F14 => with_reducible assumption); (case N14 => with_reducible assumption); (case U14 => walk_at "mUpd"); (case z14 => (simp only [sizeLine_eq, List.size_toArray, List.length_append, List.length_cons, List.length_nil]; lia))); intro h' F' N'; (try simp only [List.push_toArray] at N')))) | ((with_reducible show wpAny _ _ (binaryOp Operator.Mult (Value.ref _) (Value.int _ _)) _ _ _); ((refine' KMa.mul ?F11 ?N11 (News.isList ?N211 (.head _)) ?lo11 ?hi11 ?z11 (flat_rep _ _) ?_; (case F11 => with_reducible assumption); (case N11 => with_reducible assumption); (case N211 => with_reducible assumption); (case lo11 => lia); (case hi11 => lia); (case z11 => (simp only [List.length_cons, List.length_nil]; lia))); intro D' h' F' N' l1; (try k_lt l1))) | walk1 | (dsimp only; walk1))))
    rename Fr _ _ _ _ => Fz
    rename News _ _ _ _ => Nz
    rename IsRange _ _ _ _ _ _ _ _ => Rz
    rename (I < _ ∧ _ ∧ _ ∧ _ ∧ AllLt _ X) => hl
    refine line_start Nz hl ?_
    clear Nz hl
    rintro Ln rfl Nb ⟨n1, n2, n3, n4⟩ offLn
    try walk_at "mGo"
    refine for_range (n := letters.length - i) (NearJ3 la pa ma L₁ pairs core letters Cc oc rows ce X I io sz Ln i)
      rfl Rz ?_ ?_ ⟨_, _, rfl⟩ Fz Nb ?_ ?_ ?_
    · exact rng_small (by lia) (by lia) (by lia)
    · simp [Builtin.Range.rangeSize]
      lia
    · refine ⟨oh, [], _, X, _, .cons rfl (.cons rfl (.cons rfl (.cons rfl (.cons rfl (.cons rfl .nil))))), rfl, dh, ?_, fun _ h => h, .nil⟩
      intro a ha
      simp only [List.mem_cons, List.not_mem_nil, or_false] at ha
      rcases ha with rfl | rfl | rfl | rfl | rfl
      · exact iX
      · exact hoff.get (.head _)
      · exact hoff.get (.tail _ (.head _))
      · exact hoff.get (.tail _ (.tail _ (.head _)))
      · exact offLn
    · clear Fz Nb Rz dh offLn hoff
      ((repeat (with_reducible rename News _ _ _ _ => Nq; clear Nq)); (repeat (with_reducible rename Fr _ _ _ _ => Fq; clear Fq)); (repeat (with_reducible rename IsRange _ _ _ _ _ _ _ _ => Rq; clear Rq)))
      rintro j tj m₄ nx h₄ tk₄ I2 io2 hj ⟨oh, lvals, lne, X', tsz, hag, rfl, ⟨vh', dh⟩, hoff, hXX, hcells⟩ hI F₄ N₄
      replace F₄ := hag.fr F₄
      clear hag
      have j1 : I ≠ I2 := hI (I, _) (.head _)
      have j2 : L₁ + 1 ≠ I2 := hI (L₁ + 1, _) (.tail _ (.head _))
      have j3 : L₁ + 1 + 1 ≠ I2 := hI (L₁ + 1 + 1, _) (.tail _ (.tail _ (.head _)))
      have j4 : Cc ≠ I2 := hI (Cc, _) (.tail _ (.tail _ (.tail _ (.head _))))
      have j5 : Ln ≠ I2 := hI (Ln, _) (.tail _ (.tail _ (.tail _ (.tail _ (.head _)))))
      have jX : ∀ p ∈ X', p.1 ≠ I2 := fun p hp => hI p (.tail _ (.tail _ (.tail _ (.tail _ (.tail _ hp)))))
      clear hI
      have oI := hoff.get (a := I) (.head _)
      have oK1 := hoff.get (a := L₁ + 1) (.tail _ (.head _))
      have oK2 := hoff.get (a := L₁ + 1 + 1) (.tail _ (.tail _ (.head _)))
      have oCc := hoff.get (a := Cc) (.tail _ (.tail _ (.tail _ (.head _))))
      have oLn := hoff.get (a := Ln) (.tail _ (.tail _ (.tail _ (.tail _ (.head _)))))
      clear hoff
      replace hrows := hrows.mono fun _ _ q => RowX.mono hXX q
      generalize hst : (0 : Int) + (j : Int) = stt at *
      -- what is read
      have hjn : j + i < letters.length := by lia
      obtain ⟨th, hh⟩ : ∃ t, lvs[stt.toNat]? = some (.int ((letters[j]'(by lia) : Nat) : Int) t) := hlv.get stt.toNat _ (by rw [show stt.toNat = j by lia]; simp [List.getElem?_eq_getElem (show j < letters.length by lia)]; rfl)
      obtain ⟨tl, hl⟩ : ∃ t, lvs[(stt + sz - 1).toNat]? = some (.int ((letters[j + i]'(by lia) : Nat) : Int) t) := hlv.get (stt + sz - 1).toNat _ (by rw [show (stt + sz - 1).toNat = j + i by lia]; simp [List.getElem?_eq_getElem (show j + i < letters.length by lia)]; rfl)
      generalize hhd : letters[j]'(by lia) = hd at hh
      generalize hld : letters[j + i]'(by lia) = ld at hl
      refine hideG ?_; intro Gh kGh
      obtain ⟨v, hrow, R1, vals1, e1, rfl, hR1, hcs⟩ : ∃ v, rows[(sz - 1).toNat]? = some v ∧ RowX X' v (rowL pairs core letters i) := by
        rw [show (sz - 1).toNat = i by lia]
        exact hrows.get (by simp)
      obtain ⟨v, hvb, Tb, tpb, nvb, rfl, hTb, hNb⟩ : ∃ v, vals1[(stt + 1).toNat]? = some v ∧ CellX X' v (cellAt pairs core letters i (j + 1)) := by
        rw [show (stt + 1).toNat = j + 1 by lia]
        exact hcs.get (rowL_get (by lia))
      obtain ⟨v, hva, Ta, tpa, nva, rfl, hTa, hNa⟩ : ∃ v, vals1[stt.toNat]? = some v ∧ CellX X' v (cellAt pairs core letters i j) := by
        rw [show stt.toNat = j by lia]
        exact hcs.get (rowL_get (by lia))
      refine kGh ?_; clear kGh Gh
      generalize hrb : cellAt pairs core letters i (j + 1) = rb at hTb hNb
      generalize hra : cellAt pairs core letters i j = ra at hTa hNa
      (first | walk1 | (dsimp only; walk1))
      (first | walk1 | (dsimp only; walk1))
      (try with_reducible conv => whnf)
      try walk_at "mGo"
      refine cut5 (h₀ := s.heap) (L := L₁) (InWays la pa ma I2 I (L₁ + 1) (L₁ + 1 + 1) Cc Ln io2 io oc (listOf rows.toArray ce) (listOf lvals.toArray lne) sz stt ld hd rb.1 ra.1 nvb nva X' [(rb.1 + 2, [], rb.2, []), (ra.1 + 2, [], ra.2, [])]) ?_ ?_
      · --BEGIN
        k_fold
        (repeat' (first | walk_at "mGo" | ((try with_reducible show wpAny _ _ _ _ _ _); (fail_if_success (walk_at "mSt")); first | ((with_reducible show wpAny _ _ (assign _ _ _) _ _ _); first | ((with_reducible show wpAny _ _ (assign (Expr.Tuple _ _ _) _ (Value.ref _)) _ _ _); ((refine' unpack37 ?F1 ?N1 ?m1 ?h1 ?n1 ?s1 ?_; (case F1 => with_reducible assumption); (case N1 => with_reducible assumption); (case m1 => walk_at "mMem"); (case h1 => exact rfl); (case n1 => exact rfl); (case s1 => exact rfl)); intro _ _ _)) | ((with_reducible show wpAny _ _ (assign (Expr.Tuple _ _ _) _ (Value.ref _)) _ _ _); ((refine' unpackB37 ?F2 ?N2 ?m2 ?h2 ?n2 ?s2 ?_; (case F2 => with_reducible assumption); (case N2 => with_reducible assumption); (case m2 => with_reducible assumption); (case h2 => exact rfl); (case n2 => exact rfl); (case s2 => exact rfl)); intro _ _ _))) | ((with_reducible show wpAny _ _ (subscriptTail _ _ _ _) _ _ _); first | ((with_reducible show wpAny _ _ (subscriptTail (Expr.Name _ _) (Expr.UnaryOp _ _ _) _ (Value.int _ _)) _ _ _); (refine' itemNeg37 ?N3 ?m3 ?l3 ?k3 ?_; (case N3 => with_reducible assumption); (case m3 => walk_at "mMem"); (case k3 => with_reducible assumption); (case l3 => lia))) | ((with_reducible show wpAny _ _ (subscriptTail (Expr.Name _ _) (Expr.Constant _ _ _) (Value.ref _) (Value.int _ _)) _ _ _); (refine' itemT37 ?N6 ?m6 ?_; (case N6 => with_reducible assumption); (case m6 => walk_at "mMem"))) | ((with_reducible show wpAny _ _ (subscriptTail _ _ (Value.ref _) (Value.int _ _)) _ _ _); walk_at "subscriptTail")) | ((with_reducible show wpAny _ _ (compareOp CmpOp.NotIn (Value.str _ _) (Value.ref _)) _ _ _); ((refine' notin_list_strs (News.isList ?N4 ?m4) (StrsAre.lib ?S4) ?_; (case N4 => with_reducible assumption); (case m4 => walk_at "mMem"); (case S4 => with_reducible assumption)))) | ((with_reducible show wpAny _ _ (call _ _) _ _ _); first | ((with_reducible show wpAny _ _ (call (Value.builtin "min") [Value.ref _]) _ _ _); ((refine' kso_min ?F5 ?N5 (News.isList ?N25 (.head _)) ?i5 ?e5 ?h5 ?_; (case F5 => with_reducible assumption); (case N5 => with_reducible assumption); (case N25 => with_reducible assumption); (case i5 => with_reducible assumption); (case e5 => with_reducible assumption); (case h5 => exact rfl)); intro h' M' t' k' F' N' hM1 hM2)) | ((with_reducible show wpAny _ _ (call (Value.ref _) _) _ _ _); k_dflt (refine' use37 (f := 72) (cost_contract _ _ _ _ _ _ ?hx7 ?hy7) ?kB ?kF ?kX ?kN ?kT ?kK ?kd ?ku trivial ?_); (case hx7 => exact ⟨by lia, by lia⟩); (case hy7 => exact ⟨by lia, by lia⟩); walk_at "mSides"; intro r' new' h' tk' hP' _ F' N'; (obtain ⟨e1', tC', e2'⟩ := hP'); subst e1' e2'; (try simp only [List.nil_append] at N')) | ((with_reducible show wpAny _ _ (call (Value.builtin "list.extend") [Value.ref _, Value.ref _]) _ _ _); (k_dflt (refine' ext370 ?F8 ?N8 (.head _) ?U8 ?h18 ?_; (case F8 => with_reducible assumption); (case N8 => with_reducible assumption); (case U8 => walk_at "mUpd"); (case h18 => lia)); intro _ _ _)) | ((with_reducible show wpAny _ _ (call (Value.builtin "list.extend") [Value.ref _, Value.ref _]) _ _ _); (k_dflt (refine' ext37 ?F9 ?N9 (.head _) ?ne9 ?U9 ?h19 ?h29 ?_; (case F9 => with_reducible assumption); (case N9 => with_reducible assumption); (case U9 => walk_at "mUpd"); (case ne9 => exact Nat.succ_ne_zero _); (case h19 => lia); (case h29 => exact Nat.le_of_ble_eq_true rfl)); intro _ _ _)) | ((with_reducible show wpAny _ _ (call (Value.builtin "len") [Value.ref _]) _ _ _); (refine len_list (Fr.lst (by with_reducible assumption) (by with_reducible assumption)) (by rw [List.size_toArray]; lia) ?_; (try rw [List.size_toArray]))) | ((with_reducible show wpAny _ _ (call (Value.builtin "str.join") _) _ _ _); ((refine' join37 (News.isList ?N12 ?m12) ?S12 ?b12 ?n12 ?_; (case N12 => with_reducible assumption); (case m12 => exact .head _); (case S12 => first | exact (trivial : StrsAre [] []) | exact StrsAre.one _ _ | with_reducible assumption); (case b12 => first | with_reducible assumption | (intro a ha; cases ha; done) | (intro a ha; rw [List.mem_singleton.mp ha]; exact Nat.le_of_ble_eq_true rfl)); (case n12 => first | exact Nat.le_of_ble_eq_true rfl | lia)); intro _ _ _ _)) | ((with_reducible show wpAny _ _ (call (Value.builtin "chr") _) _ _ _); (refine chr_of_range (by lia) (by lia) ?_)) | ((with_reducible show wpAny _ _ (call (Value.builtin "list.append") [Value.ref _, _]) _ _ _); (k_dflt (refine' append_K ?F14 ?N14 ?U14 ?_ ?z14; (case F14 => with_reducible assumption); (case N14 => with_reducible assumption); (case U14 => walk_at "mUpd"); (case z14 => (simp only [sizeLine_eq, List.size_toArray, List.length_append, List.length_cons, List.length_nil]; lia))); intro h' F' N'; (try simp only [List.push_toArray] at N')))) | ((with_reducible show wpAny _ _ (binaryOp Operator.Mult (Value.ref _) (Value.int _ _)) _ _ _); ((refine' KMa.mul ?F11 ?N11 (News.isList ?N211 (.head _)) ?lo11 ?hi11 ?z11 (flat_rep _ _) ?_; (case F11 => with_reducible assumption); (case N11 => with_reducible assumption); (case N211 => with_reducible assumption); (case lo11 => lia); (case hi11 => lia); (case z11 => (simp only [List.length_cons, List.length_nil]; lia))); intro D' h' F' N' l1; (try k_lt l1))) | walk1 | (dsimp only; walk1))))
        rename Fr _ _ _ _ => Fz
        rename News _ _ _ _ => Nz
        rename (I2 < _ ∧ I < _ ∧ _ ∧ _ ∧ Cc < _ ∧ Ln < _ ∧ AllLt _ X') => hl1
        rename (_ < _ ∧ I2 < _ ∧ I < _ ∧ _ ∧ _ ∧ Cc < _ ∧ Ln < _ ∧ AllLt _ X') => hl2
        rename (_ < _ ∧ _ < _ ∧ I2 < _ ∧ I < _ ∧ _ ∧ _ ∧ Cc < _ ∧ Ln < _ ∧ AllLt _ X') => hl3
        rename Obj.data _ = Data.cell (some (Value.int _ _)) => dz
        exact ways0 Fz Nz (.cons rfl (.cons rfl (.cons rfl (.cons rfl (.cons rfl (.cons rfl (.cons rfl (.cons rfl (.cons rfl (.cons rfl (.cons rfl (.cons rfl (.cons rfl .nil))))))))))))) hl1 hl2 hl3 (off6 jX oI oK1 oK2 oCc oLn) dz hNb hNa
        --END
      clear hh hl hR1 hcs hvb hva hTb hTa hrow dh
      ((repeat (with_reducible rename News _ _ _ _ => Nq; clear Nq)); (repeat (with_reducible rename Fr _ _ _ _ => Fq; clear Fq)); (repeat (with_reducible rename IsRange _ _ _ _ _ _ _ _ => Rq; clear Rq)))
      have hhd256 : hd < 256 := hhd ▸ hl256 _ (List.getElem_mem _)
      have hld256 : ld < 256 := hld ▸ hl256 _ (List.getElem_mem _)
      rintro h₅ tk₅ m₅ nx F₅ N₅ ⟨tsz, tst, tl, tpb, tpa, th, oh, W, we, wv, X₅, hag, rfl, dh, hways, hX₅, hoff, hW1, hW2, hW3, hW4, hW5, hW6⟩
      replace F₅ := hag.fr F₅
      clear hag
      have hwl : wv.length = 2 := hways.length
      try walk_at "mGo"
      refine cut1 (h₀ := s.heap) (L := L₁) (InWays la pa ma I2 I (L₁ + 1) (L₁ + 1 + 1) Cc Ln io2 io oc (listOf rows.toArray ce) (listOf lvals.toArray lne) sz stt ld hd rb.1 ra.1 nvb nva X' ([(rb.1 + 2, [], rb.2, []), (ra.1 + 2, [], ra.2, [])] ++ waysB core i hd)) ?_ ?_
      · --BEGIN
        k_fold
        have oI2 := hoff.get (a := I2) (.head _)
        have oI := hoff.get (a := I) (.tail _ (.head _))
        have oK1 := hoff.get (a := L₁ + 1) (.tail _ (.tail _ (.head _)))
        have oK2 := hoff.get (a := L₁ + 1 + 1) (.tail _ (.tail _ (.tail _ (.head _))))
        have oCc := hoff.get (a := Cc) (.tail _ (.tail _ (.tail _ (.tail _ (.head _)))))
        have oLn := hoff.get (a := Ln) (.tail _ (.tail _ (.tail _ (.tail _ (.tail _ (.head _))))))
        have oW := hoff.get (a := W) (.tail _ (.tail _ (.tail _ (.tail _ (.tail _ (.tail _ (.head _)))))))
        rcases Nat.eq_zero_or_pos i with hi0 | hi0
        · rcases core with _ | ⟨q, _ | ⟨q', r⟩⟩
          · cases hmv
            (repeat' (first | walk_at "mGo" | ((try with_reducible show wpAny _ _ _ _ _ _); (fail_if_success (walk_at "mSt")); first | ((with_reducible show wpAny _ _ (assign _ _ _) _ _ _); first | ((with_reducible show wpAny _ _ (assign (Expr.Tuple _ _ _) _ (Value.ref _)) _ _ _); ((refine' unpack37 ?F1 ?N1 ?m1 ?h1 ?n1 ?s1 ?_; (case F1 => with_reducible assumption); (case N1 => with_reducible assumption); (case m1 => walk_at "mMem"); (case h1 => exact rfl); (case n1 => exact rfl); (case s1 => exact rfl)); intro _ _ _)) | ((with_reducible show wpAny _ _ (assign (Expr.Tuple _ _ _) _ (Value.ref _)) _ _ _); ((refine' unpackB37 ?F2 ?N2 ?m2 ?h2 ?n2 ?s2 ?_; (case F2 => with_reducible assumption); (case N2 => with_reducible assumption); (case m2 => with_reducible assumption); (case h2 => exact rfl); (case n2 => exact rfl); (case s2 => exact rfl)); intro _ _ _))) | ((with_reducible show wpAny _ _ (subscriptTail _ _ _ _) _ _ _); first | ((with_reducible show wpAny _ _ (subscriptTail (Expr.Name _ _) (Expr.UnaryOp _ _ _) _ (Value.int _ _)) _ _ _); (refine' itemNeg37 ?N3 ?m3 ?l3 ?k3 ?_; (case N3 => with_reducible assumption); (case m3 => walk_at "mMem"); (case k3 => with_reducible assumption); (case l3 => lia))) | ((with_reducible show wpAny _ _ (subscriptTail (Expr.Name _ _) (Expr.Constant _ _ _) (Value.ref _) (Value.int _ _)) _ _ _); (refine' itemT37 ?N6 ?m6 ?_; (case N6 => with_reducible assumption); (case m6 => walk_at "mMem"))) | ((with_reducible show wpAny _ _ (subscriptTail _ _ (Value.ref _) (Value.int _ _)) _ _ _); walk_at "subscriptTail")) | ((with_reducible show wpAny _ _ (compareOp CmpOp.NotIn (Value.str _ _) (Value.ref _)) _ _ _); ((refine' notin_list_strs (News.isList ?N4 ?m4) (StrsAre.lib ?S4) ?_; (case N4 => with_reducible assumption); (case m4 => walk_at "mMem"); (case S4 => with_reducible assumption)))) | ((with_reducible show wpAny _ _ (call _ _) _ _ _); first | ((with_reducible show wpAny _ _ (call (Value.builtin "min") [Value.ref _]) _ _ _); ((refine' kso_min ?F5 ?N5 (News.isList ?N25 (.head _)) ?i5 ?e5 ?h5 ?_; (case F5 => with_reducible assumption); (case N5 => with_reducible assumption); (case N25 => with_reducible assumption); (case i5 => with_reducible assumption); (case e5 => with_reducible assumption); (case h5 => exact rfl)); intro h' M' t' k' F' N' hM1 hM2)) | ((with_reducible show wpAny _ _ (call (Value.ref _) _) _ _ _); k_dflt (refine' use37 (f := 72) (cost_contract _ _ _ _ _ _ ?hx7 ?hy7) ?kB ?kF ?kX ?kN ?kT ?kK ?kd ?ku trivial ?_); (case hx7 => exact ⟨by lia, by lia⟩); (case hy7 => exact ⟨by lia, by lia⟩); walk_at "mSides"; intro r' new' h' tk' hP' _ F' N'; (obtain ⟨e1', tC', e2'⟩ := hP'); subst e1' e2'; (try simp only [List.nil_append] at N')) | ((with_reducible show wpAny _ _ (call (Value.builtin "list.extend") [Value.ref _, Value.ref _]) _ _ _); (k_dflt (refine' ext370 ?F8 ?N8 (.head _) ?U8 ?h18 ?_; (case F8 => with_reducible assumption); (case N8 => with_reducible assumption); (case U8 => walk_at "mUpd"); (case h18 => lia)); intro _ _ _)) | ((with_reducible show wpAny _ _ (call (Value.builtin "list.extend") [Value.ref _, Value.ref _]) _ _ _); (k_dflt (refine' ext37 ?F9 ?N9 (.head _) ?ne9 ?U9 ?h19 ?h29 ?_; (case F9 => with_reducible assumption); (case N9 => with_reducible assumption); (case U9 => walk_at "mUpd"); (case ne9 => exact Nat.succ_ne_zero _); (case h19 => lia); (case h29 => exact Nat.le_of_ble_eq_true rfl)); intro _ _ _)) | ((with_reducible show wpAny _ _ (call (Value.builtin "len") [Value.ref _]) _ _ _); (refine len_list (Fr.lst (by with_reducible assumption) (by with_reducible assumption)) (by rw [List.size_toArray]; lia) ?_; (try rw [List.size_toArray]))) | ((with_reducible show wpAny _ _ (call (Value.builtin "str.join") _) _ _ _); ((refine' join37 (News.isList ?N12 ?m12) ?S12 ?b12 ?n12 ?_; (case N12 => with_reducible assumption); (case m12 => exact .head _); (case S12 => first | exact (trivial : StrsAre [] []) | exact StrsAre.one _ _ | with_reducible assumption); (case b12 => first | with_reducible assumption | (intro a ha; cases ha; done) | (intro a ha; rw [List.mem_singleton.mp ha]; exact Nat.le_of_ble_eq_true rfl)); (case n12 => first | exact Nat.le_of_ble_eq_true rfl | lia)); intro _ _ _ _)) | ((with_reducible show wpAny _ _ (call (Value.builtin "chr") _) _ _ _); (refine chr_of_range (by lia) (by lia) ?_)) | ((with_reducible show wpAny _ _ (call (Value.builtin "list.append") [Value.ref _, _]) _ _ _); (k_dflt (refine' append_K ?F14 ?N14 ?U14 ?_ ?z14; (case F14 => with_reducible assumption); (case N14 => with_reducible assumption); (case U14 => walk_at "mUpd"); (case z14 => (simp only [sizeLine_eq, List.size_toArray, List.length_append, List.length_cons, List.length_nil]; lia))); intro h' F' N'; (try simp only [List.push_toArray] at N')))) | ((with_reducible show wpAny _ _ (binaryOp Operator.Mult (Value.ref _) (Value.int _ _)) _ _ _); ((refine' KMa.mul ?F11 ?N11 (News.isList ?N211 (.head _)) ?lo11 ?hi11 ?z11 (flat_rep _ _) ?_; (case F11 => with_reducible assumption); (case N11 => with_reducible assumption); (case N211 => with_reducible assumption); (case lo11 => lia); (case hi11 => lia); (case z11 => (simp only [List.length_cons, List.length_nil]; lia))); intro D' h' F' N' l1; (try k_lt l1))) | walk1 | (dsimp only; walk1))))
            rename Fr _ _ _ _ => Fz
            rename News _ _ _ _ => Nz
            have Nz' := News.sub Nz (nx' := (I2, io2) :: (I, io) :: (L₁ + 1, oc) :: (L₁ + 1 + 1, oh) :: (Cc, listOf rows.toArray ce) :: (Ln, listOf lvals.toArray lne) :: (W, listOf wv.toArray we) :: X₅) (by walk_at "mSub")
            refine EndL.intro Fz Nz' ?_
            exact ⟨tsz, tst, tl, tpb, tpa, th, oh, W, we, wv, X₅, .cons rfl (.cons rfl (.cons rfl (.cons rfl (.cons rfl (.cons rfl (.cons rfl (.cons rfl (.cons rfl (.cons rfl (.cons rfl (.cons rfl (.cons rfl .nil)))))))))))), rfl, dh, by simpa [waysB] using hways, hX₅, hoff, hW1, hW2, hW3, hW4, hW5, hW6⟩
          · obtain ⟨tq, rfl⟩ : ∃ t, mvs = [.int (q : Int) t] := by
              cases hmv with
              | cons t _ h' =>
                cases h'
                exact ⟨_, rfl⟩
            have hq : q < 256 := hc256 q (.head _)
            (repeat' (first | walk_at "mGo" | ((try with_reducible show wpAny _ _ _ _ _ _); (fail_if_success (walk_at "mSt")); first | ((with_reducible show wpAny _ _ (assign _ _ _) _ _ _); first | ((with_reducible show wpAny _ _ (assign (Expr.Tuple _ _ _) _ (Value.ref _)) _ _ _); ((refine' unpack37 ?F1 ?N1 ?m1 ?h1 ?n1 ?s1 ?_; (case F1 => with_reducible assumption); (case N1 => with_reducible assumption); (case m1 => walk_at "mMem"); (case h1 => exact rfl); (case n1 => exact rfl); (case s1 => exact rfl)); intro _ _ _)) | ((with_reducible show wpAny _ _ (assign (Expr.Tuple _ _ _) _ (Value.ref _)) _ _ _); ((refine' unpackB37 ?F2 ?N2 ?m2 ?h2 ?n2 ?s2 ?_; (case F2 => with_reducible assumption); (case N2 => with_reducible assumption); (case m2 => with_reducible assumption); (case h2 => exact rfl); (case n2 => exact rfl); (case s2 => exact rfl)); intro _ _ _))) | ((with_reducible show wpAny _ _ (subscriptTail _ _ _ _) _ _ _); first | ((with_reducible show wpAny _ _ (subscriptTail (Expr.Name _ _) (Expr.UnaryOp _ _ _) _ (Value.int _ _)) _ _ _); (refine' itemNeg37 ?N3 ?m3 ?l3 ?k3 ?_; (case N3 => with_reducible assumption); (case m3 => walk_at "mMem"); (case k3 => with_reducible assumption); (case l3 => lia))) | ((with_reducible show wpAny _ _ (subscriptTail (Expr.Name _ _) (Expr.Constant _ _ _) (Value.ref _) (Value.int _ _)) _ _ _); (refine' itemT37 ?N6 ?m6 ?_; (case N6 => with_reducible assumption); (case m6 => walk_at "mMem"))) | ((with_reducible show wpAny _ _ (subscriptTail _ _ (Value.ref _) (Value.int _ _)) _ _ _); walk_at "subscriptTail")) | ((with_reducible show wpAny _ _ (compareOp CmpOp.NotIn (Value.str _ _) (Value.ref _)) _ _ _); ((refine' notin_list_strs (News.isList ?N4 ?m4) (StrsAre.lib ?S4) ?_; (case N4 => with_reducible assumption); (case m4 => walk_at "mMem"); (case S4 => with_reducible assumption)))) | ((with_reducible show wpAny _ _ (call _ _) _ _ _); first | ((with_reducible show wpAny _ _ (call (Value.builtin "min") [Value.ref _]) _ _ _); ((refine' kso_min ?F5 ?N5 (News.isList ?N25 (.head _)) ?i5 ?e5 ?h5 ?_; (case F5 => with_reducible assumption); (case N5 => with_reducible assumption); (case N25 => with_reducible assumption); (case i5 => with_reducible assumption); (case e5 => with_reducible assumption); (case h5 => exact rfl)); intro h' M' t' k' F' N' hM1 hM2)) | ((with_reducible show wpAny _ _ (call (Value.ref _) _) _ _ _); k_dflt (refine' use37 (f := 72) (cost_contract _ _ _ _ _ _ ?hx7 ?hy7) ?kB ?kF ?kX ?kN ?kT ?kK ?kd ?ku trivial ?_); (case hx7 => exact ⟨by lia, by lia⟩); (case hy7 => exact ⟨by lia, by lia⟩); walk_at "mSides"; intro r' new' h' tk' hP' _ F' N'; (obtain ⟨e1', tC', e2'⟩ := hP'); subst e1' e2'; (try simp only [List.nil_append] at N')) | ((with_reducible show wpAny _ _ (call (Value.builtin "list.extend") [Value.ref _, Value.ref _]) _ _ _); (k_dflt (refine' ext370 ?F8 ?N8 (.head _) ?U8 ?h18 ?_; (case F8 => with_reducible assumption); (case N8 => with_reducible assumption); (case U8 => walk_at "mUpd"); (case h18 => lia)); intro _ _ _)) | ((with_reducible show wpAny _ _ (call (Value.builtin "list.extend") [Value.ref _, Value.ref _]) _ _ _); (k_dflt (refine' ext37 ?F9 ?N9 (.head _) ?ne9 ?U9 ?h19 ?h29 ?_; (case F9 => with_reducible assumption); (case N9 => with_reducible assumption); (case U9 => walk_at "mUpd"); (case ne9 => exact Nat.succ_ne_zero _); (case h19 => lia); (case h29 => exact Nat.le_of_ble_eq_true rfl)); intro _ _ _)) | ((with_reducible show wpAny _ _ (call (Value.builtin "len") [Value.ref _]) _ _ _); (refine len_list (Fr.lst (by with_reducible assumption) (by with_reducible assumption)) (by rw [List.size_toArray]; lia) ?_; (try rw [List.size_toArray]))) | ((with_reducible show wpAny _ _ (call (Value.builtin "str.join") _) _ _ _); ((refine' join37 (News.isList ?N12 ?m12) ?S12 ?b12 ?n12 ?_; (case N12 => with_reducible assumption); (case m12 => exact .head _); (case S12 => first | exact (trivial : StrsAre [] []) | exact StrsAre.one _ _ | with_reducible assumption); (case b12 => first | with_reducible assumption | (intro a ha; cases ha; done) | (intro a ha; rw [List.mem_singleton.mp ha]; exact Nat.le_of_ble_eq_true rfl)); (case n12 => first | exact Nat.le_of_ble_eq_true rfl | lia)); intro _ _ _ _)) | ((with_reducible show wpAny _ _ (call (Value.builtin "chr") _) _ _ _); (refine chr_of_range (by lia) (by lia) ?_)) | ((with_reducible show wpAny _ _ (call (Value.builtin "list.append") [Value.ref _, _]) _ _ _); (k_dflt (refine' append_K ?F14 ?N14 ?U14 ?_ ?z14; (case F14 => with_reducible assumption); (case N14 => with_reducible assumption); (case U14 => walk_at "mUpd"); (case z14 => (simp only [sizeLine_eq, List.size_toArray, List.length_append, List.length_cons, List.length_nil]; lia))); intro h' F' N'; (try simp only [List.push_toArray] at N')))) | ((with_reducible show wpAny _ _ (binaryOp Operator.Mult (Value.ref _) (Value.int _ _)) _ _ _); ((refine' KMa.mul ?F11 ?N11 (News.isList ?N211 (.head _)) ?lo11 ?hi11 ?z11 (flat_rep _ _) ?_; (case F11 => with_reducible assumption); (case N11 => with_reducible assumption); (case N211 => with_reducible assumption); (case lo11 => lia); (case hi11 => lia); (case z11 => (simp only [List.length_cons, List.length_nil]; lia))); intro D' h' F' N' l1; (try k_lt l1))) | walk1 | (dsimp only; walk1))))
            rename (_ < _ ∧ _ < _ ∧ _ < _ ∧ I2 < _ ∧ I < _ ∧ _ ∧ _ ∧ Cc < _ ∧ Ln < _ ∧ W < _ ∧ AllLt _ X₅) => hl1
            rename (_ < _ ∧ _ < _ ∧ _ < _ ∧ _ < _ ∧ I2 < _ ∧ I < _ ∧ _ ∧ _ ∧ Cc < _ ∧ Ln < _ ∧ W < _ ∧ AllLt _ X₅) => hl2
            refine hideG ?_; intro Gh kGh
            refine and11 hl1 ?_; intro x1 x2 x3 x4 x5 x6 x7 x8 x9 x10 x11; clear hl1
            refine and12 hl2 ?_; intro y0 y1 y2 y3 y4 y5 y6 y7 y8 y9 y10 y11; clear hl2
            refine kGh ?_; clear kGh Gh
            refine comp_end2 (by with_reducible assumption) (by with_reducible assumption) (by assumption) ⟨x1, x2, x3⟩ ⟨y1, y2, y3⟩ (.inl hmL) ?_
            (repeat' (first | walk_at "mGo" | ((try with_reducible show wpAny _ _ _ _ _ _); (fail_if_success (walk_at "mSt")); first | ((with_reducible show wpAny _ _ (assign _ _ _) _ _ _); first | ((with_reducible show wpAny _ _ (assign (Expr.Tuple _ _ _) _ (Value.ref _)) _ _ _); ((refine' unpack37 ?F1 ?N1 ?m1 ?h1 ?n1 ?s1 ?_; (case F1 => with_reducible assumption); (case N1 => with_reducible assumption); (case m1 => walk_at "mMem"); (case h1 => exact rfl); (case n1 => exact rfl); (case s1 => exact rfl)); intro _ _ _)) | ((with_reducible show wpAny _ _ (assign (Expr.Tuple _ _ _) _ (Value.ref _)) _ _ _); ((refine' unpackB37 ?F2 ?N2 ?m2 ?h2 ?n2 ?s2 ?_; (case F2 => with_reducible assumption); (case N2 => with_reducible assumption); (case m2 => with_reducible assumption); (case h2 => exact rfl); (case n2 => exact rfl); (case s2 => exact rfl)); intro _ _ _))) | ((with_reducible show wpAny _ _ (subscriptTail _ _ _ _) _ _ _); first | ((with_reducible show wpAny _ _ (subscriptTail (Expr.Name _ _) (Expr.UnaryOp _ _ _) _ (Value.int _ _)) _ _ _); (refine' itemNeg37 ?N3 ?m3 ?l3 ?k3 ?_; (case N3 => with_reducible assumption); (case m3 => walk_at "mMem"); (case k3 => with_reducible assumption); (case l3 => lia))) | ((with_reducible show wpAny _ _ (subscriptTail (Expr.Name _ _) (Expr.Constant _ _ _) (Value.ref _) (Value.int _ _)) _ _ _); (refine' itemT37 ?N6 ?m6 ?_; (case N6 => with_reducible assumption); (case m6 => walk_at "mMem"))) | ((with_reducible show wpAny _ _ (subscriptTail _ _ (Value.ref _) (Value.int _ _)) _ _ _); walk_at "subscriptTail")) | ((with_reducible show wpAny _ _ (compareOp CmpOp.NotIn (Value.str _ _) (Value.ref _)) _ _ _); ((refine' notin_list_strs (News.isList ?N4 ?m4) (StrsAre.lib ?S4) ?_; (case N4 => with_reducible assumption); (case m4 => walk_at "mMem"); (case S4 => with_reducible assumption)))) | ((with_reducible show wpAny _ _ (call _ _) _ _ _); first | ((with_reducible show wpAny _ _ (call (Value.builtin "min") [Value.ref _]) _ _ _); ((refine' kso_min ?F5 ?N5 (News.isList ?N25 (.head _)) ?i5 ?e5 ?h5 ?_; (case F5 => with_reducible assumption); (case N5 => with_reducible assumption); (case N25 => with_reducible assumption); (case i5 => with_reducible assumption); (case e5 => with_reducible assumption); (case h5 => exact rfl)); intro h' M' t' k' F' N' hM1 hM2)) | ((with_reducible show wpAny _ _ (call (Value.ref _) _) _ _ _); k_dflt (refine' use37 (f := 72) (cost_contract _ _ _ _ _ _ ?hx7 ?hy7) ?kB ?kF ?kX ?kN ?kT ?kK ?kd ?ku trivial ?_); (case hx7 => exact ⟨by lia, by lia⟩); (case hy7 => exact ⟨by lia, by lia⟩); walk_at "mSides"; intro r' new' h' tk' hP' _ F' N'; (obtain ⟨e1', tC', e2'⟩ := hP'); subst e1' e2'; (try simp only [List.nil_append] at N')) | ((with_reducible show wpAny _ _ (call (Value.builtin "list.extend") [Value.ref _, Value.ref _]) _ _ _); (k_dflt (refine' ext370 ?F8 ?N8 (.head _) ?U8 ?h18 ?_; (case F8 => with_reducible assumption); (case N8 => with_reducible assumption); (case U8 => walk_at "mUpd"); (case h18 => lia)); intro _ _ _)) | ((with_reducible show wpAny _ _ (call (Value.builtin "list.extend") [Value.ref _, Value.ref _]) _ _ _); (k_dflt (refine' ext37 ?F9 ?N9 (.head _) ?ne9 ?U9 ?h19 ?h29 ?_; (case F9 => with_reducible assumption); (case N9 => with_reducible assumption); (case U9 => walk_at "mUpd"); (case ne9 => exact Nat.succ_ne_zero _); (case h19 => lia); (case h29 => exact Nat.le_of_ble_eq_true rfl)); intro _ _ _)) | ((with_reducible show wpAny _ _ (call (Value.builtin "len") [Value.ref _]) _ _ _); (refine len_list (Fr.lst (by with_reducible assumption) (by with_reducible assumption)) (by rw [List.size_toArray]; lia) ?_; (try rw [List.size_toArray]))) | ((with_reducible show wpAny _ _ (call (Value.builtin "str.join") _) _ _ _); ((refine' join37 (News.isList ?N12 ?m12) ?S12 ?b12 ?n12 ?_; (case N12 => with_reducible assumption); (case m12 => exact .head _); (case S12 => first | exact (trivial : StrsAre [] []) | exact StrsAre.one _ _ | with_reducible assumption); (case b12 => first | with_reducible assumption | (intro a ha; cases ha; done) | (intro a ha; rw [List.mem_singleton.mp ha]; exact Nat.le_of_ble_eq_true rfl)); (case n12 => first | exact Nat.le_of_ble_eq_true rfl | lia)); intro _ _ _ _)) | ((with_reducible show wpAny _ _ (call (Value.builtin "chr") _) _ _ _); (refine chr_of_range (by lia) (by lia) ?_)) | ((with_reducible show wpAny _ _ (call (Value.builtin "list.append") [Value.ref _, _]) _ _ _); (k_dflt (refine' append_K ?F14 ?N14 ?U14 ?_ ?z14; (case F14 => with_reducible assumption); (case N14 => with_reducible assumption); (case U14 => walk_at "mUpd"); (case z14 => (simp only [sizeLine_eq, List.size_toArray, List.length_append, List.length_cons, List.length_nil]; lia))); intro h' F' N'; (try simp only [List.push_toArray] at N')))) | ((with_reducible show wpAny _ _ (binaryOp Operator.Mult (Value.ref _) (Value.int _ _)) _ _ _); ((refine' KMa.mul ?F11 ?N11 (News.isList ?N211 (.head _)) ?lo11 ?hi11 ?z11 (flat_rep _ _) ?_; (case F11 => with_reducible assumption); (case N11 => with_reducible assumption); (case N211 => with_reducible assumption); (case lo11 => lia); (case hi11 => lia); (case z11 => (simp only [List.length_cons, List.length_nil]; lia))); intro D' h' F' N' l1; (try k_lt l1))) | walk1 | (dsimp only; walk1))))
            rename Fr _ _ _ _ => Fz
            rename News _ _ _ _ => Nz
            have e0 : waysB [q] i hd = waysB [q] 0 hd := by rw [hi0]
            rw [e0]
            exact ways1 Fz Nz (.cons rfl (.cons rfl (.cons rfl (.cons rfl (.cons rfl (.cons rfl (.cons rfl (.cons rfl (.cons rfl (.cons rfl (.cons rfl (.cons rfl (.cons rfl .nil))))))))))))) ⟨x4, x5, x6, x7, x8, x9, x10⟩ ⟨y4, y5, y6, y7, y8, y9, y10⟩ ⟨hW1, hW2, hW3, hW4, hW5, hW6⟩ hoff dh hways hX₅ hcx (cst_eq hd q).symm rfl
          · simp at hc1
        · (repeat' (first | walk_at "mGo" | ((try with_reducible show wpAny _ _ _ _ _ _); (fail_if_success (walk_at "mSt")); first | ((with_reducible show wpAny _ _ (assign _ _ _) _ _ _); first | ((with_reducible show wpAny _ _ (assign (Expr.Tuple _ _ _) _ (Value.ref _)) _ _ _); ((refine' unpack37 ?F1 ?N1 ?m1 ?h1 ?n1 ?s1 ?_; (case F1 => with_reducible assumption); (case N1 => with_reducible assumption); (case m1 => walk_at "mMem"); (case h1 => exact rfl); (case n1 => exact rfl); (case s1 => exact rfl)); intro _ _ _)) | ((with_reducible show wpAny _ _ (assign (Expr.Tuple _ _ _) _ (Value.ref _)) _ _ _); ((refine' unpackB37 ?F2 ?N2 ?m2 ?h2 ?n2 ?s2 ?_; (case F2 => with_reducible assumption); (case N2 => with_reducible assumption); (case m2 => with_reducible assumption); (case h2 => exact rfl); (case n2 => exact rfl); (case s2 => exact rfl)); intro _ _ _))) | ((with_reducible show wpAny _ _ (subscriptTail _ _ _ _) _ _ _); first | ((with_reducible show wpAny _ _ (subscriptTail (Expr.Name _ _) (Expr.UnaryOp _ _ _) _ (Value.int _ _)) _ _ _); (refine' itemNeg37 ?N3 ?m3 ?l3 ?k3 ?_; (case N3 => with_reducible assumption); (case m3 => walk_at "mMem"); (case k3 => with_reducible assumption); (case l3 => lia))) | ((with_reducible show wpAny _ _ (subscriptTail (Expr.Name _ _) (Expr.Constant _ _ _) (Value.ref _) (Value.int _ _)) _ _ _); (refine' itemT37 ?N6 ?m6 ?_; (case N6 => with_reducible assumption); (case m6 => walk_at "mMem"))) | ((with_reducible show wpAny _ _ (subscriptTail _ _ (Value.ref _) (Value.int _ _)) _ _ _); walk_at "subscriptTail")) | ((with_reducible show wpAny _ _ (compareOp CmpOp.NotIn (Value.str _ _) (Value.ref _)) _ _ _); ((refine' notin_list_strs (News.isList ?N4 ?m4) (StrsAre.lib ?S4) ?_; (case N4 => with_reducible assumption); (case m4 => walk_at "mMem"); (case S4 => with_reducible assumption)))) | ((with_reducible show wpAny _ _ (call _ _) _ _ _); first | ((with_reducible show wpAny _ _ (call (Value.builtin "min") [Value.ref _]) _ _ _); ((refine' kso_min ?F5 ?N5 (News.isList ?N25 (.head _)) ?i5 ?e5 ?h5 ?_; (case F5 => with_reducible assumption); (case N5 => with_reducible assumption); (case N25 => with_reducible assumption); (case i5 => with_reducible assumption); (case e5 => with_reducible assumption); (case h5 => exact rfl)); intro h' M' t' k' F' N' hM1 hM2)) | ((with_reducible show wpAny _ _ (call (Value.ref _) _) _ _ _); k_dflt (refine' use37 (f := 72) (cost_contract _ _ _ _ _ _ ?hx7 ?hy7) ?kB ?kF ?kX ?kN ?kT ?kK ?kd ?ku trivial ?_); (case hx7 => exact ⟨by lia, by lia⟩); (case hy7 => exact ⟨by lia, by lia⟩); walk_at "mSides"; intro r' new' h' tk' hP' _ F' N'; (obtain ⟨e1', tC', e2'⟩ := hP'); subst e1' e2'; (try simp only [List.nil_append] at N')) | ((with_reducible show wpAny _ _ (call (Value.builtin "list.extend") [Value.ref _, Value.ref _]) _ _ _); (k_dflt (refine' ext370 ?F8 ?N8 (.head _) ?U8 ?h18 ?_; (case F8 => with_reducible assumption); (case N8 => with_reducible assumption); (case U8 => walk_at "mUpd"); (case h18 => lia)); intro _ _ _)) | ((with_reducible show wpAny _ _ (call (Value.builtin "list.extend") [Value.ref _, Value.ref _]) _ _ _); (k_dflt (refine' ext37 ?F9 ?N9 (.head _) ?ne9 ?U9 ?h19 ?h29 ?_; (case F9 => with_reducible assumption); (case N9 => with_reducible assumption); (case U9 => walk_at "mUpd"); (case ne9 => exact Nat.succ_ne_zero _); (case h19 => lia); (case h29 => exact Nat.le_of_ble_eq_true rfl)); intro _ _ _)) | ((with_reducible show wpAny _ _ (call (Value.builtin "len") [Value.ref _]) _ _ _); (refine len_list (Fr.lst (by with_reducible assumption) (by with_reducible assumption)) (by rw [List.size_toArray]; lia) ?_; (try rw [List.size_toArray]))) | ((with_reducible show wpAny _ _ (call (Value.builtin "str.join") _) _ _ _); ((refine' join37 (News.isList ?N12 ?m12) ?S12 ?b12 ?n12 ?_; (case N12 => with_reducible assumption); (case m12 => exact .head _); (case S12 => first | exact (trivial : StrsAre [] []) | exact StrsAre.one _ _ | with_reducible assumption); (case b12 => first | with_reducible assumption | (intro a ha; cases ha; done) | (intro a ha; rw [List.mem_singleton.mp ha]; exact Nat.le_of_ble_eq_true rfl)); (case n12 => first | exact Nat.le_of_ble_eq_true rfl | lia)); intro _ _ _ _)) | ((with_reducible show wpAny _ _ (call (Value.builtin "chr") _) _ _ _); (refine chr_of_range (by lia) (by lia) ?_)) | ((with_reducible show wpAny _ _ (call (Value.builtin "list.append") [Value.ref _, _]) _ _ _); (k_dflt (refine' append_K ?F14 ?N14 ?U14 ?_ ?z14; (case F14 => with_reducible assumption); (case N14 => with_reducible assumption); (case U14 => walk_at "mUpd"); (case z14 => (simp only [sizeLine_eq, List.size_toArray, List.length_append, List.length_cons, List.length_nil]; lia))); intro h' F' N'; (try simp only [List.push_toArray] at N')))) | ((with_reducible show wpAny _ _ (binaryOp Operator.Mult (Value.ref _) (Value.int _ _)) _ _ _); ((refine' KMa.mul ?F11 ?N11 (News.isList ?N211 (.head _)) ?lo11 ?hi11 ?z11 (flat_rep _ _) ?_; (case F11 => with_reducible assumption); (case N11 => with_reducible assumption); (case N211 => with_reducible assumption); (case lo11 => lia); (case hi11 => lia); (case z11 => (simp only [List.length_cons, List.length_nil]; lia))); intro D' h' F' N' l1; (try k_lt l1))) | walk1 | (dsimp only; walk1))))
          rename Fr _ _ _ _ => Fz
          rename News _ _ _ _ => Nz
          refine EndL.intro Fz Nz ?_
          exact ⟨tsz, tst, tl, tpb, tpa, th, oh, W, we, wv, X₅, .cons rfl (.cons rfl (.cons rfl (.cons rfl (.cons rfl (.cons rfl (.cons rfl (.cons rfl (.cons rfl (.cons rfl (.cons rfl (.cons rfl (.cons rfl .nil)))))))))))), rfl, dh, by simpa [waysB, Nat.ne_of_gt hi0] using hways, hX₅, hoff, hW1, hW2, hW3, hW4, hW5, hW6⟩
        --END
      clear F₅ N₅ dh hways hX₅ hoff hW1 hW2 hW3 hW4 hW5 hW6 hwl
      ((repeat (with_reducible rename News _ _ _ _ => Nq; clear Nq)); (repeat (with_reducible rename Fr _ _ _ _ => Fq; clear Fq)); (repeat (with_reducible rename IsRange _ _ _ _ _ _ _ _ => Rq; clear Rq)))
      rintro h₅ tk₅ m₅ nx F₅ N₅ ⟨tsz, tst, tl, tpb, tpa, th, oh, W, we, wv, X₅, hag, rfl, dh, hways, hX₅, hoff, hW1, hW2, hW3, hW4, hW5, hW6⟩
      replace F₅ := hag.fr F₅
      clear hag
      have hri : 0 < i → ∃ (R2 : Addr) (vals2 : List Value) (e2 : Nat) (Tm : Addr) (tm : Tok) (nvm : Value), rows[(sz - 2).toNat]? = some (Value.ref R2) ∧ (R2, listOf vals2.toArray e2) ∈ X' ∧ vals2[(stt + 1).toNat]? = some (Value.ref Tm) ∧ (Tm, tupL [.int ((cellAt pairs core letters (i - 1) (j + 1)).1 : Int) tm, nvm]) ∈ X' ∧ TxtsX X' nvm (cellAt pairs core letters (i - 1) (j + 1)).2 := by
        intro hi0
        rw [show (sz - 2).toNat = i - 1 by lia, show (stt + 1).toNat = j + 1 by lia]
        exact rows_get hrows (by lia) (by lia)
      generalize hrm : cellAt pairs core letters (i - 1) (j + 1) = rm at hri
      generalize hRI : (if i = 0 then none else some rm) = ri
      try walk_at "mGo"
      refine cut1 (h₀ := s.heap) (L := L₁) (InWays la pa ma I2 I (L₁ + 1) (L₁ + 1 + 1) Cc Ln io2 io oc (listOf rows.toArray ce) (listOf lvals.toArray lne) sz stt ld hd rb.1 ra.1 nvb nva X' ([(rb.1 + 2, [], rb.2, []), (ra.1 + 2, [], ra.2, [])] ++ waysB core i hd ++ pairs.flatMap (waysP hd ld rb ra ri))) ?_ ?_
      · --BEGIN
        k_fold
        (repeat' (first | walk_at "mGo" | ((try with_reducible show wpAny _ _ _ _ _ _); (fail_if_success (walk_at "mSt")); first | ((with_reducible show wpAny _ _ (assign _ _ _) _ _ _); first | ((with_reducible show wpAny _ _ (assign (Expr.Tuple _ _ _) _ (Value.ref _)) _ _ _); ((refine' unpack37 ?F1 ?N1 ?m1 ?h1 ?n1 ?s1 ?_; (case F1 => with_reducible assumption); (case N1 => with_reducible assumption); (case m1 => walk_at "mMem"); (case h1 => exact rfl); (case n1 => exact rfl); (case s1 => exact rfl)); intro _ _ _)) | ((with_reducible show wpAny _ _ (assign (Expr.Tuple _ _ _) _ (Value.ref _)) _ _ _); ((refine' unpackB37 ?F2 ?N2 ?m2 ?h2 ?n2 ?s2 ?_; (case F2 => with_reducible assumption); (case N2 => with_reducible assumption); (case m2 => with_reducible assumption); (case h2 => exact rfl); (case n2 => exact rfl); (case s2 => exact rfl)); intro _ _ _))) | ((with_reducible show wpAny _ _ (subscriptTail _ _ _ _) _ _ _); first | ((with_reducible show wpAny _ _ (subscriptTail (Expr.Name _ _) (Expr.UnaryOp _ _ _) _ (Value.int _ _)) _ _ _); (refine' itemNeg37 ?N3 ?m3 ?l3 ?k3 ?_; (case N3 => with_reducible assumption); (case m3 => walk_at "mMem"); (case k3 => with_reducible assumption); (case l3 => lia))) | ((with_reducible show wpAny _ _ (subscriptTail (Expr.Name _ _) (Expr.Constant _ _ _) (Value.ref _) (Value.int _ _)) _ _ _); (refine' itemT37 ?N6 ?m6 ?_; (case N6 => with_reducible assumption); (case m6 => walk_at "mMem"))) | ((with_reducible show wpAny _ _ (subscriptTail _ _ (Value.ref _) (Value.int _ _)) _ _ _); walk_at "subscriptTail")) | ((with_reducible show wpAny _ _ (compareOp CmpOp.NotIn (Value.str _ _) (Value.ref _)) _ _ _); ((refine' notin_list_strs (News.isList ?N4 ?m4) (StrsAre.lib ?S4) ?_; (case N4 => with_reducible assumption); (case m4 => walk_at "mMem"); (case S4 => with_reducible assumption)))) | ((with_reducible show wpAny _ _ (call _ _) _ _ _); first | ((with_reducible show wpAny _ _ (call (Value.builtin "min") [Value.ref _]) _ _ _); ((refine' kso_min ?F5 ?N5 (News.isList ?N25 (.head _)) ?i5 ?e5 ?h5 ?_; (case F5 => with_reducible assumption); (case N5 => with_reducible assumption); (case N25 => with_reducible assumption); (case i5 => with_reducible assumption); (case e5 => with_reducible assumption); (case h5 => exact rfl)); intro h' M' t' k' F' N' hM1 hM2)) | ((with_reducible show wpAny _ _ (call (Value.ref _) _) _ _ _); k_dflt (refine' use37 (f := 72) (cost_contract _ _ _ _ _ _ ?hx7 ?hy7) ?kB ?kF ?kX ?kN ?kT ?kK ?kd ?ku trivial ?_); (case hx7 => exact ⟨by lia, by lia⟩); (case hy7 => exact ⟨by lia, by lia⟩); walk_at "mSides"; intro r' new' h' tk' hP' _ F' N'; (obtain ⟨e1', tC', e2'⟩ := hP'); subst e1' e2'; (try simp only [List.nil_append] at N')) | ((with_reducible show wpAny _ _ (call (Value.builtin "list.extend") [Value.ref _, Value.ref _]) _ _ _); (k_dflt (refine' ext370 ?F8 ?N8 (.head _) ?U8 ?h18 ?_; (case F8 => with_reducible assumption); (case N8 => with_reducible assumption); (case U8 => walk_at "mUpd"); (case h18 => lia)); intro _ _ _)) | ((with_reducible show wpAny _ _ (call (Value.builtin "list.extend") [Value.ref _, Value.ref _]) _ _ _); (k_dflt (refine' ext37 ?F9 ?N9 (.head _) ?ne9 ?U9 ?h19 ?h29 ?_; (case F9 => with_reducible assumption); (case N9 => with_reducible assumption); (case U9 => walk_at "mUpd"); (case ne9 => exact Nat.succ_ne_zero _); (case h19 => lia); (case h29 => exact Nat.le_of_ble_eq_true rfl)); intro _ _ _)) | ((with_reducible show wpAny _ _ (call (Value.builtin "len") [Value.ref _]) _ _ _); (refine len_list (Fr.lst (by with_reducible assumption) (by with_reducible assumption)) (by rw [List.size_toArray]; lia) ?_; (try rw [List.size_toArray]))) | ((with_reducible show wpAny _ _ (call (Value.builtin "str.join") _) _ _ _); ((refine' join37 (News.isList ?N12 ?m12) ?S12 ?b12 ?n12 ?_; (case N12 => with_reducible assumption); (case m12 => exact .head _); (case S12 => first | exact (trivial : StrsAre [] []) | exact StrsAre.one _ _ | with_reducible assumption); (case b12 => first | with_reducible assumption | (intro a ha; cases ha; done) | (intro a ha; rw [List.mem_singleton.mp ha]; exact Nat.le_of_ble_eq_true rfl)); (case n12 => first | exact Nat.le_of_ble_eq_true rfl | lia)); intro _ _ _ _)) | ((with_reducible show wpAny _ _ (call (Value.builtin "chr") _) _ _ _); (refine chr_of_range (by lia) (by lia) ?_)) | ((with_reducible show wpAny _ _ (call (Value.builtin "list.append") [Value.ref _, _]) _ _ _); (k_dflt (refine' append_K ?F14 ?N14 ?U14 ?_ ?z14; (case F14 => with_reducible assumption); (case N14 => with_reducible assumption); (case U14 => walk_at "mUpd"); (case z14 => (simp only [sizeLine_eq, List.size_toArray, List.length_append, List.length_cons, List.length_nil]; lia))); intro h' F' N'; (try simp only [List.push_toArray] at N')))) | ((with_reducible show wpAny _ _ (binaryOp Operator.Mult (Value.ref _) (Value.int _ _)) _ _ _); ((refine' KMa.mul ?F11 ?N11 (News.isList ?N211 (.head _)) ?lo11 ?hi11 ?z11 (flat_rep _ _) ?_; (case F11 => with_reducible assumption); (case N11 => with_reducible assumption); (case N211 => with_reducible assumption); (case lo11 => lia); (case hi11 => lia); (case z11 => (simp only [List.length_cons, List.length_nil]; lia))); intro D' h' F' N' l1; (try k_lt l1))) | walk1 | (dsimp only; walk1))))
        try walk_at "mGo"
        refine for_start ?_
        (repeat' (first | walk_at "mGo" | ((try with_reducible show wpAny _ _ _ _ _ _); (fail_if_success (walk_at "mSt")); first | ((with_reducible show wpAny _ _ (assign _ _ _) _ _ _); first | ((with_reducible show wpAny _ _ (assign (Expr.Tuple _ _ _) _ (Value.ref _)) _ _ _); ((refine' unpack37 ?F1 ?N1 ?m1 ?h1 ?n1 ?s1 ?_; (case F1 => with_reducible assumption); (case N1 => with_reducible assumption); (case m1 => walk_at "mMem"); (case h1 => exact rfl); (case n1 => exact rfl); (case s1 => exact rfl)); intro _ _ _)) | ((with_reducible show wpAny _ _ (assign (Expr.Tuple _ _ _) _ (Value.ref _)) _ _ _); ((refine' unpackB37 ?F2 ?N2 ?m2 ?h2 ?n2 ?s2 ?_; (case F2 => with_reducible assumption); (case N2 => with_reducible assumption); (case m2 => with_reducible assumption); (case h2 => exact rfl); (case n2 => exact rfl); (case s2 => exact rfl)); intro _ _ _))) | ((with_reducible show wpAny _ _ (subscriptTail _ _ _ _) _ _ _); first | ((with_reducible show wpAny _ _ (subscriptTail (Expr.Name _ _) (Expr.UnaryOp _ _ _) _ (Value.int _ _)) _ _ _); (refine' itemNeg37 ?N3 ?m3 ?l3 ?k3 ?_; (case N3 => with_reducible assumption); (case m3 => walk_at "mMem"); (case k3 => with_reducible assumption); (case l3 => lia))) | ((with_reducible show wpAny _ _ (subscriptTail (Expr.Name _ _) (Expr.Constant _ _ _) (Value.ref _) (Value.int _ _)) _ _ _); (refine' itemT37 ?N6 ?m6 ?_; (case N6 => with_reducible assumption); (case m6 => walk_at "mMem"))) | ((with_reducible show wpAny _ _ (subscriptTail _ _ (Value.ref _) (Value.int _ _)) _ _ _); walk_at "subscriptTail")) | ((with_reducible show wpAny _ _ (compareOp CmpOp.NotIn (Value.str _ _) (Value.ref _)) _ _ _); ((refine' notin_list_strs (News.isList ?N4 ?m4) (StrsAre.lib ?S4) ?_; (case N4 => with_reducible assumption); (case m4 => walk_at "mMem"); (case S4 => with_reducible assumption)))) | ((with_reducible show wpAny _ _ (call _ _) _ _ _); first | ((with_reducible show wpAny _ _ (call (Value.builtin "min") [Value.ref _]) _ _ _); ((refine' kso_min ?F5 ?N5 (News.isList ?N25 (.head _)) ?i5 ?e5 ?h5 ?_; (case F5 => with_reducible assumption); (case N5 => with_reducible assumption); (case N25 => with_reducible assumption); (case i5 => with_reducible assumption); (case e5 => with_reducible assumption); (case h5 => exact rfl)); intro h' M' t' k' F' N' hM1 hM2)) | ((with_reducible show wpAny _ _ (call (Value.ref _) _) _ _ _); k_dflt (refine' use37 (f := 72) (cost_contract _ _ _ _ _ _ ?hx7 ?hy7) ?kB ?kF ?kX ?kN ?kT ?kK ?kd ?ku trivial ?_); (case hx7 => exact ⟨by lia, by lia⟩); (case hy7 => exact ⟨by lia, by lia⟩); walk_at "mSides"; intro r' new' h' tk' hP' _ F' N'; (obtain ⟨e1', tC', e2'⟩ := hP'); subst e1' e2'; (try simp only [List.nil_append] at N')) | ((with_reducible show wpAny _ _ (call (Value.builtin "list.extend") [Value.ref _, Value.ref _]) _ _ _); (k_dflt (refine' ext370 ?F8 ?N8 (.head _) ?U8 ?h18 ?_; (case F8 => with_reducible assumption); (case N8 => with_reducible assumption); (case U8 => walk_at "mUpd"); (case h18 => lia)); intro _ _ _)) | ((with_reducible show wpAny _ _ (call (Value.builtin "list.extend") [Value.ref _, Value.ref _]) _ _ _); (k_dflt (refine' ext37 ?F9 ?N9 (.head _) ?ne9 ?U9 ?h19 ?h29 ?_; (case F9 => with_reducible assumption); (case N9 => with_reducible assumption); (case U9 => walk_at "mUpd"); (case ne9 => exact Nat.succ_ne_zero _); (case h19 => lia); (case h29 => exact Nat.le_of_ble_eq_true rfl)); intro _ _ _)) | ((with_reducible show wpAny _ _ (call (Value.builtin "len") [Value.ref _]) _ _ _); (refine len_list (Fr.lst (by with_reducible assumption) (by with_reducible assumption)) (by rw [List.size_toArray]; lia) ?_; (try rw [List.size_toArray]))) | ((with_reducible show wpAny _ _ (call (Value.builtin "str.join") _) _ _ _); ((refine' join37 (News.isList ?N12 ?m12) ?S12 ?b12 ?n12 ?_; (case N12 => with_reducible assumption); (case m12 => exact .head _); (case S12 => first | exact (trivial : StrsAre [] []) | exact StrsAre.one _ _ | with_reducible assumption); (case b12 => first | with_reducible assumption | (intro a ha; cases ha; done) | (intro a ha; rw [List.mem_singleton.mp ha]; exact Nat.le_of_ble_eq_true rfl)); (case n12 => first | exact Nat.le_of_ble_eq_true rfl | lia)); intro _ _ _ _)) | ((with_reducible show wpAny _ _ (call (Value.builtin "chr") _) _ _ _); (refine chr_of_range (by lia) (by lia) ?_)) | ((with_reducible show wpAny _ _ (call (Value.builtin "list.append") [Value.ref _, _]) _ _ _); (k_dflt (refine' append_K ?F14 ?N14 ?U14 ?_ ?z14; (case F14 => with_reducible assumption); (case N14 => with_reducible assumption); (case U14 => walk_at "mUpd"); (case z14 => (simp only [sizeLine_eq, List.size_toArray, List.length_append, List.length_cons, List.length_nil]; lia))); intro h' F' N'; (try simp only [List.push_toArray] at N')))) | ((with_reducible show wpAny _ _ (binaryOp Operator.Mult (Value.ref _) (Value.int _ _)) _ _ _); ((refine' KMa.mul ?F11 ?N11 (News.isList ?N211 (.head _)) ?lo11 ?hi11 ?z11 (flat_rep _ _) ?_; (case F11 => with_reducible assumption); (case N11 => with_reducible assumption); (case N211 => with_reducible assumption); (case lo11 => lia); (case hi11 => lia); (case z11 => (simp only [List.length_cons, List.length_nil]; lia))); intro D' h' F' N' l1; (try k_lt l1))) | walk1 | (dsimp only; walk1))))
        rename Fr _ _ _ _ => Fz
        rename News _ _ _ _ => Nz
        try walk_at "mGo"
        refine for_list (vs := [Value.ref p1, Value.ref p2]) (lo := listOf [Value.ref p1, Value.ref p2].toArray pe) (fun k => InWays la pa ma I2 I (L₁ + 1) (L₁ + 1 + 1) Cc Ln io2 io oc (listOf rows.toArray ce) (listOf lvals.toArray lne) sz stt ld hd rb.1 ra.1 nvb nva X' ([(rb.1 + 2, [], rb.2, []), (ra.1 + 2, [], ra.2, [])] ++ waysB core i hd ++ (pairs.take k).flatMap (waysP hd ld rb ra ri)))
          rfl rfl ⟨_, rfl⟩ (fun i m₁ nx₁ h hJ F₁ N₁ => F₁.keep _ _ hpa) (.inr ⟨⟨_, _, _, rfl⟩, List.forall_mem_cons.mpr ⟨⟨_, rfl⟩, List.forall_mem_cons.mpr ⟨⟨_, rfl⟩, List.forall_mem_nil _⟩⟩⟩) Fz Nz ?_ ?_ ?_
        · exact ⟨tsz, tst, tl, tpb, tpa, th, oh, W, we, wv, X₅, .cons rfl (.cons rfl (.cons rfl (.cons rfl (.cons rfl (.cons rfl (.cons rfl (.cons rfl (.cons rfl (.cons rfl (.cons rfl (.cons rfl (.cons rfl .nil)))))))))))), rfl, dh, by simpa using hways, hX₅, hoff, hW1, hW2, hW3, hW4, hW5, hW6⟩
        · clear Fz Nz dh hways hX₅ hoff hW1 hW2 hW3 hW4 hW5 hW6
          ((repeat (with_reducible rename News _ _ _ _ => Nq; clear Nq)); (repeat (with_reducible rename Fr _ _ _ _ => Fq; clear Fq)); (repeat (with_reducible rename IsRange _ _ _ _ _ _ _ _ => Rq; clear Rq)))
          rintro k v m₆ nx h₆ tk₆ I3 io3 hv ⟨tsz, tst, tl, tpb, tpa, th, oh, W, we, wv, X₅, hag, rfl, dh, hways, hX₅, hoff, hW1, hW2, hW3, hW4, hW5, hW6⟩ hI F₆ N₆
          replace F₆ := hag.fr F₆
          clear hag
          refine hideG ?_; intro Gh kGh
          obtain ⟨pk, p, tp, tq, rfl, hpk, hpp, hpl1, hpl2⟩ : ∃ (pk : Addr) (p : Nat × Nat) (tp tq : Tok), v = .ref pk ∧ s.heap.get? pk = some (tupI p.1 p.2 tp tq) ∧ pairs[k]? = some p ∧ p.1 < 256 ∧ p.2 < 256 := by
            subst hpairs
            match k, hv with
            | 0, hv => exact ⟨p1, (a1, b1), t1, t2, by simpa using hv.symm, hp1, rfl, ha1, hb1⟩
            | 1, hv => exact ⟨p2, (a2, b2), t3, t4, by simpa using hv.symm, hp2, rfl, ha2, hb2⟩
            | k + 2, hv => simp at hv
          refine kGh ?_; clear kGh Gh
          have q1 : I2 ≠ I3 := hI (I2, _) (.head _)
          have q2 : I ≠ I3 := hI (I, _) (.tail _ (.head _))
          have q3 : L₁ + 1 ≠ I3 := hI (L₁ + 1, _) (.tail _ (.tail _ (.head _)))
          have q4 : L₁ + 1 + 1 ≠ I3 := hI (L₁ + 1 + 1, _) (.tail _ (.tail _ (.tail _ (.head _))))
          have q5 : Cc ≠ I3 := hI (Cc, _) (.tail _ (.tail _ (.tail _ (.tail _ (.head _)))))
          have q6 : Ln ≠ I3 := hI (Ln, _) (.tail _ (.tail _ (.tail _ (.tail _ (.tail _ (.head _))))))
          have q7 : W ≠ I3 := hI (W, _) (.tail _ (.tail _ (.tail _ (.tail _ (.tail _ (.tail _ (.head _)))))))
          have qX : ∀ p ∈ X₅, p.1 ≠ I3 := fun p hp => hI p (.tail _ (.tail _ (.tail _ (.tail _ (.tail _ (.tail _ (.tail _ hp)))))))
          clear hI
          have oI2 := hoff.get (a := I2) (.head _)
          have oI := hoff.get (a := I) (.tail _ (.head _))
          have oK1 := hoff.get (a := L₁ + 1) (.tail _ (.tail _ (.head _)))
          have oK2 := hoff.get (a := L₁ + 1 + 1) (.tail _ (.tail _ (.tail _ (.head _))))
          have oCc := hoff.get (a := Cc) (.tail _ (.tail _ (.tail _ (.tail _ (.head _)))))
          have oLn := hoff.get (a := Ln) (.tail _ (.tail _ (.tail _ (.tail _ (.tail _ (.head _))))))
          have oW := hoff.get (a := W) (.tail _ (.tail _ (.tail _ (.tail _ (.tail _ (.tail _ (.head _)))))))
          have hwl : wv.length ≤ 20 := by
            have e1 := hways.length
            have e2 := waysP_flat hd ld rb ra ri (pairs.take k)
            have e3 := waysB_len core i hd hc1
            have e4 : (pairs.take k).length ≤ 2 := by subst hpairs; exact Nat.le_trans (List.length_take_le' ..) (Nat.le_refl _)
            simp only [List.length_append, List.length_cons, List.length_nil] at e1
            lia
          (repeat' (first | walk_at "mGo" | ((try with_reducible show wpAny _ _ _ _ _ _); (fail_if_success (walk_at "mSt")); (fail_if_success (with_reducible show wpAny _ _ (exec (Stmt.If _ _ _ _) _) _ _ _)); first | ((with_reducible show wpAny _ _ (assign _ _ _) _ _ _); first | ((with_reducible show wpAny _ _ (assign (Expr.Tuple _ _ _) _ (Value.ref _)) _ _ _); ((refine' unpack37 ?F1 ?N1 ?m1 ?h1 ?n1 ?s1 ?_; (case F1 => with_reducible assumption); (case N1 => with_reducible assumption); (case m1 => walk_at "mMem"); (case h1 => exact rfl); (case n1 => exact rfl); (case s1 => exact rfl)); intro _ _ _)) | ((with_reducible show wpAny _ _ (assign (Expr.Tuple _ _ _) _ (Value.ref _)) _ _ _); ((refine' unpackB37 ?F2 ?N2 ?m2 ?h2 ?n2 ?s2 ?_; (case F2 => with_reducible assumption); (case N2 => with_reducible assumption); (case m2 => with_reducible assumption); (case h2 => exact rfl); (case n2 => exact rfl); (case s2 => exact rfl)); intro _ _ _))) | ((with_reducible show wpAny _ _ (subscriptTail _ _ _ _) _ _ _); first | ((with_reducible show wpAny _ _ (subscriptTail (Expr.Name _ _) (Expr.UnaryOp _ _ _) _ (Value.int _ _)) _ _ _); (refine' itemNeg37 ?N3 ?m3 ?l3 ?k3 ?_; (case N3 => with_reducible assumption); (case m3 => walk_at "mMem"); (case k3 => with_reducible assumption); (case l3 => lia))) | ((with_reducible show wpAny _ _ (subscriptTail (Expr.Name _ _) (Expr.Constant _ _ _) (Value.ref _) (Value.int _ _)) _ _ _); (refine' itemT37 ?N6 ?m6 ?_; (case N6 => with_reducible assumption); (case m6 => walk_at "mMem"))) | ((with_reducible show wpAny _ _ (subscriptTail _ _ (Value.ref _) (Value.int _ _)) _ _ _); walk_at "subscriptTail")) | ((with_reducible show wpAny _ _ (compareOp CmpOp.NotIn (Value.str _ _) (Value.ref _)) _ _ _); ((refine' notin_list_strs (News.isList ?N4 ?m4) (StrsAre.lib ?S4) ?_; (case N4 => with_reducible assumption); (case m4 => walk_at "mMem"); (case S4 => with_reducible assumption)))) | ((with_reducible show wpAny _ _ (call _ _) _ _ _); first | ((with_reducible show wpAny _ _ (call (Value.builtin "min") [Value.ref _]) _ _ _); ((refine' kso_min ?F5 ?N5 (News.isList ?N25 (.head _)) ?i5 ?e5 ?h5 ?_; (case F5 => with_reducible assumption); (case N5 => with_reducible assumption); (case N25 => with_reducible assumption); (case i5 => with_reducible assumption); (case e5 => with_reducible assumption); (case h5 => exact rfl)); intro h' M' t' k' F' N' hM1 hM2)) | ((with_reducible show wpAny _ _ (call (Value.ref _) _) _ _ _); k_dflt (refine' use37 (f := 72) (cost_contract _ _ _ _ _ _ ?hx7 ?hy7) ?kB ?kF ?kX ?kN ?kT ?kK ?kd ?ku trivial ?_); (case hx7 => exact ⟨by lia, by lia⟩); (case hy7 => exact ⟨by lia, by lia⟩); walk_at "mSides"; intro r' new' h' tk' hP' _ F' N'; (obtain ⟨e1', tC', e2'⟩ := hP'); subst e1' e2'; (try simp only [List.nil_append] at N')) | ((with_reducible show wpAny _ _ (call (Value.builtin "list.extend") [Value.ref _, Value.ref _]) _ _ _); (k_dflt (refine' ext370 ?F8 ?N8 (.head _) ?U8 ?h18 ?_; (case F8 => with_reducible assumption); (case N8 => with_reducible assumption); (case U8 => walk_at "mUpd"); (case h18 => lia)); intro _ _ _)) | ((with_reducible show wpAny _ _ (call (Value.builtin "list.extend") [Value.ref _, Value.ref _]) _ _ _); (k_dflt (refine' ext37 ?F9 ?N9 (.head _) ?ne9 ?U9 ?h19 ?h29 ?_; (case F9 => with_reducible assumption); (case N9 => with_reducible assumption); (case U9 => walk_at "mUpd"); (case ne9 => exact Nat.succ_ne_zero _); (case h19 => lia); (case h29 => exact Nat.le_of_ble_eq_true rfl)); intro _ _ _)) | ((with_reducible show wpAny _ _ (call (Value.builtin "len") [Value.ref _]) _ _ _); (refine len_list (Fr.lst (by with_reducible assumption) (by with_reducible assumption)) (by rw [List.size_toArray]; lia) ?_; (try rw [List.size_toArray]))) | ((with_reducible show wpAny _ _ (call (Value.builtin "str.join") _) _ _ _); ((refine' join37 (News.isList ?N12 ?m12) ?S12 ?b12 ?n12 ?_; (case N12 => with_reducible assumption); (case m12 => exact .head _); (case S12 => first | exact (trivial : StrsAre [] []) | exact StrsAre.one _ _ | with_reducible assumption); (case b12 => first | with_reducible assumption | (intro a ha; cases ha; done) | (intro a ha; rw [List.mem_singleton.mp ha]; exact Nat.le_of_ble_eq_true rfl)); (case n12 => first | exact Nat.le_of_ble_eq_true rfl | lia)); intro _ _ _ _)) | ((with_reducible show wpAny _ _ (call (Value.builtin "chr") _) _ _ _); (refine chr_of_range (by lia) (by lia) ?_)) | ((with_reducible show wpAny _ _ (call (Value.builtin "list.append") [Value.ref _, _]) _ _ _); (k_dflt (refine' append_K ?F14 ?N14 ?U14 ?_ ?z14; (case F14 => with_reducible assumption); (case N14 => with_reducible assumption); (case U14 => walk_at "mUpd"); (case z14 => (simp only [sizeLine_eq, List.size_toArray, List.length_append, List.length_cons, List.length_nil]; lia))); intro h' F' N'; (try simp only [List.push_toArray] at N')))) | ((with_reducible show wpAny _ _ (binaryOp Operator.Mult (Value.ref _) (Value.int _ _)) _ _ _); ((refine' KMa.mul ?F11 ?N11 (News.isList ?N211 (.head _)) ?lo11 ?hi11 ?z11 (flat_rep _ _) ?_; (case F11 => with_reducible assumption); (case N11 => with_reducible assumption); (case N211 => with_reducible assumption); (case lo11 => lia); (case hi11 => lia); (case z11 => (simp only [List.length_cons, List.length_nil]; lia))); intro D' h' F' N' l1; (try k_lt l1))) | walk1 | (dsimp only; walk1))))
          rcases Nat.eq_zero_or_pos i with hi0 | hi0
          · (repeat' (first | walk_at "mGo" | ((try with_reducible show wpAny _ _ _ _ _ _); (fail_if_success (walk_at "mSt")); first | ((with_reducible show wpAny _ _ (assign _ _ _) _ _ _); first | ((with_reducible show wpAny _ _ (assign (Expr.Tuple _ _ _) _ (Value.ref _)) _ _ _); ((refine' unpack37 ?F1 ?N1 ?m1 ?h1 ?n1 ?s1 ?_; (case F1 => with_reducible assumption); (case N1 => with_reducible assumption); (case m1 => walk_at "mMem"); (case h1 => exact rfl); (case n1 => exact rfl); (case s1 => exact rfl)); intro _ _ _)) | ((with_reducible show wpAny _ _ (assign (Expr.Tuple _ _ _) _ (Value.ref _)) _ _ _); ((refine' unpackB37 ?F2 ?N2 ?m2 ?h2 ?n2 ?s2 ?_; (case F2 => with_reducible assumption); (case N2 => with_reducible assumption); (case m2 => with_reducible assumption); (case h2 => exact rfl); (case n2 => exact rfl); (case s2 => exact rfl)); intro _ _ _))) | ((with_reducible show wpAny _ _ (subscriptTail _ _ _ _) _ _ _); first | ((with_reducible show wpAny _ _ (subscriptTail (Expr.Name _ _) (Expr.UnaryOp _ _ _) _ (Value.int _ _)) _ _ _); (refine' itemNeg37 ?N3 ?m3 ?l3 ?k3 ?_; (case N3 => with_reducible assumption); (case m3 => walk_at "mMem"); (case k3 => with_reducible assumption); (case l3 => lia))) | ((with_reducible show wpAny _ _ (subscriptTail (Expr.Name _ _) (Expr.Constant _ _ _) (Value.ref _) (Value.int _ _)) _ _ _); (refine' itemT37 ?N6 ?m6 ?_; (case N6 => with_reducible assumption); (case m6 => walk_at "mMem"))) | ((with_reducible show wpAny _ _ (subscriptTail _ _ (Value.ref _) (Value.int _ _)) _ _ _); walk_at "subscriptTail")) | ((with_reducible show wpAny _ _ (compareOp CmpOp.NotIn (Value.str _ _) (Value.ref _)) _ _ _); ((refine' notin_list_strs (News.isList ?N4 ?m4) (StrsAre.lib ?S4) ?_; (case N4 => with_reducible assumption); (case m4 => walk_at "mMem"); (case S4 => with_reducible assumption)))) | ((with_reducible show wpAny _ _ (call _ _) _ _ _); first | ((with_reducible show wpAny _ _ (call (Value.builtin "min") [Value.ref _]) _ _ _); ((refine' kso_min ?F5 ?N5 (News.isList ?N25 (.head _)) ?i5 ?e5 ?h5 ?_; (case F5 => with_reducible assumption); (case N5 => with_reducible assumption); (case N25 => with_reducible assumption); (case i5 => with_reducible assumption); (case e5 => with_reducible assumption); (case h5 => exact rfl)); intro h' M' t' k' F' N' hM1 hM2)) | ((with_reducible show wpAny _ _ (call (Value.ref _) _) _ _ _); k_dflt (refine' use37 (f := 72) (cost_contract _ _ _ _ _ _ ?hx7 ?hy7) ?kB ?kF ?kX ?kN ?kT ?kK ?kd ?ku trivial ?_); (case hx7 => exact ⟨by lia, by lia⟩); (case hy7 => exact ⟨by lia, by lia⟩); walk_at "mSides"; intro r' new' h' tk' hP' _ F' N'; (obtain ⟨e1', tC', e2'⟩ := hP'); subst e1' e2'; (try simp only [List.nil_append] at N')) | ((with_reducible show wpAny _ _ (call (Value.builtin "list.extend") [Value.ref _, Value.ref _]) _ _ _); (k_dflt (refine' ext370 ?F8 ?N8 (.head _) ?U8 ?h18 ?_; (case F8 => with_reducible assumption); (case N8 => with_reducible assumption); (case U8 => walk_at "mUpd"); (case h18 => lia)); intro _ _ _)) | ((with_reducible show wpAny _ _ (call (Value.builtin "list.extend") [Value.ref _, Value.ref _]) _ _ _); (k_dflt (refine' ext37 ?F9 ?N9 (.head _) ?ne9 ?U9 ?h19 ?h29 ?_; (case F9 => with_reducible assumption); (case N9 => with_reducible assumption); (case U9 => walk_at "mUpd"); (case ne9 => exact Nat.succ_ne_zero _); (case h19 => lia); (case h29 => exact Nat.le_of_ble_eq_true rfl)); intro _ _ _)) | ((with_reducible show wpAny _ _ (call (Value.builtin "len") [Value.ref _]) _ _ _); (refine len_list (Fr.lst (by with_reducible assumption) (by with_reducible assumption)) (by rw [List.size_toArray]; lia) ?_; (try rw [List.size_toArray]))) | ((with_reducible show wpAny _ _ (call (Value.builtin "str.join") _) _ _ _); ((refine' join37 (News.isList ?N12 ?m12) ?S12 ?b12 ?n12 ?_; (case N12 => with_reducible assumption); (case m12 => exact .head _); (case S12 => first | exact (trivial : StrsAre [] []) | exact StrsAre.one _ _ | with_reducible assumption); (case b12 => first | with_reducible assumption | (intro a ha; cases ha; done) | (intro a ha; rw [List.mem_singleton.mp ha]; exact Nat.le_of_ble_eq_true rfl)); (case n12 => first | exact Nat.le_of_ble_eq_true rfl | lia)); intro _ _ _ _)) | ((with_reducible show wpAny _ _ (call (Value.builtin "chr") _) _ _ _); (refine chr_of_range (by lia) (by lia) ?_)) | ((with_reducible show wpAny _ _ (call (Value.builtin "list.append") [Value.ref _, _]) _ _ _); (k_dflt (refine' append_K ?F14 ?N14 ?U14 ?_ ?z14; (case F14 => with_reducible assumption); (case N14 => with_reducible assumption); (case U14 => walk_at "mUpd"); (case z14 => (simp only [sizeLine_eq, List.size_toArray, List.length_append, List.length_cons, List.length_nil]; lia))); intro h' F' N'; (try simp only [List.push_toArray] at N')))) | ((with_reducible show wpAny _ _ (binaryOp Operator.Mult (Value.ref _) (Value.int _ _)) _ _ _); ((refine' KMa.mul ?F11 ?N11 (News.isList ?N211 (.head _)) ?lo11 ?hi11 ?z11 (flat_rep _ _) ?_; (case F11 => with_reducible assumption); (case N11 => with_reducible assumption); (case N211 => with_reducible assumption); (case lo11 => lia); (case hi11 => lia); (case z11 => (simp only [List.length_cons, List.length_nil]; lia))); intro D' h' F' N' l1; (try k_lt l1))) | walk1 | (dsimp only; walk1))))
            rename Fr _ _ _ _ => Fz
            rename News _ _ _ _ => Nz
            rename (I3 < _ ∧ I2 < _ ∧ I < _ ∧ _ ∧ _ ∧ Cc < _ ∧ Ln < _ ∧ W < _ ∧ AllLt _ X₅) => hl1
            rename (_ < _ ∧ I3 < _ ∧ I2 < _ ∧ I < _ ∧ _ ∧ _ ∧ Cc < _ ∧ Ln < _ ∧ W < _ ∧ AllLt _ X₅) => hl2
            refine hideG ?_; intro Gh kGh
            refine and9 hl1 ?_; intro x1 x2 x3 x4 x5 x6 x7 x8 x9; clear hl1
            refine and10 hl2 ?_; intro y0 y1 y2 y3 y4 y5 y6 y7 y8 y9; clear hl2
            refine kGh ?_; clear kGh Gh
            simp only [List.append_assoc, List.cons_append, List.nil_append, ← cst_eq] at Nz
            first | rw [flat_take hpp, ways_shape] | rw [flat_take hpp, ← List.append_assoc]
            refine waysY (Y := [(_, _), (_, _)]) Fz Nz (.cons rfl (.cons rfl (.cons rfl (.cons rfl (.cons rfl (.cons rfl (.cons rfl (.cons rfl (.cons rfl (.cons rfl (.cons rfl (.cons rfl (.cons rfl .nil))))))))))))) ?_ ⟨hW1, hW2, hW3, hW4, hW5, hW6⟩ ⟨q1, q2, q3, q4, q5, q6, q7, qX⟩ hoff dh hways hX₅ ?_
            · exact List.forall_mem_cons.mpr ⟨⟨y1, y2, y3, y4, y5, y6, y7, y8⟩, List.forall_mem_cons.mpr ⟨⟨x1, x2, x3, x4, x5, x6, x7, x8⟩, List.forall_mem_nil _⟩⟩
            · rw [← hRI, if_pos hi0]
              exact .cons ⟨_, _, _, _, nvb, _, _, rfl, .tail _ (.head _), hNb.mono fun p hp => .tail _ (.tail _ (hX₅ p hp)), rfl, rfl⟩ (.cons ⟨_, _, _, _, nva, _, _, rfl, .head _, hNa.mono fun p hp => .tail _ (.tail _ (hX₅ p hp)), rfl, rfl⟩ .nil)
          · refine hideG ?_; intro Gh kGh
            refine ex6 (hri hi0) ?_; intro R2 vals2 e2 Tm tm nvm hx_; refine and5 hx_ ?_; intro hr2 hR2 hv2 hTm hNm; clear hx_
            refine kGh ?_; clear kGh Gh
            replace hR2 := hX₅ _ hR2
            replace hTm := hX₅ _ hTm
            (repeat' (first | walk_at "mGo" | ((try with_reducible show wpAny _ _ _ _ _ _); (fail_if_success (walk_at "mSt")); first | ((with_reducible show wpAny _ _ (assign _ _ _) _ _ _); first | ((with_reducible show wpAny _ _ (assign (Expr.Tuple _ _ _) _ (Value.ref _)) _ _ _); ((refine' unpack37 ?F1 ?N1 ?m1 ?h1 ?n1 ?s1 ?_; (case F1 => with_reducible assumption); (case N1 => with_reducible assumption); (case m1 => walk_at "mMem"); (case h1 => exact rfl); (case n1 => exact rfl); (case s1 => exact rfl)); intro _ _ _)) | ((with_reducible show wpAny _ _ (assign (Expr.Tuple _ _ _) _ (Value.ref _)) _ _ _); ((refine' unpackB37 ?F2 ?N2 ?m2 ?h2 ?n2 ?s2 ?_; (case F2 => with_reducible assumption); (case N2 => with_reducible assumption); (case m2 => with_reducible assumption); (case h2 => exact rfl); (case n2 => exact rfl); (case s2 => exact rfl)); intro _ _ _))) | ((with_reducible show wpAny _ _ (subscriptTail _ _ _ _) _ _ _); first | ((with_reducible show wpAny _ _ (subscriptTail (Expr.Name _ _) (Expr.UnaryOp _ _ _) _ (Value.int _ _)) _ _ _); (refine' itemNeg37 ?N3 ?m3 ?l3 ?k3 ?_; (case N3 => with_reducible assumption); (case m3 => walk_at "mMem"); (case k3 => with_reducible assumption); (case l3 => lia))) | ((with_reducible show wpAny _ _ (subscriptTail (Expr.Name _ _) (Expr.Constant _ _ _) (Value.ref _) (Value.int _ _)) _ _ _); (refine' itemT37 ?N6 ?m6 ?_; (case N6 => with_reducible assumption); (case m6 => walk_at "mMem"))) | ((with_reducible show wpAny _ _ (subscriptTail _ _ (Value.ref _) (Value.int _ _)) _ _ _); walk_at "subscriptTail")) | ((with_reducible show wpAny _ _ (compareOp CmpOp.NotIn (Value.str _ _) (Value.ref _)) _ _ _); ((refine' notin_list_strs (News.isList ?N4 ?m4) (StrsAre.lib ?S4) ?_; (case N4 => with_reducible assumption); (case m4 => walk_at "mMem"); (case S4 => with_reducible assumption)))) | ((with_reducible show wpAny _ _ (call _ _) _ _ _); first | ((with_reducible show wpAny _ _ (call (Value.builtin "min") [Value.ref _]) _ _ _); ((refine' kso_min ?F5 ?N5 (News.isList ?N25 (.head _)) ?i5 ?e5 ?h5 ?_; (case F5 => with_reducible assumption); (case N5 => with_reducible assumption); (case N25 => with_reducible assumption); (case i5 => with_reducible assumption); (case e5 => with_reducible assumption); (case h5 => exact rfl)); intro h' M' t' k' F' N' hM1 hM2)) | ((with_reducible show wpAny _ _ (call (Value.ref _) _) _ _ _); k_dflt (refine' use37 (f := 72) (cost_contract _ _ _ _ _ _ ?hx7 ?hy7) ?kB ?kF ?kX ?kN ?kT ?kK ?kd ?ku trivial ?_); (case hx7 => exact ⟨by lia, by lia⟩); (case hy7 => exact ⟨by lia, by lia⟩); walk_at "mSides"; intro r' new' h' tk' hP' _ F' N'; (obtain ⟨e1', tC', e2'⟩ := hP'); subst e1' e2'; (try simp only [List.nil_append] at N')) | ((with_reducible show wpAny _ _ (call (Value.builtin "list.extend") [Value.ref _, Value.ref _]) _ _ _); (k_dflt (refine' ext370 ?F8 ?N8 (.head _) ?U8 ?h18 ?_; (case F8 => with_reducible assumption); (case N8 => with_reducible assumption); (case U8 => walk_at "mUpd"); (case h18 => lia)); intro _ _ _)) | ((with_reducible show wpAny _ _ (call (Value.builtin "list.extend") [Value.ref _, Value.ref _]) _ _ _); (k_dflt (refine' ext37 ?F9 ?N9 (.head _) ?ne9 ?U9 ?h19 ?h29 ?_; (case F9 => with_reducible assumption); (case N9 => with_reducible assumption); (case U9 => walk_at "mUpd"); (case ne9 => exact Nat.succ_ne_zero _); (case h19 => lia); (case h29 => exact Nat.le_of_ble_eq_true rfl)); intro _ _ _)) | ((with_reducible show wpAny _ _ (call (Value.builtin "len") [Value.ref _]) _ _ _); (refine len_list (Fr.lst (by with_reducible assumption) (by with_reducible assumption)) (by rw [List.size_toArray]; lia) ?_; (try rw [List.size_toArray]))) | ((with_reducible show wpAny _ _ (call (Value.builtin "str.join") _) _ _ _); ((refine' join37 (News.isList ?N12 ?m12) ?S12 ?b12 ?n12 ?_; (case N12 => with_reducible assumption); (case m12 => exact .head _); (case S12 => first | exact (trivial : StrsAre [] []) | exact StrsAre.one _ _ | with_reducible assumption); (case b12 => first | with_reducible assumption | (intro a ha; cases ha; done) | (intro a ha; rw [List.mem_singleton.mp ha]; exact Nat.le_of_ble_eq_true rfl)); (case n12 => first | exact Nat.le_of_ble_eq_true rfl | lia)); intro _ _ _ _)) | ((with_reducible show wpAny _ _ (call (Value.builtin "chr") _) _ _ _); (refine chr_of_range (by lia) (by lia) ?_)) | ((with_reducible show wpAny _ _ (call (Value.builtin "list.append") [Value.ref _, _]) _ _ _); (k_dflt (refine' append_K ?F14 ?N14 ?U14 ?_ ?z14; (case F14 => with_reducible assumption); (case N14 => with_reducible assumption); (case U14 => walk_at "mUpd"); (case z14 => (simp only [sizeLine_eq, List.size_toArray, List.length_append, List.length_cons, List.length_nil]; lia))); intro h' F' N'; (try simp only [List.push_toArray] at N')))) | ((with_reducible show wpAny _ _ (binaryOp Operator.Mult (Value.ref _) (Value.int _ _)) _ _ _); ((refine' KMa.mul ?F11 ?N11 (News.isList ?N211 (.head _)) ?lo11 ?hi11 ?z11 (flat_rep _ _) ?_; (case F11 => with_reducible assumption); (case N11 => with_reducible assumption); (case N211 => with_reducible assumption); (case lo11 => lia); (case hi11 => lia); (case z11 => (simp only [List.length_cons, List.length_nil]; lia))); intro D' h' F' N' l1; (try k_lt l1))) | walk1 | (dsimp only; walk1))))
            rename Fr _ _ _ _ => Fz
            rename News _ _ _ _ => Nz
            rename (I3 < _ ∧ I2 < _ ∧ I < _ ∧ _ ∧ _ ∧ Cc < _ ∧ Ln < _ ∧ W < _ ∧ AllLt _ X₅) => hl1
            rename (_ < _ ∧ I3 < _ ∧ I2 < _ ∧ I < _ ∧ _ ∧ _ ∧ Cc < _ ∧ Ln < _ ∧ W < _ ∧ AllLt _ X₅) => hl2
            rename (_ < _ ∧ _ < _ ∧ I3 < _ ∧ I2 < _ ∧ I < _ ∧ _ ∧ _ ∧ Cc < _ ∧ Ln < _ ∧ W < _ ∧ AllLt _ X₅) => hl3
            refine hideG ?_; intro Gh kGh
            refine and9 hl1 ?_; intro x1 x2 x3 x4 x5 x6 x7 x8 x9; clear hl1
            refine and10 hl2 ?_; intro y0 y1 y2 y3 y4 y5 y6 y7 y8 y9; clear hl2
            refine and11 hl3 ?_; intro z00 z0 z1 z2 z3 z4 z5 z6 z7 z8 z9; clear hl3
            refine kGh ?_; clear kGh Gh
            simp only [List.append_assoc, List.cons_append, List.nil_append, ← cst_eq] at Nz
            first | rw [flat_take hpp, ways_shape] | rw [flat_take hpp, ← List.append_assoc]
            refine waysY (Y := [(_, _), (_, _), (_, _)]) Fz Nz (.cons rfl (.cons rfl (.cons rfl (.cons rfl (.cons rfl (.cons rfl (.cons rfl (.cons rfl (.cons rfl (.cons rfl (.cons rfl (.cons rfl (.cons rfl .nil))))))))))))) ?_ ⟨hW1, hW2, hW3, hW4, hW5, hW6⟩ ⟨q1, q2, q3, q4, q5, q6, q7, qX⟩ hoff dh hways hX₅ ?_
            · exact List.forall_mem_cons.mpr ⟨⟨z1, z2, z3, z4, z5, z6, z7, z8⟩, List.forall_mem_cons.mpr ⟨⟨y1, y2, y3, y4, y5, y6, y7, y8⟩, List.forall_mem_cons.mpr ⟨⟨x1, x2, x3, x4, x5, x6, x7, x8⟩, List.forall_mem_nil _⟩⟩⟩
            · rw [← hRI, if_neg (Nat.ne_of_gt hi0)]
              exact .cons ⟨_, _, _, _, nvb, _, _, rfl, .tail _ (.tail _ (.head _)), hNb.mono fun p hp => .tail _ (.tail _ (.tail _ (hX₅ p hp))), rfl, rfl⟩ (.cons ⟨_, _, _, _, nva, _, _, rfl, .tail _ (.head _), hNa.mono fun p hp => .tail _ (.tail _ (.tail _ (hX₅ p hp))), rfl, rfl⟩ (.cons ⟨_, _, _, _, nvm, _, _, rfl, .head _, hNm.mono fun p hp => .tail _ (.tail _ (.tail _ (hX₅ p hp))), rfl, rfl⟩ .nil))
        · clear Fz Nz dh hways hX₅ hoff hW1 hW2 hW3 hW4 hW5 hW6
          ((repeat (with_reducible rename News _ _ _ _ => Nq; clear Nq)); (repeat (with_reducible rename Fr _ _ _ _ => Fq; clear Fq)); (repeat (with_reducible rename IsRange _ _ _ _ _ _ _ _ => Rq; clear Rq)))
          rintro m₆ nx h₆ tk₆ hin F₆ N₆
          rw [show ([Value.ref p1, Value.ref p2] : List Value).length = 2 from rfl, show pairs.take 2 = pairs by subst hpairs; rfl] at hin
          (repeat' (first | walk_at "mGo" | ((try with_reducible show wpAny _ _ _ _ _ _); (fail_if_success (walk_at "mSt")); first | ((with_reducible show wpAny _ _ (assign _ _ _) _ _ _); first | ((with_reducible show wpAny _ _ (assign (Expr.Tuple _ _ _) _ (Value.ref _)) _ _ _); ((refine' unpack37 ?F1 ?N1 ?m1 ?h1 ?n1 ?s1 ?_; (case F1 => with_reducible assumption); (case N1 => with_reducible assumption); (case m1 => walk_at "mMem"); (case h1 => exact rfl); (case n1 => exact rfl); (case s1 => exact rfl)); intro _ _ _)) | ((with_reducible show wpAny _ _ (assign (Expr.Tuple _ _ _) _ (Value.ref _)) _ _ _); ((refine' unpackB37 ?F2 ?N2 ?m2 ?h2 ?n2 ?s2 ?_; (case F2 => with_reducible assumption); (case N2 => with_reducible assumption); (case m2 => with_reducible assumption); (case h2 => exact rfl); (case n2 => exact rfl); (case s2 => exact rfl)); intro _ _ _))) | ((with_reducible show wpAny _ _ (subscriptTail _ _ _ _) _ _ _); first | ((with_reducible show wpAny _ _ (subscriptTail (Expr.Name _ _) (Expr.UnaryOp _ _ _) _ (Value.int _ _)) _ _ _); (refine' itemNeg37 ?N3 ?m3 ?l3 ?k3 ?_; (case N3 => with_reducible assumption); (case m3 => walk_at "mMem"); (case k3 => with_reducible assumption); (case l3 => lia))) | ((with_reducible show wpAny _ _ (subscriptTail (Expr.Name _ _) (Expr.Constant _ _ _) (Value.ref _) (Value.int _ _)) _ _ _); (refine' itemT37 ?N6 ?m6 ?_; (case N6 => with_reducible assumption); (case m6 => walk_at "mMem"))) | ((with_reducible show wpAny _ _ (subscriptTail _ _ (Value.ref _) (Value.int _ _)) _ _ _); walk_at "subscriptTail")) | ((with_reducible show wpAny _ _ (compareOp CmpOp.NotIn (Value.str _ _) (Value.ref _)) _ _ _); ((refine' notin_list_strs (News.isList ?N4 ?m4) (StrsAre.lib ?S4) ?_; (case N4 => with_reducible assumption); (case m4 => walk_at "mMem"); (case S4 => with_reducible assumption)))) | ((with_reducible show wpAny _ _ (call _ _) _ _ _); first | ((with_reducible show wpAny _ _ (call (Value.builtin "min") [Value.ref _]) _ _ _); ((refine' kso_min ?F5 ?N5 (News.isList ?N25 (.head _)) ?i5 ?e5 ?h5 ?_; (case F5 => with_reducible assumption); (case N5 => with_reducible assumption); (case N25 => with_reducible assumption); (case i5 => with_reducible assumption); (case e5 => with_reducible assumption); (case h5 => exact rfl)); intro h' M' t' k' F' N' hM1 hM2)) | ((with_reducible show wpAny _ _ (call (Value.ref _) _) _ _ _); k_dflt (refine' use37 (f := 72) (cost_contract _ _ _ _ _ _ ?hx7 ?hy7) ?kB ?kF ?kX ?kN ?kT ?kK ?kd ?ku trivial ?_); (case hx7 => exact ⟨by lia, by lia⟩); (case hy7 => exact ⟨by lia, by lia⟩); walk_at "mSides"; intro r' new' h' tk' hP' _ F' N'; (obtain ⟨e1', tC', e2'⟩ := hP'); subst e1' e2'; (try simp only [List.nil_append] at N')) | ((with_reducible show wpAny _ _ (call (Value.builtin "list.extend") [Value.ref _, Value.ref _]) _ _ _); (k_dflt (refine' ext370 ?F8 ?N8 (.head _) ?U8 ?h18 ?_; (case F8 => with_reducible assumption); (case N8 => with_reducible assumption); (case U8 => walk_at "mUpd"); (case h18 => lia)); intro _ _ _)) | ((with_reducible show wpAny _ _ (call (Value.builtin "list.extend") [Value.ref _, Value.ref _]) _ _ _); (k_dflt (refine' ext37 ?F9 ?N9 (.head _) ?ne9 ?U9 ?h19 ?h29 ?_; (case F9 => with_reducible assumption); (case N9 => with_reducible assumption); (case U9 => walk_at "mUpd"); (case ne9 => exact Nat.succ_ne_zero _); (case h19 => lia); (case h29 => exact Nat.le_of_ble_eq_true rfl)); intro _ _ _)) | ((with_reducible show wpAny _ _ (call (Value.builtin "len") [Value.ref _]) _ _ _); (refine len_list (Fr.lst (by with_reducible assumption) (by with_reducible assumption)) (by rw [List.size_toArray]; lia) ?_; (try rw [List.size_toArray]))) | ((with_reducible show wpAny _ _ (call (Value.builtin "str.join") _) _ _ _); ((refine' join37 (News.isList ?N12 ?m12) ?S12 ?b12 ?n12 ?_; (case N12 => with_reducible assumption); (case m12 => exact .head _); (case S12 => first | exact (trivial : StrsAre [] []) | exact StrsAre.one _ _ | with_reducible assumption); (case b12 => first | with_reducible assumption | (intro a ha; cases ha; done) | (intro a ha; rw [List.mem_singleton.mp ha]; exact Nat.le_of_ble_eq_true rfl)); (case n12 => first | exact Nat.le_of_ble_eq_true rfl | lia)); intro _ _ _ _)) | ((with_reducible show wpAny _ _ (call (Value.builtin "chr") _) _ _ _); (refine chr_of_range (by lia) (by lia) ?_)) | ((with_reducible show wpAny _ _ (call (Value.builtin "list.append") [Value.ref _, _]) _ _ _); (k_dflt (refine' append_K ?F14 ?N14 ?U14 ?_ ?z14; (case F14 => with_reducible assumption); (case N14 => with_reducible assumption); (case U14 => walk_at "mUpd"); (case z14 => (simp only [sizeLine_eq, List.size_toArray, List.length_append, List.length_cons, List.length_nil]; lia))); intro h' F' N'; (try simp only [List.push_toArray] at N')))) | ((with_reducible show wpAny _ _ (binaryOp Operator.Mult (Value.ref _) (Value.int _ _)) _ _ _); ((refine' KMa.mul ?F11 ?N11 (News.isList ?N211 (.head _)) ?lo11 ?hi11 ?z11 (flat_rep _ _) ?_; (case F11 => with_reducible assumption); (case N11 => with_reducible assumption); (case N211 => with_reducible assumption); (case lo11 => lia); (case hi11 => lia); (case z11 => (simp only [List.length_cons, List.length_nil]; lia))); intro D' h' F' N' l1; (try k_lt l1))) | walk1 | (dsimp only; walk1))))
          exact EndL.intro F₆ N₆ hin
      --END
      clear F₅ N₅ dh hways hX₅ hoff hW1 hW2 hW3 hW4 hW5 hW6 hri
      ((repeat (with_reducible rename News _ _ _ _ => Nq; clear Nq)); (repeat (with_reducible rename Fr _ _ _ _ => Fq; clear Fq)); (repeat (with_reducible rename IsRange _ _ _ _ _ _ _ _ => Rq; clear Rq)))
      rintro h₅ tk₅ m₅ nx F₅ N₅ ⟨tsz, tst, tl, tpb, tpa, th, oh, W, we, wv, X₅, hag, rfl, dh, hways, hX₅, hoff, hW1, hW2, hW3, hW4, hW5, hW6⟩
      replace F₅ := hag.fr F₅
      clear hag
      rw [ways_eq] at hways
      generalize hWS : waysOf cst pairs core (i == 0) hd ld rb ra ri = ws at hways
      --BEGIN
      have hwl : wv.length ≤ 8 := by
        rw [hways.length, ← hWS]
        exact waysOf_len (by subst hpairs; simp) hc1 (fun h => by rw [← hRI, if_pos (by simpa using h)])
      have hwl2 := hways.length
      have hsmall : ∀ w ∈ ws, w.2.1.length ≤ 1 ∧ w.2.2.2.length ≤ 1 ∧ w.2.2.1.length ≤ 4096 ∧ ∀ N ∈ w.2.2.1, N.length ≤ 5 := by
        intro w hw
        rw [← hWS] at hw
        have sm : ∀ k st, st + k ≤ letters.length → k ≤ 4 → (cellAt pairs core letters k st).2.length ≤ 4096 ∧ ∀ N ∈ (cellAt pairs core letters k st).2, N.length ≤ 5 := by
          intro k st h1 h2
          have h3 := cell_small (c := cst) (pairs := pairs) (core := core) (letters := letters) (by subst hpairs; simp) hc1 h1
          exact ⟨Nat.le_trans h3.1 (Nat.le_trans (Nat.pow_le_pow_right (by lia) h2) (by decide)), h3.2⟩
        refine and3 (waysOf_mem hw) ?_; intro w1 w2 w3
        refine ⟨w1, w2, ?_⟩
        rcases w3 with e | e | e | ⟨r, e, e'⟩
        · rw [e, ← hrb]; exact sm _ _ (by lia) (by lia)
        · rw [e, ← hra]; exact sm _ _ (by lia) (by lia)
        · rw [e]; exact ⟨by simp, fun N hN => by rw [List.mem_singleton.mp hN]; lia⟩
        · rw [← hRI] at e
          split at e
          · cases e
          · cases e
            rw [e', ← hrm]; exact sm _ _ (by lia) (by lia)
      have hwsne : ws ≠ [] := by rw [← hWS]; simp [waysOf]
      have oI2 := hoff.get (a := I2) (.head _)
      have oI := hoff.get (a := I) (.tail _ (.head _))
      have oK1 := hoff.get (a := L₁ + 1) (.tail _ (.tail _ (.head _)))
      have oK2 := hoff.get (a := L₁ + 1 + 1) (.tail _ (.tail _ (.tail _ (.head _))))
      have oCc := hoff.get (a := Cc) (.tail _ (.tail _ (.tail _ (.tail _ (.head _)))))
      have oLn := hoff.get (a := Ln) (.tail _ (.tail _ (.tail _ (.tail _ (.tail _ (.head _))))))
      have oW := hoff.get (a := W) (.tail _ (.tail _ (.tail _ (.tail _ (.tail _ (.tail _ (.head _)))))))
      (repeat' (first | walk_at "mGo" | ((try with_reducible show wpAny _ _ _ _ _ _); (fail_if_success (walk_at "mSt")); first | ((with_reducible show wpAny _ _ (assign _ _ _) _ _ _); first | ((with_reducible show wpAny _ _ (assign (Expr.Tuple _ _ _) _ (Value.ref _)) _ _ _); ((refine' unpack37 ?F1 ?N1 ?m1 ?h1 ?n1 ?s1 ?_; (case F1 => with_reducible assumption); (case N1 => with_reducible assumption); (case m1 => walk_at "mMem"); (case h1 => exact rfl); (case n1 => exact rfl); (case s1 => exact rfl)); intro _ _ _)) | ((with_reducible show wpAny _ _ (assign (Expr.Tuple _ _ _) _ (Value.ref _)) _ _ _); ((refine' unpackB37 ?F2 ?N2 ?m2 ?h2 ?n2 ?s2 ?_; (case F2 => with_reducible assumption); (case N2 => with_reducible assumption); (case m2 => with_reducible assumption); (case h2 => exact rfl); (case n2 => exact rfl); (case s2 => exact rfl)); intro _ _ _))) | ((with_reducible show wpAny _ _ (subscriptTail _ _ _ _) _ _ _); first | ((with_reducible show wpAny _ _ (subscriptTail (Expr.Name _ _) (Expr.UnaryOp _ _ _) _ (Value.int _ _)) _ _ _); (refine' itemNeg37 ?N3 ?m3 ?l3 ?k3 ?_; (case N3 => with_reducible assumption); (case m3 => walk_at "mMem"); (case k3 => with_reducible assumption); (case l3 => lia))) | ((with_reducible show wpAny _ _ (subscriptTail (Expr.Name _ _) (Expr.Constant _ _ _) (Value.ref _) (Value.int _ _)) _ _ _); (refine' itemT37 ?N6 ?m6 ?_; (case N6 => with_reducible assumption); (case m6 => walk_at "mMem"))) | ((with_reducible show wpAny _ _ (subscriptTail _ _ (Value.ref _) (Value.int _ _)) _ _ _); walk_at "subscriptTail")) | ((with_reducible show wpAny _ _ (compareOp CmpOp.NotIn (Value.str _ _) (Value.ref _)) _ _ _); ((refine' notin_list_strs (News.isList ?N4 ?m4) (StrsAre.lib ?S4) ?_; (case N4 => with_reducible assumption); (case m4 => walk_at "mMem"); (case S4 => with_reducible assumption)))) | ((with_reducible show wpAny _ _ (call _ _) _ _ _); first | ((with_reducible show wpAny _ _ (call (Value.builtin "min") [Value.ref _]) _ _ _); ((refine' kso_min ?F5 ?N5 (News.isList ?N25 (.head _)) ?i5 ?e5 ?h5 ?_; (case F5 => with_reducible assumption); (case N5 => with_reducible assumption); (case N25 => with_reducible assumption); (case i5 => with_reducible assumption); (case e5 => with_reducible assumption); (case h5 => exact rfl)); intro h' M' t' k' F' N' hM1 hM2)) | ((with_reducible show wpAny _ _ (call (Value.ref _) _) _ _ _); k_dflt (refine' use37 (f := 72) (cost_contract _ _ _ _ _ _ ?hx7 ?hy7) ?kB ?kF ?kX ?kN ?kT ?kK ?kd ?ku trivial ?_); (case hx7 => exact ⟨by lia, by lia⟩); (case hy7 => exact ⟨by lia, by lia⟩); walk_at "mSides"; intro r' new' h' tk' hP' _ F' N'; (obtain ⟨e1', tC', e2'⟩ := hP'); subst e1' e2'; (try simp only [List.nil_append] at N')) | ((with_reducible show wpAny _ _ (call (Value.builtin "list.extend") [Value.ref _, Value.ref _]) _ _ _); (k_dflt (refine' ext370 ?F8 ?N8 (.head _) ?U8 ?h18 ?_; (case F8 => with_reducible assumption); (case N8 => with_reducible assumption); (case U8 => walk_at "mUpd"); (case h18 => lia)); intro _ _ _)) | ((with_reducible show wpAny _ _ (call (Value.builtin "list.extend") [Value.ref _, Value.ref _]) _ _ _); (k_dflt (refine' ext37 ?F9 ?N9 (.head _) ?ne9 ?U9 ?h19 ?h29 ?_; (case F9 => with_reducible assumption); (case N9 => with_reducible assumption); (case U9 => walk_at "mUpd"); (case ne9 => exact Nat.succ_ne_zero _); (case h19 => lia); (case h29 => exact Nat.le_of_ble_eq_true rfl)); intro _ _ _)) | ((with_reducible show wpAny _ _ (call (Value.builtin "len") [Value.ref _]) _ _ _); (refine len_list (Fr.lst (by with_reducible assumption) (by with_reducible assumption)) (by rw [List.size_toArray]; lia) ?_; (try rw [List.size_toArray]))) | ((with_reducible show wpAny _ _ (call (Value.builtin "str.join") _) _ _ _); ((refine' join37 (News.isList ?N12 ?m12) ?S12 ?b12 ?n12 ?_; (case N12 => with_reducible assumption); (case m12 => exact .head _); (case S12 => first | exact (trivial : StrsAre [] []) | exact StrsAre.one _ _ | with_reducible assumption); (case b12 => first | with_reducible assumption | (intro a ha; cases ha; done) | (intro a ha; rw [List.mem_singleton.mp ha]; exact Nat.le_of_ble_eq_true rfl)); (case n12 => first | exact Nat.le_of_ble_eq_true rfl | lia)); intro _ _ _ _)) | ((with_reducible show wpAny _ _ (call (Value.builtin "chr") _) _ _ _); (refine chr_of_range (by lia) (by lia) ?_)) | ((with_reducible show wpAny _ _ (call (Value.builtin "list.append") [Value.ref _, _]) _ _ _); (k_dflt (refine' append_K ?F14 ?N14 ?U14 ?_ ?z14; (case F14 => with_reducible assumption); (case N14 => with_reducible assumption); (case U14 => walk_at "mUpd"); (case z14 => (simp only [sizeLine_eq, List.size_toArray, List.length_append, List.length_cons, List.length_nil]; lia))); intro h' F' N'; (try simp only [List.push_toArray] at N')))) | ((with_reducible show wpAny _ _ (binaryOp Operator.Mult (Value.ref _) (Value.int _ _)) _ _ _); ((refine' KMa.mul ?F11 ?N11 (News.isList ?N211 (.head _)) ?lo11 ?hi11 ?z11 (flat_rep _ _) ?_; (case F11 => with_reducible assumption); (case N11 => with_reducible assumption); (case N211 => with_reducible assumption); (case lo11 => lia); (case hi11 => lia); (case z11 => (simp only [List.length_cons, List.length_nil]; lia))); intro D' h' F' N' l1; (try k_lt l1))) | walk1 | (dsimp only; walk1))))
      refine comp_led (fun k ys nx => nx = (I2, io2) :: (I, io) :: (L₁ + 1, oc) :: (L₁ + 1 + 1, oh) :: (Cc, listOf rows.toArray ce) :: (Ln, listOf lvals.toArray lne) :: (W, listOf wv.toArray we) :: X₅ ∧ IntsAre ys ((ws.take k).map fun w => (w.1 : Int))) ?_ ?_ ?_
      · exact ⟨rfl, .nil⟩
      · ((repeat (with_reducible rename News _ _ _ _ => Nq; clear Nq)); (repeat (with_reducible rename Fr _ _ _ _ => Fq; clear Fq)); (repeat (with_reducible rename IsRange _ _ _ _ _ _ _ _ => Rq; clear Rq)))
        rintro k ys nx v I4 oI4 C4 oC4 D4 m₂' h₇ tk₇ E' hk ⟨rfl, hys⟩ hP hC hx F₇ N₇ off ne
        refine hideG ?_; intro Gh kGh
        obtain ⟨wy, hwy, T, tT, lead, tlead, nv, trail, ttrail, rfl, hT, hTN, hTl, hTt⟩ := hways.getL (i := k) (a := v) (by simpa using hP)
        refine kGh ?_; clear kGh Gh
        (repeat' (first | walk_at "mGo" | ((try with_reducible show wpAny _ _ _ _ _ _); (fail_if_success (walk_at "mSt")); first | ((with_reducible show wpAny _ _ (assign _ _ _) _ _ _); first | ((with_reducible show wpAny _ _ (assign (Expr.Tuple _ _ _) _ (Value.ref _)) _ _ _); ((refine' unpack37 ?F1 ?N1 ?m1 ?h1 ?n1 ?s1 ?_; (case F1 => with_reducible assumption); (case N1 => with_reducible assumption); (case m1 => walk_at "mMem"); (case h1 => exact rfl); (case n1 => exact rfl); (case s1 => exact rfl)); intro _ _ _)) | ((with_reducible show wpAny _ _ (assign (Expr.Tuple _ _ _) _ (Value.ref _)) _ _ _); ((refine' unpackB37 ?F2 ?N2 ?m2 ?h2 ?n2 ?s2 ?_; (case F2 => with_reducible assumption); (case N2 => with_reducible assumption); (case m2 => with_reducible assumption); (case h2 => exact rfl); (case n2 => exact rfl); (case s2 => exact rfl)); intro _ _ _))) | ((with_reducible show wpAny _ _ (subscriptTail _ _ _ _) _ _ _); first | ((with_reducible show wpAny _ _ (subscriptTail (Expr.Name _ _) (Expr.UnaryOp _ _ _) _ (Value.int _ _)) _ _ _); (refine' itemNeg37 ?N3 ?m3 ?l3 ?k3 ?_; (case N3 => with_reducible assumption); (case m3 => walk_at "mMem"); (case k3 => with_reducible assumption); (case l3 => lia))) | ((with_reducible show wpAny _ _ (subscriptTail (Expr.Name _ _) (Expr.Constant _ _ _) (Value.ref _) (Value.int _ _)) _ _ _); (refine' itemT37 ?N6 ?m6 ?_; (case N6 => with_reducible assumption); (case m6 => walk_at "mMem"))) | ((with_reducible show wpAny _ _ (subscriptTail _ _ (Value.ref _) (Value.int _ _)) _ _ _); walk_at "subscriptTail")) | ((with_reducible show wpAny _ _ (compareOp CmpOp.NotIn (Value.str _ _) (Value.ref _)) _ _ _); ((refine' notin_list_strs (News.isList ?N4 ?m4) (StrsAre.lib ?S4) ?_; (case N4 => with_reducible assumption); (case m4 => walk_at "mMem"); (case S4 => with_reducible assumption)))) | ((with_reducible show wpAny _ _ (call _ _) _ _ _); first | ((with_reducible show wpAny _ _ (call (Value.builtin "min") [Value.ref _]) _ _ _); ((refine' kso_min ?F5 ?N5 (News.isList ?N25 (.head _)) ?i5 ?e5 ?h5 ?_; (case F5 => with_reducible assumption); (case N5 => with_reducible assumption); (case N25 => with_reducible assumption); (case i5 => with_reducible assumption); (case e5 => with_reducible assumption); (case h5 => exact rfl)); intro h' M' t' k' F' N' hM1 hM2)) | ((with_reducible show wpAny _ _ (call (Value.ref _) _) _ _ _); k_dflt (refine' use37 (f := 72) (cost_contract _ _ _ _ _ _ ?hx7 ?hy7) ?kB ?kF ?kX ?kN ?kT ?kK ?kd ?ku trivial ?_); (case hx7 => exact ⟨by lia, by lia⟩); (case hy7 => exact ⟨by lia, by lia⟩); walk_at "mSides"; intro r' new' h' tk' hP' _ F' N'; (obtain ⟨e1', tC', e2'⟩ := hP'); subst e1' e2'; (try simp only [List.nil_append] at N')) | ((with_reducible show wpAny _ _ (call (Value.builtin "list.extend") [Value.ref _, Value.ref _]) _ _ _); (k_dflt (refine' ext370 ?F8 ?N8 (.head _) ?U8 ?h18 ?_; (case F8 => with_reducible assumption); (case N8 => with_reducible assumption); (case U8 => walk_at "mUpd"); (case h18 => lia)); intro _ _ _)) | ((with_reducible show wpAny _ _ (call (Value.builtin "list.extend") [Value.ref _, Value.ref _]) _ _ _); (k_dflt (refine' ext37 ?F9 ?N9 (.head _) ?ne9 ?U9 ?h19 ?h29 ?_; (case F9 => with_reducible assumption); (case N9 => with_reducible assumption); (case U9 => walk_at "mUpd"); (case ne9 => exact Nat.succ_ne_zero _); (case h19 => lia); (case h29 => exact Nat.le_of_ble_eq_true rfl)); intro _ _ _)) | ((with_reducible show wpAny _ _ (call (Value.builtin "len") [Value.ref _]) _ _ _); (refine len_list (Fr.lst (by with_reducible assumption) (by with_reducible assumption)) (by rw [List.size_toArray]; lia) ?_; (try rw [List.size_toArray]))) | ((with_reducible show wpAny _ _ (call (Value.builtin "str.join") _) _ _ _); ((refine' join37 (News.isList ?N12 ?m12) ?S12 ?b12 ?n12 ?_; (case N12 => with_reducible assumption); (case m12 => exact .head _); (case S12 => first | exact (trivial : StrsAre [] []) | exact StrsAre.one _ _ | with_reducible assumption); (case b12 => first | with_reducible assumption | (intro a ha; cases ha; done) | (intro a ha; rw [List.mem_singleton.mp ha]; exact Nat.le_of_ble_eq_true rfl)); (case n12 => first | exact Nat.le_of_ble_eq_true rfl | lia)); intro _ _ _ _)) | ((with_reducible show wpAny _ _ (call (Value.builtin "chr") _) _ _ _); (refine chr_of_range (by lia) (by lia) ?_)) | ((with_reducible show wpAny _ _ (call (Value.builtin "list.append") [Value.ref _, _]) _ _ _); (k_dflt (refine' append_K ?F14 ?N14 ?U14 ?_ ?z14; (case F14 => with_reducible assumption); (case N14 => with_reducible assumption); (case U14 => walk_at "mUpd"); (case z14 => (simp only [sizeLine_eq, List.size_toArray, List.length_append, List.length_cons, List.length_nil]; lia))); intro h' F' N'; (try simp only [List.push_toArray] at N')))) | ((with_reducible show wpAny _ _ (binaryOp Operator.Mult (Value.ref _) (Value.int _ _)) _ _ _); ((refine' KMa.mul ?F11 ?N11 (News.isList ?N211 (.head _)) ?lo11 ?hi11 ?z11 (flat_rep _ _) ?_; (case F11 => with_reducible assumption); (case N11 => with_reducible assumption); (case N211 => with_reducible assumption); (case lo11 => lia); (case hi11 => lia); (case z11 => (simp only [List.length_cons, List.length_nil]; lia))); intro D' h' F' N' l1; (try k_lt l1))) | walk1 | (dsimp only; walk1))))
        refine comp_end0 (by with_reducible assumption) (by with_reducible assumption) off (.inr ⟨_, .tail _ (.tail _ (.tail _ (.tail _ (.tail _ (.tail _ (.head _)))))), rfl, _, rfl⟩) ?_
        refine ⟨rfl, ?_⟩
        rw [List.take_add_one, hwy]
        simp only [Option.toList_some, List.map_append, List.map_cons, List.map_nil]
        exact ints_app hys (.cons _ _ .nil)
      · rintro ys nx ⟨rfl, hys⟩
        rw [List.size_toArray, hwl2, List.take_length] at hys
        have hne : 0 < (ws.map fun w => (w.1 : Int)).length := by
          rw [List.length_map]
          exact List.length_pos_iff.mpr hwsne
        (repeat' (first | walk_at "mGo" | ((try with_reducible show wpAny _ _ _ _ _ _); (fail_if_success (walk_at "mSt")); first | ((with_reducible show wpAny _ _ (assign _ _ _) _ _ _); first | ((with_reducible show wpAny _ _ (assign (Expr.Tuple _ _ _) _ (Value.ref _)) _ _ _); ((refine' unpack37 ?F1 ?N1 ?m1 ?h1 ?n1 ?s1 ?_; (case F1 => with_reducible assumption); (case N1 => with_reducible assumption); (case m1 => walk_at "mMem"); (case h1 => exact rfl); (case n1 => exact rfl); (case s1 => exact rfl)); intro _ _ _)) | ((with_reducible show wpAny _ _ (assign (Expr.Tuple _ _ _) _ (Value.ref _)) _ _ _); ((refine' unpackB37 ?F2 ?N2 ?m2 ?h2 ?n2 ?s2 ?_; (case F2 => with_reducible assumption); (case N2 => with_reducible assumption); (case m2 => with_reducible assumption); (case h2 => exact rfl); (case n2 => exact rfl); (case s2 => exact rfl)); intro _ _ _))) | ((with_reducible show wpAny _ _ (subscriptTail _ _ _ _) _ _ _); first | ((with_reducible show wpAny _ _ (subscriptTail (Expr.Name _ _) (Expr.UnaryOp _ _ _) _ (Value.int _ _)) _ _ _); (refine' itemNeg37 ?N3 ?m3 ?l3 ?k3 ?_; (case N3 => with_reducible assumption); (case m3 => walk_at "mMem"); (case k3 => with_reducible assumption); (case l3 => lia))) | ((with_reducible show wpAny _ _ (subscriptTail (Expr.Name _ _) (Expr.Constant _ _ _) (Value.ref _) (Value.int _ _)) _ _ _); (refine' itemT37 ?N6 ?m6 ?_; (case N6 => with_reducible assumption); (case m6 => walk_at "mMem"))) | ((with_reducible show wpAny _ _ (subscriptTail _ _ (Value.ref _) (Value.int _ _)) _ _ _); walk_at "subscriptTail")) | ((with_reducible show wpAny _ _ (compareOp CmpOp.NotIn (Value.str _ _) (Value.ref _)) _ _ _); ((refine' notin_list_strs (News.isList ?N4 ?m4) (StrsAre.lib ?S4) ?_; (case N4 => with_reducible assumption); (case m4 => walk_at "mMem"); (case S4 => with_reducible assumption)))) | ((with_reducible show wpAny _ _ (call _ _) _ _ _); first | ((with_reducible show wpAny _ _ (call (Value.builtin "min") [Value.ref _]) _ _ _); ((refine' kso_min ?F5 ?N5 (News.isList ?N25 (.head _)) ?i5 ?e5 ?h5 ?_; (case F5 => with_reducible assumption); (case N5 => with_reducible assumption); (case N25 => with_reducible assumption); (case i5 => with_reducible assumption); (case e5 => with_reducible assumption); (case h5 => exact rfl)); intro h' M' t' k' F' N' hM1 hM2)) | ((with_reducible show wpAny _ _ (call (Value.ref _) _) _ _ _); k_dflt (refine' use37 (f := 72) (cost_contract _ _ _ _ _ _ ?hx7 ?hy7) ?kB ?kF ?kX ?kN ?kT ?kK ?kd ?ku trivial ?_); (case hx7 => exact ⟨by lia, by lia⟩); (case hy7 => exact ⟨by lia, by lia⟩); walk_at "mSides"; intro r' new' h' tk' hP' _ F' N'; (obtain ⟨e1', tC', e2'⟩ := hP'); subst e1' e2'; (try simp only [List.nil_append] at N')) | ((with_reducible show wpAny _ _ (call (Value.builtin "list.extend") [Value.ref _, Value.ref _]) _ _ _); (k_dflt (refine' ext370 ?F8 ?N8 (.head _) ?U8 ?h18 ?_; (case F8 => with_reducible assumption); (case N8 => with_reducible assumption); (case U8 => walk_at "mUpd"); (case h18 => lia)); intro _ _ _)) | ((with_reducible show wpAny _ _ (call (Value.builtin "list.extend") [Value.ref _, Value.ref _]) _ _ _); (k_dflt (refine' ext37 ?F9 ?N9 (.head _) ?ne9 ?U9 ?h19 ?h29 ?_; (case F9 => with_reducible assumption); (case N9 => with_reducible assumption); (case U9 => walk_at "mUpd"); (case ne9 => exact Nat.succ_ne_zero _); (case h19 => lia); (case h29 => exact Nat.le_of_ble_eq_true rfl)); intro _ _ _)) | ((with_reducible show wpAny _ _ (call (Value.builtin "len") [Value.ref _]) _ _ _); (refine len_list (Fr.lst (by with_reducible assumption) (by with_reducible assumption)) (by rw [List.size_toArray]; lia) ?_; (try rw [List.size_toArray]))) | ((with_reducible show wpAny _ _ (call (Value.builtin "str.join") _) _ _ _); ((refine' join37 (News.isList ?N12 ?m12) ?S12 ?b12 ?n12 ?_; (case N12 => with_reducible assumption); (case m12 => exact .head _); (case S12 => first | exact (trivial : StrsAre [] []) | exact StrsAre.one _ _ | with_reducible assumption); (case b12 => first | with_reducible assumption | (intro a ha; cases ha; done) | (intro a ha; rw [List.mem_singleton.mp ha]; exact Nat.le_of_ble_eq_true rfl)); (case n12 => first | exact Nat.le_of_ble_eq_true rfl | lia)); intro _ _ _ _)) | ((with_reducible show wpAny _ _ (call (Value.builtin "chr") _) _ _ _); (refine chr_of_range (by lia) (by lia) ?_)) | ((with_reducible show wpAny _ _ (call (Value.builtin "list.append") [Value.ref _, _]) _ _ _); (k_dflt (refine' append_K ?F14 ?N14 ?U14 ?_ ?z14; (case F14 => with_reducible assumption); (case N14 => with_reducible assumption); (case U14 => walk_at "mUpd"); (case z14 => (simp only [sizeLine_eq, List.size_toArray, List.length_append, List.length_cons, List.length_nil]; lia))); intro h' F' N'; (try simp only [List.push_toArray] at N')))) | ((with_reducible show wpAny _ _ (binaryOp Operator.Mult (Value.ref _) (Value.int _ _)) _ _ _); ((refine' KMa.mul ?F11 ?N11 (News.isList ?N211 (.head _)) ?lo11 ?hi11 ?z11 (flat_rep _ _) ?_; (case F11 => with_reducible assumption); (case N11 => with_reducible assumption); (case N211 => with_reducible assumption); (case lo11 => lia); (case hi11 => lia); (case z11 => (simp only [List.length_cons, List.length_nil]; lia))); intro D' h' F' N' l1; (try k_lt l1))) | walk1 | (dsimp only; walk1))))
        rename Fr _ _ _ _ => Fz
        rename News _ _ _ _ => Nz
        rename (_ < _ ∧ I2 < _ ∧ I < _ ∧ _ ∧ _ ∧ Cc < _ ∧ Ln < _ ∧ W < _ ∧ AllLt _ X₅) => hlN
        rename _ ∈ List.map _ ws => hM1
        rename ∀ a, a ∈ List.map _ ws → _ => hM2
        have hM := least_eq hwsne hM1 hM2
        clear hM1 hM2
        subst hM
        refine near_nm Nz hlN ?_
        clear Nz hlN
        rintro Nr rfl Nb ⟨g1, g2, g3, g4, g5, g6, g7⟩ oNr
        try walk_at "mGo"
        refine for_start ?_
        (repeat' (first | walk_at "mGo" | ((try with_reducible show wpAny _ _ _ _ _ _); (fail_if_success (walk_at "mSt")); first | ((with_reducible show wpAny _ _ (assign _ _ _) _ _ _); first | ((with_reducible show wpAny _ _ (assign (Expr.Tuple _ _ _) _ (Value.ref _)) _ _ _); ((refine' unpack37 ?F1 ?N1 ?m1 ?h1 ?n1 ?s1 ?_; (case F1 => with_reducible assumption); (case N1 => with_reducible assumption); (case m1 => walk_at "mMem"); (case h1 => exact rfl); (case n1 => exact rfl); (case s1 => exact rfl)); intro _ _ _)) | ((with_reducible show wpAny _ _ (assign (Expr.Tuple _ _ _) _ (Value.ref _)) _ _ _); ((refine' unpackB37 ?F2 ?N2 ?m2 ?h2 ?n2 ?s2 ?_; (case F2 => with_reducible assumption); (case N2 => with_reducible assumption); (case m2 => with_reducible assumption); (case h2 => exact rfl); (case n2 => exact rfl); (case s2 => exact rfl)); intro _ _ _))) | ((with_reducible show wpAny _ _ (subscriptTail _ _ _ _) _ _ _); first | ((with_reducible show wpAny _ _ (subscriptTail (Expr.Name _ _) (Expr.UnaryOp _ _ _) _ (Value.int _ _)) _ _ _); (refine' itemNeg37 ?N3 ?m3 ?l3 ?k3 ?_; (case N3 => with_reducible assumption); (case m3 => walk_at "mMem"); (case k3 => with_reducible assumption); (case l3 => lia))) | ((with_reducible show wpAny _ _ (subscriptTail (Expr.Name _ _) (Expr.Constant _ _ _) (Value.ref _) (Value.int _ _)) _ _ _); (refine' itemT37 ?N6 ?m6 ?_; (case N6 => with_reducible assumption); (case m6 => walk_at "mMem"))) | ((with_reducible show wpAny _ _ (subscriptTail _ _ (Value.ref _) (Value.int _ _)) _ _ _); walk_at "subscriptTail")) | ((with_reducible show wpAny _ _ (compareOp CmpOp.NotIn (Value.str _ _) (Value.ref _)) _ _ _); ((refine' notin_list_strs (News.isList ?N4 ?m4) (StrsAre.lib ?S4) ?_; (case N4 => with_reducible assumption); (case m4 => walk_at "mMem"); (case S4 => with_reducible assumption)))) | ((with_reducible show wpAny _ _ (call _ _) _ _ _); first | ((with_reducible show wpAny _ _ (call (Value.builtin "min") [Value.ref _]) _ _ _); ((refine' kso_min ?F5 ?N5 (News.isList ?N25 (.head _)) ?i5 ?e5 ?h5 ?_; (case F5 => with_reducible assumption); (case N5 => with_reducible assumption); (case N25 => with_reducible assumption); (case i5 => with_reducible assumption); (case e5 => with_reducible assumption); (case h5 => exact rfl)); intro h' M' t' k' F' N' hM1 hM2)) | ((with_reducible show wpAny _ _ (call (Value.ref _) _) _ _ _); k_dflt (refine' use37 (f := 72) (cost_contract _ _ _ _ _ _ ?hx7 ?hy7) ?kB ?kF ?kX ?kN ?kT ?kK ?kd ?ku trivial ?_); (case hx7 => exact ⟨by lia, by lia⟩); (case hy7 => exact ⟨by lia, by lia⟩); walk_at "mSides"; intro r' new' h' tk' hP' _ F' N'; (obtain ⟨e1', tC', e2'⟩ := hP'); subst e1' e2'; (try simp only [List.nil_append] at N')) | ((with_reducible show wpAny _ _ (call (Value.builtin "list.extend") [Value.ref _, Value.ref _]) _ _ _); (k_dflt (refine' ext370 ?F8 ?N8 (.head _) ?U8 ?h18 ?_; (case F8 => with_reducible assumption); (case N8 => with_reducible assumption); (case U8 => walk_at "mUpd"); (case h18 => lia)); intro _ _ _)) | ((with_reducible show wpAny _ _ (call (Value.builtin "list.extend") [Value.ref _, Value.ref _]) _ _ _); (k_dflt (refine' ext37 ?F9 ?N9 (.head _) ?ne9 ?U9 ?h19 ?h29 ?_; (case F9 => with_reducible assumption); (case N9 => with_reducible assumption); (case U9 => walk_at "mUpd"); (case ne9 => exact Nat.succ_ne_zero _); (case h19 => lia); (case h29 => exact Nat.le_of_ble_eq_true rfl)); intro _ _ _)) | ((with_reducible show wpAny _ _ (call (Value.builtin "len") [Value.ref _]) _ _ _); (refine len_list (Fr.lst (by with_reducible assumption) (by with_reducible assumption)) (by rw [List.size_toArray]; lia) ?_; (try rw [List.size_toArray]))) | ((with_reducible show wpAny _ _ (call (Value.builtin "str.join") _) _ _ _); ((refine' join37 (News.isList ?N12 ?m12) ?S12 ?b12 ?n12 ?_; (case N12 => with_reducible assumption); (case m12 => exact .head _); (case S12 => first | exact (trivial : StrsAre [] []) | exact StrsAre.one _ _ | with_reducible assumption); (case b12 => first | with_reducible assumption | (intro a ha; cases ha; done) | (intro a ha; rw [List.mem_singleton.mp ha]; exact Nat.le_of_ble_eq_true rfl)); (case n12 => first | exact Nat.le_of_ble_eq_true rfl | lia)); intro _ _ _ _)) | ((with_reducible show wpAny _ _ (call (Value.builtin "chr") _) _ _ _); (refine chr_of_range (by lia) (by lia) ?_)) | ((with_reducible show wpAny _ _ (call (Value.builtin "list.append") [Value.ref _, _]) _ _ _); (k_dflt (refine' append_K ?F14 ?N14 ?U14 ?_ ?z14; (case F14 => with_reducible assumption); (case N14 => with_reducible assumption); (case U14 => walk_at "mUpd"); (case z14 => (simp only [sizeLine_eq, List.size_toArray, List.length_append, List.length_cons, List.length_nil]; lia))); intro h' F' N'; (try simp only [List.push_toArray] at N')))) | ((with_reducible show wpAny _ _ (binaryOp Operator.Mult (Value.ref _) (Value.int _ _)) _ _ _); ((refine' KMa.mul ?F11 ?N11 (News.isList ?N211 (.head _)) ?lo11 ?hi11 ?z11 (flat_rep _ _) ?_; (case F11 => with_reducible assumption); (case N11 => with_reducible assumption); (case N211 => with_reducible assumption); (case lo11 => lia); (case hi11 => lia); (case z11 => (simp only [List.length_cons, List.length_nil]; lia))); intro D' h' F' N' l1; (try k_lt l1))) | walk1 | (dsimp only; walk1))))
        rename Fr _ _ _ _ => Fy
        rename News _ _ _ _ => Ny
        try walk_at "mGo"
        refine for_list (vs := wv) (lo := listOf wv.toArray we) (NearJ4 la pa ma L₁ Cc oc oh rows ce I io sz Ln I2 io2 lvals lne W we wv X₅ ws Nr)
          rfl rfl ⟨_, rfl⟩ (fun i m₁ nx₁ h hJ F₁ N₁ => by obtain ⟨_, _, nvals, xs, ne, _, rfl, _⟩ := hJ; exact (N₁ _ (.tail _ (.tail _ (.tail _ (.tail _ (.tail _ (.tail _ (.head _)))))))).1)
          (.inr ⟨⟨_, _, _, rfl⟩, fun v hv => by obtain ⟨k, hk⟩ := List.getElem?_of_mem hv; obtain ⟨_, _, T, _, _, _, _, _, _, e, _⟩ := hways.getL hk; exact ⟨T, e⟩⟩) Fy Ny ?_ ?_ ?_
        · exact ⟨_, _, [], [], _, .cons rfl (.cons rfl (.cons rfl (.cons rfl (.cons rfl (.cons rfl (.cons rfl (.cons rfl .nil))))))), rfl, trivial, rfl⟩
        · clear Fy Ny
          ((repeat (with_reducible rename News _ _ _ _ => Nq; clear Nq)); (repeat (with_reducible rename Fr _ _ _ _ => Fq; clear Fq)); (repeat (with_reducible rename IsRange _ _ _ _ _ _ _ _ => Rq; clear Rq)))
          rintro k v m₆ nx h₆ tk₆ I4 io4 hv ⟨tsz, tle, nvals, xs, ne, hag, rfl, hnv, hnear⟩ hI F₆ N₆
          replace F₆ := hag.fr F₆
          clear hag
          refine hideG ?_; intro Gh kGh
          obtain ⟨wy, hwy, T, tT, lead, tlead, nv, trail, ttrail, rfl, hT, hTN, hTl, hTt⟩ := hways.getL hv
          obtain ⟨Nn, nvs, en, nxs, rfl, hNn, hnvs, hnxs⟩ := hTN
          refine and4 (hsmall wy (List.mem_of_getElem? hwy)) ?_; intro s1 s2 s3 s4
          refine kGh ?_; clear kGh Gh
          have r4 : Nr ≠ I4 := hI (Nr, _) (.tail _ (.tail _ (.tail _ (.tail _ (.tail _ (.tail _ (.tail _ (.head _))))))))
          have hlead1 : lead.length ≤ 1 := by rw [← lst_length, hTl]; exact s1
          have htrail1 : trail.length ≤ 1 := by rw [← lst_length, hTt]; exact s2
          have hft := filt_take (p := fun w => decide (w.1 = leastOf ws)) hwy
          have hbase : (((ws.take k).filter (fun w => w.1 = leastOf ws)).foldl addWay []).length ≤ 32768 := by
            refine Nat.le_trans (foldWay_len (M := 4096) _ [] (fun w hw => (hsmall w (List.mem_of_mem_take (List.mem_filter.mp hw).1)).2.2.1)) ?_
            have e1 := List.length_filter_le (fun w : Way => decide (w.1 = leastOf ws)) (ws.take k)
            have e2 : (ws.take k).length ≤ 8 := Nat.le_trans (List.length_take_le' ..) (by lia)
            simp only [List.length_nil]
            lia
          by_cases hle : wy.1 = leastOf ws
          · (repeat' (first | walk_at "mGo" | ((try with_reducible show wpAny _ _ _ _ _ _); (fail_if_success (walk_at "mSt")); first | ((with_reducible show wpAny _ _ (assign _ _ _) _ _ _); first | ((with_reducible show wpAny _ _ (assign (Expr.Tuple _ _ _) _ (Value.ref _)) _ _ _); ((refine' unpack37 ?F1 ?N1 ?m1 ?h1 ?n1 ?s1 ?_; (case F1 => with_reducible assumption); (case N1 => with_reducible assumption); (case m1 => walk_at "mMem"); (case h1 => exact rfl); (case n1 => exact rfl); (case s1 => exact rfl)); intro _ _ _)) | ((with_reducible show wpAny _ _ (assign (Expr.Tuple _ _ _) _ (Value.ref _)) _ _ _); ((refine' unpackB37 ?F2 ?N2 ?m2 ?h2 ?n2 ?s2 ?_; (case F2 => with_reducible assumption); (case N2 => with_reducible assumption); (case m2 => with_reducible assumption); (case h2 => exact rfl); (case n2 => exact rfl); (case s2 => exact rfl)); intro _ _ _))) | ((with_reducible show wpAny _ _ (subscriptTail _ _ _ _) _ _ _); first | ((with_reducible show wpAny _ _ (subscriptTail (Expr.Name _ _) (Expr.UnaryOp _ _ _) _ (Value.int _ _)) _ _ _); (refine' itemNeg37 ?N3 ?m3 ?l3 ?k3 ?_; (case N3 => with_reducible assumption); (case m3 => walk_at "mMem"); (case k3 => with_reducible assumption); (case l3 => lia))) | ((with_reducible show wpAny _ _ (subscriptTail (Expr.Name _ _) (Expr.Constant _ _ _) (Value.ref _) (Value.int _ _)) _ _ _); (refine' itemT37 ?N6 ?m6 ?_; (case N6 => with_reducible assumption); (case m6 => walk_at "mMem"))) | ((with_reducible show wpAny _ _ (subscriptTail _ _ (Value.ref _) (Value.int _ _)) _ _ _); walk_at "subscriptTail")) | ((with_reducible show wpAny _ _ (compareOp CmpOp.NotIn (Value.str _ _) (Value.ref _)) _ _ _); ((refine' notin_list_strs (News.isList ?N4 ?m4) (StrsAre.lib ?S4) ?_; (case N4 => with_reducible assumption); (case m4 => walk_at "mMem"); (case S4 => with_reducible assumption)))) | ((with_reducible show wpAny _ _ (call _ _) _ _ _); first | ((with_reducible show wpAny _ _ (call (Value.builtin "min") [Value.ref _]) _ _ _); ((refine' kso_min ?F5 ?N5 (News.isList ?N25 (.head _)) ?i5 ?e5 ?h5 ?_; (case F5 => with_reducible assumption); (case N5 => with_reducible assumption); (case N25 => with_reducible assumption); (case i5 => with_reducible assumption); (case e5 => with_reducible assumption); (case h5 => exact rfl)); intro h' M' t' k' F' N' hM1 hM2)) | ((with_reducible show wpAny _ _ (call (Value.ref _) _) _ _ _); k_dflt (refine' use37 (f := 72) (cost_contract _ _ _ _ _ _ ?hx7 ?hy7) ?kB ?kF ?kX ?kN ?kT ?kK ?kd ?ku trivial ?_); (case hx7 => exact ⟨by lia, by lia⟩); (case hy7 => exact ⟨by lia, by lia⟩); walk_at "mSides"; intro r' new' h' tk' hP' _ F' N'; (obtain ⟨e1', tC', e2'⟩ := hP'); subst e1' e2'; (try simp only [List.nil_append] at N')) | ((with_reducible show wpAny _ _ (call (Value.builtin "list.extend") [Value.ref _, Value.ref _]) _ _ _); (k_dflt (refine' ext370 ?F8 ?N8 (.head _) ?U8 ?h18 ?_; (case F8 => with_reducible assumption); (case N8 => with_reducible assumption); (case U8 => walk_at "mUpd"); (case h18 => lia)); intro _ _ _)) | ((with_reducible show wpAny _ _ (call (Value.builtin "list.extend") [Value.ref _, Value.ref _]) _ _ _); (k_dflt (refine' ext37 ?F9 ?N9 (.head _) ?ne9 ?U9 ?h19 ?h29 ?_; (case F9 => with_reducible assumption); (case N9 => with_reducible assumption); (case U9 => walk_at "mUpd"); (case ne9 => exact Nat.succ_ne_zero _); (case h19 => lia); (case h29 => exact Nat.le_of_ble_eq_true rfl)); intro _ _ _)) | ((with_reducible show wpAny _ _ (call (Value.builtin "len") [Value.ref _]) _ _ _); (refine len_list (Fr.lst (by with_reducible assumption) (by with_reducible assumption)) (by rw [List.size_toArray]; lia) ?_; (try rw [List.size_toArray]))) | ((with_reducible show wpAny _ _ (call (Value.builtin "str.join") _) _ _ _); ((refine' join37 (News.isList ?N12 ?m12) ?S12 ?b12 ?n12 ?_; (case N12 => with_reducible assumption); (case m12 => exact .head _); (case S12 => first | exact (trivial : StrsAre [] []) | exact StrsAre.one _ _ | with_reducible assumption); (case b12 => first | with_reducible assumption | (intro a ha; cases ha; done) | (intro a ha; rw [List.mem_singleton.mp ha]; exact Nat.le_of_ble_eq_true rfl)); (case n12 => first | exact Nat.le_of_ble_eq_true rfl | lia)); intro _ _ _ _)) | ((with_reducible show wpAny _ _ (call (Value.builtin "chr") _) _ _ _); (refine chr_of_range (by lia) (by lia) ?_)) | ((with_reducible show wpAny _ _ (call (Value.builtin "list.append") [Value.ref _, _]) _ _ _); (k_dflt (refine' append_K ?F14 ?N14 ?U14 ?_ ?z14; (case F14 => with_reducible assumption); (case N14 => with_reducible assumption); (case U14 => walk_at "mUpd"); (case z14 => (simp only [sizeLine_eq, List.size_toArray, List.length_append, List.length_cons, List.length_nil]; lia))); intro h' F' N'; (try simp only [List.push_toArray] at N')))) | ((with_reducible show wpAny _ _ (binaryOp Operator.Mult (Value.ref _) (Value.int _ _)) _ _ _); ((refine' KMa.mul ?F11 ?N11 (News.isList ?N211 (.head _)) ?lo11 ?hi11 ?z11 (flat_rep _ _) ?_; (case F11 => with_reducible assumption); (case N11 => with_reducible assumption); (case N211 => with_reducible assumption); (case lo11 => lia); (case hi11 => lia); (case z11 => (simp only [List.length_cons, List.length_nil]; lia))); intro D' h' F' N' l1; (try k_lt l1))) | walk1 | (dsimp only; walk1))))
            try walk_at "mGo"
            refine for_start ?_
            (repeat' (first | walk_at "mGo" | ((try with_reducible show wpAny _ _ _ _ _ _); (fail_if_success (walk_at "mSt")); first | ((with_reducible show wpAny _ _ (assign _ _ _) _ _ _); first | ((with_reducible show wpAny _ _ (assign (Expr.Tuple _ _ _) _ (Value.ref _)) _ _ _); ((refine' unpack37 ?F1 ?N1 ?m1 ?h1 ?n1 ?s1 ?_; (case F1 => with_reducible assumption); (case N1 => with_reducible assumption); (case m1 => walk_at "mMem"); (case h1 => exact rfl); (case n1 => exact rfl); (case s1 => exact rfl)); intro _ _ _)) | ((with_reducible show wpAny _ _ (assign (Expr.Tuple _ _ _) _ (Value.ref _)) _ _ _); ((refine' unpackB37 ?F2 ?N2 ?m2 ?h2 ?n2 ?s2 ?_; (case F2 => with_reducible assumption); (case N2 => with_reducible assumption); (case m2 => with_reducible assumption); (case h2 => exact rfl); (case n2 => exact rfl); (case s2 => exact rfl)); intro _ _ _))) | ((with_reducible show wpAny _ _ (subscriptTail _ _ _ _) _ _ _); first | ((with_reducible show wpAny _ _ (subscriptTail (Expr.Name _ _) (Expr.UnaryOp _ _ _) _ (Value.int _ _)) _ _ _); (refine' itemNeg37 ?N3 ?m3 ?l3 ?k3 ?_; (case N3 => with_reducible assumption); (case m3 => walk_at "mMem"); (case k3 => with_reducible assumption); (case l3 => lia))) | ((with_reducible show wpAny _ _ (subscriptTail (Expr.Name _ _) (Expr.Constant _ _ _) (Value.ref _) (Value.int _ _)) _ _ _); (refine' itemT37 ?N6 ?m6 ?_; (case N6 => with_reducible assumption); (case m6 => walk_at "mMem"))) | ((with_reducible show wpAny _ _ (subscriptTail _ _ (Value.ref _) (Value.int _ _)) _ _ _); walk_at "subscriptTail")) | ((with_reducible show wpAny _ _ (compareOp CmpOp.NotIn (Value.str _ _) (Value.ref _)) _ _ _); ((refine' notin_list_strs (News.isList ?N4 ?m4) (StrsAre.lib ?S4) ?_; (case N4 => with_reducible assumption); (case m4 => walk_at "mMem"); (case S4 => with_reducible assumption)))) | ((with_reducible show wpAny _ _ (call _ _) _ _ _); first | ((with_reducible show wpAny _ _ (call (Value.builtin "min") [Value.ref _]) _ _ _); ((refine' kso_min ?F5 ?N5 (News.isList ?N25 (.head _)) ?i5 ?e5 ?h5 ?_; (case F5 => with_reducible assumption); (case N5 => with_reducible assumption); (case N25 => with_reducible assumption); (case i5 => with_reducible assumption); (case e5 => with_reducible assumption); (case h5 => exact rfl)); intro h' M' t' k' F' N' hM1 hM2)) | ((with_reducible show wpAny _ _ (call (Value.ref _) _) _ _ _); k_dflt (refine' use37 (f := 72) (cost_contract _ _ _ _ _ _ ?hx7 ?hy7) ?kB ?kF ?kX ?kN ?kT ?kK ?kd ?ku trivial ?_); (case hx7 => exact ⟨by lia, by lia⟩); (case hy7 => exact ⟨by lia, by lia⟩); walk_at "mSides"; intro r' new' h' tk' hP' _ F' N'; (obtain ⟨e1', tC', e2'⟩ := hP'); subst e1' e2'; (try simp only [List.nil_append] at N')) | ((with_reducible show wpAny _ _ (call (Value.builtin "list.extend") [Value.ref _, Value.ref _]) _ _ _); (k_dflt (refine' ext370 ?F8 ?N8 (.head _) ?U8 ?h18 ?_; (case F8 => with_reducible assumption); (case N8 => with_reducible assumption); (case U8 => walk_at "mUpd"); (case h18 => lia)); intro _ _ _)) | ((with_reducible show wpAny _ _ (call (Value.builtin "list.extend") [Value.ref _, Value.ref _]) _ _ _); (k_dflt (refine' ext37 ?F9 ?N9 (.head _) ?ne9 ?U9 ?h19 ?h29 ?_; (case F9 => with_reducible assumption); (case N9 => with_reducible assumption); (case U9 => walk_at "mUpd"); (case ne9 => exact Nat.succ_ne_zero _); (case h19 => lia); (case h29 => exact Nat.le_of_ble_eq_true rfl)); intro _ _ _)) | ((with_reducible show wpAny _ _ (call (Value.builtin "len") [Value.ref _]) _ _ _); (refine len_list (Fr.lst (by with_reducible assumption) (by with_reducible assumption)) (by rw [List.size_toArray]; lia) ?_; (try rw [List.size_toArray]))) | ((with_reducible show wpAny _ _ (call (Value.builtin "str.join") _) _ _ _); ((refine' join37 (News.isList ?N12 ?m12) ?S12 ?b12 ?n12 ?_; (case N12 => with_reducible assumption); (case m12 => exact .head _); (case S12 => first | exact (trivial : StrsAre [] []) | exact StrsAre.one _ _ | with_reducible assumption); (case b12 => first | with_reducible assumption | (intro a ha; cases ha; done) | (intro a ha; rw [List.mem_singleton.mp ha]; exact Nat.le_of_ble_eq_true rfl)); (case n12 => first | exact Nat.le_of_ble_eq_true rfl | lia)); intro _ _ _ _)) | ((with_reducible show wpAny _ _ (call (Value.builtin "chr") _) _ _ _); (refine chr_of_range (by lia) (by lia) ?_)) | ((with_reducible show wpAny _ _ (call (Value.builtin "list.append") [Value.ref _, _]) _ _ _); (k_dflt (refine' append_K ?F14 ?N14 ?U14 ?_ ?z14; (case F14 => with_reducible assumption); (case N14 => with_reducible assumption); (case U14 => walk_at "mUpd"); (case z14 => (simp only [sizeLine_eq, List.size_toArray, List.length_append, List.length_cons, List.length_nil]; lia))); intro h' F' N'; (try simp only [List.push_toArray] at N')))) | ((with_reducible show wpAny _ _ (binaryOp Operator.Mult (Value.ref _) (Value.int _ _)) _ _ _); ((refine' KMa.mul ?F11 ?N11 (News.isList ?N211 (.head _)) ?lo11 ?hi11 ?z11 (flat_rep _ _) ?_; (case F11 => with_reducible assumption); (case N11 => with_reducible assumption); (case N211 => with_reducible assumption); (case lo11 => lia); (case hi11 => lia); (case z11 => (simp only [List.length_cons, List.length_nil]; lia))); intro D' h' F' N' l1; (try k_lt l1))) | walk1 | (dsimp only; walk1))))
            rename Fr _ _ _ _ => Fy
            rename News _ _ _ _ => Ny
            try walk_at "mGo"
            refine for_list (vs := nvs) (lo := listOf nvs.toArray en) (NearJ5 la pa ma L₁ Cc oc oh rows ce I io sz Ln I2 io2 lvals lne W we wv X₅ ws Nr I4 io4 wy lead trail k)
              rfl rfl ⟨_, rfl⟩ (fun i m₁ nx₁ h hJ F₁ N₁ => by obtain ⟨_, _, _, _, nvals, xs, ne, _, rfl, _⟩ := hJ; exact (N₁ _ (.tail _ (.tail _ (.tail _ (.tail _ (.tail _ (.tail _ (.tail _ (.tail _ (.tail _ hNn)))))))))).1)
              (.inl ⟨_, _, rfl⟩) Fy Ny ?_ ?_ ?_
            · exact ⟨_, _, _, _, nvals, xs, ne, .cons rfl (.cons rfl (.cons rfl (.cons rfl (.cons rfl (.cons rfl (.cons rfl (.cons rfl (.cons rfl (.cons rfl .nil))))))))), rfl, hnv, hnear, by rw [← List.length_map (f := lst), hnear]; exact hbase⟩
            · clear Fy Ny hnear hnv
              ((repeat (with_reducible rename News _ _ _ _ => Nq; clear Nq)); (repeat (with_reducible rename Fr _ _ _ _ => Fq; clear Fq)); (repeat (with_reducible rename IsRange _ _ _ _ _ _ _ _ => Rq; clear Rq)))
              rintro q v m₇ nx h₇ tk₇ I5 io5 hv5 ⟨tsz, tle, tlead, ttrail, nvals, xs, ne, hag, rfl, hnv, hnear, hxl⟩ hI5 F₇ N₇
              replace F₇ := hag.fr F₇
              clear hag
              have r5 : Nr ≠ I5 := hI5 (Nr, _) (.tail _ (.tail _ (.tail _ (.tail _ (.tail _ (.tail _ (.tail _ (.tail _ (.head _)))))))))
              have hq : q < nvs.length := (List.getElem?_eq_some_iff.mp hv5).1
              have hql : nvs.length ≤ 4096 := by rw [hnvs.length, ← List.length_map (f := lst), hnxs]; exact s3
              obtain ⟨y, hy⟩ : ∃ y, nxs[q]? = some y := ⟨_, List.getElem?_eq_getElem (by rw [← hnvs.length]; exact hq)⟩
              obtain ⟨ty, hy2⟩ := hnvs.get hy
              rw [hy2] at hv5
              cases hv5
              have hyw : wy.2.2.1[q]? = some (lst y) := by rw [← hnxs, List.getElem?_map, hy]; rfl
              have hy5 : y.length ≤ 5 := by rw [← lst_length]; exact s4 _ (List.mem_of_getElem? hyw)
              have hnvl := hnv.length
              have hylen := lst_length y
              have hln := lead_nil hTl
              (repeat' (first | walk_at "mGo" | ((try with_reducible show wpAny _ _ _ _ _ _); (fail_if_success (walk_at "mSt")); (fail_if_success (with_reducible show wpAny _ _ (exec (Stmt.If _ _ _ _) _) _ _ _)); first | ((with_reducible show wpAny _ _ (assign _ _ _) _ _ _); first | ((with_reducible show wpAny _ _ (assign (Expr.Tuple _ _ _) _ (Value.ref _)) _ _ _); ((refine' unpack37 ?F1 ?N1 ?m1 ?h1 ?n1 ?s1 ?_; (case F1 => with_reducible assumption); (case N1 => with_reducible assumption); (case m1 => walk_at "mMem"); (case h1 => exact rfl); (case n1 => exact rfl); (case s1 => exact rfl)); intro _ _ _)) | ((with_reducible show wpAny _ _ (assign (Expr.Tuple _ _ _) _ (Value.ref _)) _ _ _); ((refine' unpackB37 ?F2 ?N2 ?m2 ?h2 ?n2 ?s2 ?_; (case F2 => with_reducible assumption); (case N2 => with_reducible assumption); (case m2 => with_reducible assumption); (case h2 => exact rfl); (case n2 => exact rfl); (case s2 => exact rfl)); intro _ _ _))) | ((with_reducible show wpAny _ _ (subscriptTail _ _ _ _) _ _ _); first | ((with_reducible show wpAny _ _ (subscriptTail (Expr.Name _ _) (Expr.UnaryOp _ _ _) _ (Value.int _ _)) _ _ _); (refine' itemNeg37 ?N3 ?m3 ?l3 ?k3 ?_; (case N3 => with_reducible assumption); (case m3 => walk_at "mMem"); (case k3 => with_reducible assumption); (case l3 => lia))) | ((with_reducible show wpAny _ _ (subscriptTail (Expr.Name _ _) (Expr.Constant _ _ _) (Value.ref _) (Value.int _ _)) _ _ _); (refine' itemT37 ?N6 ?m6 ?_; (case N6 => with_reducible assumption); (case m6 => walk_at "mMem"))) | ((with_reducible show wpAny _ _ (subscriptTail _ _ (Value.ref _) (Value.int _ _)) _ _ _); walk_at "subscriptTail")) | ((with_reducible show wpAny _ _ (compareOp CmpOp.NotIn (Value.str _ _) (Value.ref _)) _ _ _); ((refine' notin_list_strs (News.isList ?N4 ?m4) (StrsAre.lib ?S4) ?_; (case N4 => with_reducible assumption); (case m4 => walk_at "mMem"); (case S4 => with_reducible assumption)))) | ((with_reducible show wpAny _ _ (call _ _) _ _ _); first | ((with_reducible show wpAny _ _ (call (Value.builtin "min") [Value.ref _]) _ _ _); ((refine' kso_min ?F5 ?N5 (News.isList ?N25 (.head _)) ?i5 ?e5 ?h5 ?_; (case F5 => with_reducible assumption); (case N5 => with_reducible assumption); (case N25 => with_reducible assumption); (case i5 => with_reducible assumption); (case e5 => with_reducible assumption); (case h5 => exact rfl)); intro h' M' t' k' F' N' hM1 hM2)) | ((with_reducible show wpAny _ _ (call (Value.ref _) _) _ _ _); k_dflt (refine' use37 (f := 72) (cost_contract _ _ _ _ _ _ ?hx7 ?hy7) ?kB ?kF ?kX ?kN ?kT ?kK ?kd ?ku trivial ?_); (case hx7 => exact ⟨by lia, by lia⟩); (case hy7 => exact ⟨by lia, by lia⟩); walk_at "mSides"; intro r' new' h' tk' hP' _ F' N'; (obtain ⟨e1', tC', e2'⟩ := hP'); subst e1' e2'; (try simp only [List.nil_append] at N')) | ((with_reducible show wpAny _ _ (call (Value.builtin "list.extend") [Value.ref _, Value.ref _]) _ _ _); (k_dflt (refine' ext370 ?F8 ?N8 (.head _) ?U8 ?h18 ?_; (case F8 => with_reducible assumption); (case N8 => with_reducible assumption); (case U8 => walk_at "mUpd"); (case h18 => lia)); intro _ _ _)) | ((with_reducible show wpAny _ _ (call (Value.builtin "list.extend") [Value.ref _, Value.ref _]) _ _ _); (k_dflt (refine' ext37 ?F9 ?N9 (.head _) ?ne9 ?U9 ?h19 ?h29 ?_; (case F9 => with_reducible assumption); (case N9 => with_reducible assumption); (case U9 => walk_at "mUpd"); (case ne9 => exact Nat.succ_ne_zero _); (case h19 => lia); (case h29 => exact Nat.le_of_ble_eq_true rfl)); intro _ _ _)) | ((with_reducible show wpAny _ _ (call (Value.builtin "len") [Value.ref _]) _ _ _); (refine len_list (Fr.lst (by with_reducible assumption) (by with_reducible assumption)) (by rw [List.size_toArray]; lia) ?_; (try rw [List.size_toArray]))) | ((with_reducible show wpAny _ _ (call (Value.builtin "str.join") _) _ _ _); ((refine' join37 (News.isList ?N12 ?m12) ?S12 ?b12 ?n12 ?_; (case N12 => with_reducible assumption); (case m12 => exact .head _); (case S12 => first | exact (trivial : StrsAre [] []) | exact StrsAre.one _ _ | with_reducible assumption); (case b12 => first | with_reducible assumption | (intro a ha; cases ha; done) | (intro a ha; rw [List.mem_singleton.mp ha]; exact Nat.le_of_ble_eq_true rfl)); (case n12 => first | exact Nat.le_of_ble_eq_true rfl | lia)); intro _ _ _ _)) | ((with_reducible show wpAny _ _ (call (Value.builtin "chr") _) _ _ _); (refine chr_of_range (by lia) (by lia) ?_)) | ((with_reducible show wpAny _ _ (call (Value.builtin "list.append") [Value.ref _, _]) _ _ _); (k_dflt (refine' append_K ?F14 ?N14 ?U14 ?_ ?z14; (case F14 => with_reducible assumption); (case N14 => with_reducible assumption); (case U14 => walk_at "mUpd"); (case z14 => (simp only [sizeLine_eq, List.size_toArray, List.length_append, List.length_cons, List.length_nil]; lia))); intro h' F' N'; (try simp only [List.push_toArray] at N')))) | ((with_reducible show wpAny _ _ (binaryOp Operator.Mult (Value.ref _) (Value.int _ _)) _ _ _); ((refine' KMa.mul ?F11 ?N11 (News.isList ?N211 (.head _)) ?lo11 ?hi11 ?z11 (flat_rep _ _) ?_; (case F11 => with_reducible assumption); (case N11 => with_reducible assumption); (case N211 => with_reducible assumption); (case lo11 => lia); (case hi11 => lia); (case z11 => (simp only [List.length_cons, List.length_nil]; lia))); intro D' h' F' N' l1; (try k_lt l1))) | walk1 | (dsimp only; walk1))))
              refine if_cut (decide (wy.2.1 = [] ∨ (lst y).length < 4)) ?_ ?_ ?_
              · (repeat' (first | walk_at "mGo" | ((try with_reducible show wpAny _ _ _ _ _ _); (fail_if_success (walk_at "mSt")); first | ((with_reducible show wpAny _ _ (assign _ _ _) _ _ _); first | ((with_reducible show wpAny _ _ (assign (Expr.Tuple _ _ _) _ (Value.ref _)) _ _ _); ((refine' unpack37 ?F1 ?N1 ?m1 ?h1 ?n1 ?s1 ?_; (case F1 => with_reducible assumption); (case N1 => with_reducible assumption); (case m1 => walk_at "mMem"); (case h1 => exact rfl); (case n1 => exact rfl); (case s1 => exact rfl)); intro _ _ _)) | ((with_reducible show wpAny _ _ (assign (Expr.Tuple _ _ _) _ (Value.ref _)) _ _ _); ((refine' unpackB37 ?F2 ?N2 ?m2 ?h2 ?n2 ?s2 ?_; (case F2 => with_reducible assumption); (case N2 => with_reducible assumption); (case m2 => with_reducible assumption); (case h2 => exact rfl); (case n2 => exact rfl); (case s2 => exact rfl)); intro _ _ _))) | ((with_reducible show wpAny _ _ (subscriptTail _ _ _ _) _ _ _); first | ((with_reducible show wpAny _ _ (subscriptTail (Expr.Name _ _) (Expr.UnaryOp _ _ _) _ (Value.int _ _)) _ _ _); (refine' itemNeg37 ?N3 ?m3 ?l3 ?k3 ?_; (case N3 => with_reducible assumption); (case m3 => walk_at "mMem"); (case k3 => with_reducible assumption); (case l3 => lia))) | ((with_reducible show wpAny _ _ (subscriptTail (Expr.Name _ _) (Expr.Constant _ _ _) (Value.ref _) (Value.int _ _)) _ _ _); (refine' itemT37 ?N6 ?m6 ?_; (case N6 => with_reducible assumption); (case m6 => walk_at "mMem"))) | ((with_reducible show wpAny _ _ (subscriptTail _ _ (Value.ref _) (Value.int _ _)) _ _ _); walk_at "subscriptTail")) | ((with_reducible show wpAny _ _ (compareOp CmpOp.NotIn (Value.str _ _) (Value.ref _)) _ _ _); ((refine' notin_list_strs (News.isList ?N4 ?m4) (StrsAre.lib ?S4) ?_; (case N4 => with_reducible assumption); (case m4 => walk_at "mMem"); (case S4 => with_reducible assumption)))) | ((with_reducible show wpAny _ _ (call _ _) _ _ _); first | ((with_reducible show wpAny _ _ (call (Value.builtin "min") [Value.ref _]) _ _ _); ((refine' kso_min ?F5 ?N5 (News.isList ?N25 (.head _)) ?i5 ?e5 ?h5 ?_; (case F5 => with_reducible assumption); (case N5 => with_reducible assumption); (case N25 => with_reducible assumption); (case i5 => with_reducible assumption); (case e5 => with_reducible assumption); (case h5 => exact rfl)); intro h' M' t' k' F' N' hM1 hM2)) | ((with_reducible show wpAny _ _ (call (Value.ref _) _) _ _ _); k_dflt (refine' use37 (f := 72) (cost_contract _ _ _ _ _ _ ?hx7 ?hy7) ?kB ?kF ?kX ?kN ?kT ?kK ?kd ?ku trivial ?_); (case hx7 => exact ⟨by lia, by lia⟩); (case hy7 => exact ⟨by lia, by lia⟩); walk_at "mSides"; intro r' new' h' tk' hP' _ F' N'; (obtain ⟨e1', tC', e2'⟩ := hP'); subst e1' e2'; (try simp only [List.nil_append] at N')) | ((with_reducible show wpAny _ _ (call (Value.builtin "list.extend") [Value.ref _, Value.ref _]) _ _ _); (k_dflt (refine' ext370 ?F8 ?N8 (.head _) ?U8 ?h18 ?_; (case F8 => with_reducible assumption); (case N8 => with_reducible assumption); (case U8 => walk_at "mUpd"); (case h18 => lia)); intro _ _ _)) | ((with_reducible show wpAny _ _ (call (Value.builtin "list.extend") [Value.ref _, Value.ref _]) _ _ _); (k_dflt (refine' ext37 ?F9 ?N9 (.head _) ?ne9 ?U9 ?h19 ?h29 ?_; (case F9 => with_reducible assumption); (case N9 => with_reducible assumption); (case U9 => walk_at "mUpd"); (case ne9 => exact Nat.succ_ne_zero _); (case h19 => lia); (case h29 => exact Nat.le_of_ble_eq_true rfl)); intro _ _ _)) | ((with_reducible show wpAny _ _ (call (Value.builtin "len") [Value.ref _]) _ _ _); (refine len_list (Fr.lst (by with_reducible assumption) (by with_reducible assumption)) (by rw [List.size_toArray]; lia) ?_; (try rw [List.size_toArray]))) | ((with_reducible show wpAny _ _ (call (Value.builtin "str.join") _) _ _ _); ((refine' join37 (News.isList ?N12 ?m12) ?S12 ?b12 ?n12 ?_; (case N12 => with_reducible assumption); (case m12 => exact .head _); (case S12 => first | exact (trivial : StrsAre [] []) | exact StrsAre.one _ _ | with_reducible assumption); (case b12 => first | with_reducible assumption | (intro a ha; cases ha; done) | (intro a ha; rw [List.mem_singleton.mp ha]; exact Nat.le_of_ble_eq_true rfl)); (case n12 => first | exact Nat.le_of_ble_eq_true rfl | lia)); intro _ _ _ _)) | ((with_reducible show wpAny _ _ (call (Value.builtin "chr") _) _ _ _); (refine chr_of_range (by lia) (by lia) ?_)) | ((with_reducible show wpAny _ _ (call (Value.builtin "list.append") [Value.ref _, _]) _ _ _); (k_dflt (refine' append_K ?F14 ?N14 ?U14 ?_ ?z14; (case F14 => with_reducible assumption); (case N14 => with_reducible assumption); (case U14 => walk_at "mUpd"); (case z14 => (simp only [sizeLine_eq, List.size_toArray, List.length_append, List.length_cons, List.length_nil]; lia))); intro h' F' N'; (try simp only [List.push_toArray] at N')))) | ((with_reducible show wpAny _ _ (binaryOp Operator.Mult (Value.ref _) (Value.int _ _)) _ _ _); ((refine' KMa.mul ?F11 ?N11 (News.isList ?N211 (.head _)) ?lo11 ?hi11 ?z11 (flat_rep _ _) ?_; (case F11 => with_reducible assumption); (case N11 => with_reducible assumption); (case N211 => with_reducible assumption); (case lo11 => lia); (case hi11 => lia); (case z11 => (simp only [List.length_cons, List.length_nil]; lia))); intro D' h' F' N' l1; (try k_lt l1))) | walk1 | (dsimp only; walk1))))
                · exact (decide_eq_true (.inl (hln.mp (by assumption)))).symm
                · exact (decide_eq_true (.inr (by lia))).symm
                · refine (decide_eq_false ?_).symm
                  rintro (h | h)
                  · have := hln.mpr h
                    simp_all
                  · lia
              · intro hc tk8
                replace hc := of_decide_eq_true hc
                (repeat' (first | walk_at "mGo" | ((try with_reducible show wpAny _ _ _ _ _ _); (fail_if_success (walk_at "mSt")); first | ((with_reducible show wpAny _ _ (assign _ _ _) _ _ _); first | ((with_reducible show wpAny _ _ (assign (Expr.Tuple _ _ _) _ (Value.ref _)) _ _ _); ((refine' unpack37 ?F1 ?N1 ?m1 ?h1 ?n1 ?s1 ?_; (case F1 => with_reducible assumption); (case N1 => with_reducible assumption); (case m1 => walk_at "mMem"); (case h1 => exact rfl); (case n1 => exact rfl); (case s1 => exact rfl)); intro _ _ _)) | ((with_reducible show wpAny _ _ (assign (Expr.Tuple _ _ _) _ (Value.ref _)) _ _ _); ((refine' unpackB37 ?F2 ?N2 ?m2 ?h2 ?n2 ?s2 ?_; (case F2 => with_reducible assumption); (case N2 => with_reducible assumption); (case m2 => with_reducible assumption); (case h2 => exact rfl); (case n2 => exact rfl); (case s2 => exact rfl)); intro _ _ _))) | ((with_reducible show wpAny _ _ (subscriptTail _ _ _ _) _ _ _); first | ((with_reducible show wpAny _ _ (subscriptTail (Expr.Name _ _) (Expr.UnaryOp _ _ _) _ (Value.int _ _)) _ _ _); (refine' itemNeg37 ?N3 ?m3 ?l3 ?k3 ?_; (case N3 => with_reducible assumption); (case m3 => walk_at "mMem"); (case k3 => with_reducible assumption); (case l3 => lia))) | ((with_reducible show wpAny _ _ (subscriptTail (Expr.Name _ _) (Expr.Constant _ _ _) (Value.ref _) (Value.int _ _)) _ _ _); (refine' itemT37 ?N6 ?m6 ?_; (case N6 => with_reducible assumption); (case m6 => walk_at "mMem"))) | ((with_reducible show wpAny _ _ (subscriptTail _ _ (Value.ref _) (Value.int _ _)) _ _ _); walk_at "subscriptTail")) | ((with_reducible show wpAny _ _ (compareOp CmpOp.NotIn (Value.str _ _) (Value.ref _)) _ _ _); ((refine' notin_list_strs (News.isList ?N4 ?m4) (StrsAre.lib ?S4) ?_; (case N4 => with_reducible assumption); (case m4 => walk_at "mMem"); (case S4 => with_reducible assumption)))) | ((with_reducible show wpAny _ _ (call _ _) _ _ _); first | ((with_reducible show wpAny _ _ (call (Value.builtin "min") [Value.ref _]) _ _ _); ((refine' kso_min ?F5 ?N5 (News.isList ?N25 (.head _)) ?i5 ?e5 ?h5 ?_; (case F5 => with_reducible assumption); (case N5 => with_reducible assumption); (case N25 => with_reducible assumption); (case i5 => with_reducible assumption); (case e5 => with_reducible assumption); (case h5 => exact rfl)); intro h' M' t' k' F' N' hM1 hM2)) | ((with_reducible show wpAny _ _ (call (Value.ref _) _) _ _ _); k_dflt (refine' use37 (f := 72) (cost_contract _ _ _ _ _ _ ?hx7 ?hy7) ?kB ?kF ?kX ?kN ?kT ?kK ?kd ?ku trivial ?_); (case hx7 => exact ⟨by lia, by lia⟩); (case hy7 => exact ⟨by lia, by lia⟩); walk_at "mSides"; intro r' new' h' tk' hP' _ F' N'; (obtain ⟨e1', tC', e2'⟩ := hP'); subst e1' e2'; (try simp only [List.nil_append] at N')) | ((with_reducible show wpAny _ _ (call (Value.builtin "list.extend") [Value.ref _, Value.ref _]) _ _ _); (k_dflt (refine' ext370 ?F8 ?N8 (.head _) ?U8 ?h18 ?_; (case F8 => with_reducible assumption); (case N8 => with_reducible assumption); (case U8 => walk_at "mUpd"); (case h18 => lia)); intro _ _ _)) | ((with_reducible show wpAny _ _ (call (Value.builtin "list.extend") [Value.ref _, Value.ref _]) _ _ _); (k_dflt (refine' ext37 ?F9 ?N9 (.head _) ?ne9 ?U9 ?h19 ?h29 ?_; (case F9 => with_reducible assumption); (case N9 => with_reducible assumption); (case U9 => walk_at "mUpd"); (case ne9 => exact Nat.succ_ne_zero _); (case h19 => lia); (case h29 => exact Nat.le_of_ble_eq_true rfl)); intro _ _ _)) | ((with_reducible show wpAny _ _ (call (Value.builtin "len") [Value.ref _]) _ _ _); (refine len_list (Fr.lst (by with_reducible assumption) (by with_reducible assumption)) (by rw [List.size_toArray]; lia) ?_; (try rw [List.size_toArray]))) | ((with_reducible show wpAny _ _ (call (Value.builtin "str.join") _) _ _ _); ((refine' join37 (News.isList ?N12 ?m12) ?S12 ?b12 ?n12 ?_; (case N12 => with_reducible assumption); (case m12 => exact .head _); (case S12 => first | exact (trivial : StrsAre [] []) | exact StrsAre.one _ _ | with_reducible assumption); (case b12 => first | with_reducible assumption | (intro a ha; cases ha; done) | (intro a ha; rw [List.mem_singleton.mp ha]; exact Nat.le_of_ble_eq_true rfl)); (case n12 => first | exact Nat.le_of_ble_eq_true rfl | lia)); intro _ _ _ _)) | ((with_reducible show wpAny _ _ (call (Value.builtin "chr") _) _ _ _); (refine chr_of_range (by lia) (by lia) ?_)) | ((with_reducible show wpAny _ _ (call (Value.builtin "list.append") [Value.ref _, _]) _ _ _); (k_dflt (refine' append_K ?F14 ?N14 ?U14 ?_ ?z14; (case F14 => with_reducible assumption); (case N14 => with_reducible assumption); (case U14 => walk_at "mUpd"); (case z14 => (simp only [sizeLine_eq, List.size_toArray, List.length_append, List.length_cons, List.length_nil]; lia))); intro h' F' N'; (try simp only [List.push_toArray] at N')))) | ((with_reducible show wpAny _ _ (binaryOp Operator.Mult (Value.ref _) (Value.int _ _)) _ _ _); ((refine' KMa.mul ?F11 ?N11 (News.isList ?N211 (.head _)) ?lo11 ?hi11 ?z11 (flat_rep _ _) ?_; (case F11 => with_reducible assumption); (case N11 => with_reducible assumption); (case N211 => with_reducible assumption); (case lo11 => lia); (case hi11 => lia); (case z11 => (simp only [List.length_cons, List.length_nil]; lia))); intro D' h' F' N' l1; (try k_lt l1))) | walk1 | (dsimp only; walk1))))
                · rename Fr _ _ _ _ => Fz
                  rename News _ _ _ _ => Nz
                  rename (List.any xs _) = true => hany
                  refine EndL.intro Fz Nz ?_
                  exact ⟨_, rfl, hI5, tsz, tle, tlead, ttrail, nvals, xs, ne, .cons rfl (.cons rfl (.cons rfl (.cons rfl (.cons rfl (.cons rfl (.cons rfl (.cons rfl (.cons rfl (.cons rfl .nil))))))))), rfl, hnv, by rw [fold_take hyw]; exact (step_put hnear hTl hTt rfl hc).1 hany, by lia⟩
                · rename Fr _ _ _ _ => Fz
                  rename News _ _ _ _ => Nz
                  rename (List.any xs _) = false => hany
                  refine EndL.intro Fz Nz ?_
                  exact ⟨_, rfl, off_upd (l1 := [_, _, _, _, _, _, _, _]) hI5, tsz, tle, tlead, ttrail, _, xs ++ [lead ++ y ++ trail], _, .cons rfl (.cons rfl (.cons rfl (.cons rfl (.cons rfl (.cons rfl (.cons rfl (.cons rfl (.cons rfl (.cons rfl .nil))))))))), rfl, hnv.app (StrsAre.one _ _), by rw [fold_take hyw]; exact (step_put hnear hTl hTt rfl hc).2 (by rw [hany]; decide), by rw [List.length_append, List.length_singleton]; lia⟩
              · intro hc tk8
                replace hc := of_decide_eq_false hc
                (repeat' (first | walk_at "mGo" | ((try with_reducible show wpAny _ _ _ _ _ _); (fail_if_success (walk_at "mSt")); first | ((with_reducible show wpAny _ _ (assign _ _ _) _ _ _); first | ((with_reducible show wpAny _ _ (assign (Expr.Tuple _ _ _) _ (Value.ref _)) _ _ _); ((refine' unpack37 ?F1 ?N1 ?m1 ?h1 ?n1 ?s1 ?_; (case F1 => with_reducible assumption); (case N1 => with_reducible assumption); (case m1 => walk_at "mMem"); (case h1 => exact rfl); (case n1 => exact rfl); (case s1 => exact rfl)); intro _ _ _)) | ((with_reducible show wpAny _ _ (assign (Expr.Tuple _ _ _) _ (Value.ref _)) _ _ _); ((refine' unpackB37 ?F2 ?N2 ?m2 ?h2 ?n2 ?s2 ?_; (case F2 => with_reducible assumption); (case N2 => with_reducible assumption); (case m2 => with_reducible assumption); (case h2 => exact rfl); (case n2 => exact rfl); (case s2 => exact rfl)); intro _ _ _))) | ((with_reducible show wpAny _ _ (subscriptTail _ _ _ _) _ _ _); first | ((with_reducible show wpAny _ _ (subscriptTail (Expr.Name _ _) (Expr.UnaryOp _ _ _) _ (Value.int _ _)) _ _ _); (refine' itemNeg37 ?N3 ?m3 ?l3 ?k3 ?_; (case N3 => with_reducible assumption); (case m3 => walk_at "mMem"); (case k3 => with_reducible assumption); (case l3 => lia))) | ((with_reducible show wpAny _ _ (subscriptTail (Expr.Name _ _) (Expr.Constant _ _ _) (Value.ref _) (Value.int _ _)) _ _ _); (refine' itemT37 ?N6 ?m6 ?_; (case N6 => with_reducible assumption); (case m6 => walk_at "mMem"))) | ((with_reducible show wpAny _ _ (subscriptTail _ _ (Value.ref _) (Value.int _ _)) _ _ _); walk_at "subscriptTail")) | ((with_reducible show wpAny _ _ (compareOp CmpOp.NotIn (Value.str _ _) (Value.ref _)) _ _ _); ((refine' notin_list_strs (News.isList ?N4 ?m4) (StrsAre.lib ?S4) ?_; (case N4 => with_reducible assumption); (case m4 => walk_at "mMem"); (case S4 => with_reducible assumption)))) | ((with_reducible show wpAny _ _ (call _ _) _ _ _); first | ((with_reducible show wpAny _ _ (call (Value.builtin "min") [Value.ref _]) _ _ _); ((refine' kso_min ?F5 ?N5 (News.isList ?N25 (.head _)) ?i5 ?e5 ?h5 ?_; (case F5 => with_reducible assumption); (case N5 => with_reducible assumption); (case N25 => with_reducible assumption); (case i5 => with_reducible assumption); (case e5 => with_reducible assumption); (case h5 => exact rfl)); intro h' M' t' k' F' N' hM1 hM2)) | ((with_reducible show wpAny _ _ (call (Value.ref _) _) _ _ _); k_dflt (refine' use37 (f := 72) (cost_contract _ _ _ _ _ _ ?hx7 ?hy7) ?kB ?kF ?kX ?kN ?kT ?kK ?kd ?ku trivial ?_); (case hx7 => exact ⟨by lia, by lia⟩); (case hy7 => exact ⟨by lia, by lia⟩); walk_at "mSides"; intro r' new' h' tk' hP' _ F' N'; (obtain ⟨e1', tC', e2'⟩ := hP'); subst e1' e2'; (try simp only [List.nil_append] at N')) | ((with_reducible show wpAny _ _ (call (Value.builtin "list.extend") [Value.ref _, Value.ref _]) _ _ _); (k_dflt (refine' ext370 ?F8 ?N8 (.head _) ?U8 ?h18 ?_; (case F8 => with_reducible assumption); (case N8 => with_reducible assumption); (case U8 => walk_at "mUpd"); (case h18 => lia)); intro _ _ _)) | ((with_reducible show wpAny _ _ (call (Value.builtin "list.extend") [Value.ref _, Value.ref _]) _ _ _); (k_dflt (refine' ext37 ?F9 ?N9 (.head _) ?ne9 ?U9 ?h19 ?h29 ?_; (case F9 => with_reducible assumption); (case N9 => with_reducible assumption); (case U9 => walk_at "mUpd"); (case ne9 => exact Nat.succ_ne_zero _); (case h19 => lia); (case h29 => exact Nat.le_of_ble_eq_true rfl)); intro _ _ _)) | ((with_reducible show wpAny _ _ (call (Value.builtin "len") [Value.ref _]) _ _ _); (refine len_list (Fr.lst (by with_reducible assumption) (by with_reducible assumption)) (by rw [List.size_toArray]; lia) ?_; (try rw [List.size_toArray]))) | ((with_reducible show wpAny _ _ (call (Value.builtin "str.join") _) _ _ _); ((refine' join37 (News.isList ?N12 ?m12) ?S12 ?b12 ?n12 ?_; (case N12 => with_reducible assumption); (case m12 => exact .head _); (case S12 => first | exact (trivial : StrsAre [] []) | exact StrsAre.one _ _ | with_reducible assumption); (case b12 => first | with_reducible assumption | (intro a ha; cases ha; done) | (intro a ha; rw [List.mem_singleton.mp ha]; exact Nat.le_of_ble_eq_true rfl)); (case n12 => first | exact Nat.le_of_ble_eq_true rfl | lia)); intro _ _ _ _)) | ((with_reducible show wpAny _ _ (call (Value.builtin "chr") _) _ _ _); (refine chr_of_range (by lia) (by lia) ?_)) | ((with_reducible show wpAny _ _ (call (Value.builtin "list.append") [Value.ref _, _]) _ _ _); (k_dflt (refine' append_K ?F14 ?N14 ?U14 ?_ ?z14; (case F14 => with_reducible assumption); (case N14 => with_reducible assumption); (case U14 => walk_at "mUpd"); (case z14 => (simp only [sizeLine_eq, List.size_toArray, List.length_append, List.length_cons, List.length_nil]; lia))); intro h' F' N'; (try simp only [List.push_toArray] at N')))) | ((with_reducible show wpAny _ _ (binaryOp Operator.Mult (Value.ref _) (Value.int _ _)) _ _ _); ((refine' KMa.mul ?F11 ?N11 (News.isList ?N211 (.head _)) ?lo11 ?hi11 ?z11 (flat_rep _ _) ?_; (case F11 => with_reducible assumption); (case N11 => with_reducible assumption); (case N211 => with_reducible assumption); (case lo11 => lia); (case hi11 => lia); (case z11 => (simp only [List.length_cons, List.length_nil]; lia))); intro D' h' F' N' l1; (try k_lt l1))) | walk1 | (dsimp only; walk1))))
                rename Fr _ _ _ _ => Fz
                rename News _ _ _ _ => Nz
                refine EndL.intro Fz Nz ?_
                exact ⟨_, rfl, hI5, tsz, tle, tlead, ttrail, nvals, xs, ne, .cons rfl (.cons rfl (.cons rfl (.cons rfl (.cons rfl (.cons rfl (.cons rfl (.cons rfl (.cons rfl (.cons rfl .nil))))))))), rfl, hnv, by rw [fold_take hyw, step_skip hc]; exact hnear, by lia⟩
            · clear Fy Ny hnear hnv
              ((repeat (with_reducible rename News _ _ _ _ => Nq; clear Nq)); (repeat (with_reducible rename Fr _ _ _ _ => Fq; clear Fq)); (repeat (with_reducible rename IsRange _ _ _ _ _ _ _ _ => Rq; clear Rq)))
              rintro m₇ nx h₇ tk₇ ⟨tsz, tle, tlead, ttrail, nvals, xs, ne, hag, rfl, hnv, hnear, hxl⟩ F₇ N₇
              replace F₇ := hag.fr F₇
              clear hag
              (repeat' (first | walk_at "mGo" | ((try with_reducible show wpAny _ _ _ _ _ _); (fail_if_success (walk_at "mSt")); first | ((with_reducible show wpAny _ _ (assign _ _ _) _ _ _); first | ((with_reducible show wpAny _ _ (assign (Expr.Tuple _ _ _) _ (Value.ref _)) _ _ _); ((refine' unpack37 ?F1 ?N1 ?m1 ?h1 ?n1 ?s1 ?_; (case F1 => with_reducible assumption); (case N1 => with_reducible assumption); (case m1 => walk_at "mMem"); (case h1 => exact rfl); (case n1 => exact rfl); (case s1 => exact rfl)); intro _ _ _)) | ((with_reducible show wpAny _ _ (assign (Expr.Tuple _ _ _) _ (Value.ref _)) _ _ _); ((refine' unpackB37 ?F2 ?N2 ?m2 ?h2 ?n2 ?s2 ?_; (case F2 => with_reducible assumption); (case N2 => with_reducible assumption); (case m2 => with_reducible assumption); (case h2 => exact rfl); (case n2 => exact rfl); (case s2 => exact rfl)); intro _ _ _))) | ((with_reducible show wpAny _ _ (subscriptTail _ _ _ _) _ _ _); first | ((with_reducible show wpAny _ _ (subscriptTail (Expr.Name _ _) (Expr.UnaryOp _ _ _) _ (Value.int _ _)) _ _ _); (refine' itemNeg37 ?N3 ?m3 ?l3 ?k3 ?_; (case N3 => with_reducible assumption); (case m3 => walk_at "mMem"); (case k3 => with_reducible assumption); (case l3 => lia))) | ((with_reducible show wpAny _ _ (subscriptTail (Expr.Name _ _) (Expr.Constant _ _ _) (Value.ref _) (Value.int _ _)) _ _ _); (refine' itemT37 ?N6 ?m6 ?_; (case N6 => with_reducible assumption); (case m6 => walk_at "mMem"))) | ((with_reducible show wpAny _ _ (subscriptTail _ _ (Value.ref _) (Value.int _ _)) _ _ _); walk_at "subscriptTail")) | ((with_reducible show wpAny _ _ (compareOp CmpOp.NotIn (Value.str _ _) (Value.ref _)) _ _ _); ((refine' notin_list_strs (News.isList ?N4 ?m4) (StrsAre.lib ?S4) ?_; (case N4 => with_reducible assumption); (case m4 => walk_at "mMem"); (case S4 => with_reducible assumption)))) | ((with_reducible show wpAny _ _ (call _ _) _ _ _); first | ((with_reducible show wpAny _ _ (call (Value.builtin "min") [Value.ref _]) _ _ _); ((refine' kso_min ?F5 ?N5 (News.isList ?N25 (.head _)) ?i5 ?e5 ?h5 ?_; (case F5 => with_reducible assumption); (case N5 => with_reducible assumption); (case N25 => with_reducible assumption); (case i5 => with_reducible assumption); (case e5 => with_reducible assumption); (case h5 => exact rfl)); intro h' M' t' k' F' N' hM1 hM2)) | ((with_reducible show wpAny _ _ (call (Value.ref _) _) _ _ _); k_dflt (refine' use37 (f := 72) (cost_contract _ _ _ _ _ _ ?hx7 ?hy7) ?kB ?kF ?kX ?kN ?kT ?kK ?kd ?ku trivial ?_); (case hx7 => exact ⟨by lia, by lia⟩); (case hy7 => exact ⟨by lia, by lia⟩); walk_at "mSides"; intro r' new' h' tk' hP' _ F' N'; (obtain ⟨e1', tC', e2'⟩ := hP'); subst e1' e2'; (try simp only [List.nil_append] at N')) | ((with_reducible show wpAny _ _ (call (Value.builtin "list.extend") [Value.ref _, Value.ref _]) _ _ _); (k_dflt (refine' ext370 ?F8 ?N8 (.head _) ?U8 ?h18 ?_; (case F8 => with_reducible assumption); (case N8 => with_reducible assumption); (case U8 => walk_at "mUpd"); (case h18 => lia)); intro _ _ _)) | ((with_reducible show wpAny _ _ (call (Value.builtin "list.extend") [Value.ref _, Value.ref _]) _ _ _); (k_dflt (refine' ext37 ?F9 ?N9 (.head _) ?ne9 ?U9 ?h19 ?h29 ?_; (case F9 => with_reducible assumption); (case N9 => with_reducible assumption); (case U9 => walk_at "mUpd"); (case ne9 => exact Nat.succ_ne_zero _); (case h19 => lia); (case h29 => exact Nat.le_of_ble_eq_true rfl)); intro _ _ _)) | ((with_reducible show wpAny _ _ (call (Value.builtin "len") [Value.ref _]) _ _ _); (refine len_list (Fr.lst (by with_reducible assumption) (by with_reducible assumption)) (by rw [List.size_toArray]; lia) ?_; (try rw [List.size_toArray]))) | ((with_reducible show wpAny _ _ (call (Value.builtin "str.join") _) _ _ _); ((refine' join37 (News.isList ?N12 ?m12) ?S12 ?b12 ?n12 ?_; (case N12 => with_reducible assumption); (case m12 => exact .head _); (case S12 => first | exact (trivial : StrsAre [] []) | exact StrsAre.one _ _ | with_reducible assumption); (case b12 => first | with_reducible assumption | (intro a ha; cases ha; done) | (intro a ha; rw [List.mem_singleton.mp ha]; exact Nat.le_of_ble_eq_true rfl)); (case n12 => first | exact Nat.le_of_ble_eq_true rfl | lia)); intro _ _ _ _)) | ((with_reducible show wpAny _ _ (call (Value.builtin "chr") _) _ _ _); (refine chr_of_range (by lia) (by lia) ?_)) | ((with_reducible show wpAny _ _ (call (Value.builtin "list.append") [Value.ref _, _]) _ _ _); (k_dflt (refine' append_K ?F14 ?N14 ?U14 ?_ ?z14; (case F14 => with_reducible assumption); (case N14 => with_reducible assumption); (case U14 => walk_at "mUpd"); (case z14 => (simp only [sizeLine_eq, List.size_toArray, List.length_append, List.length_cons, List.length_nil]; lia))); intro h' F' N'; (try simp only [List.push_toArray] at N')))) | ((with_reducible show wpAny _ _ (binaryOp Operator.Mult (Value.ref _) (Value.int _ _)) _ _ _); ((refine' KMa.mul ?F11 ?N11 (News.isList ?N211 (.head _)) ?lo11 ?hi11 ?z11 (flat_rep _ _) ?_; (case F11 => with_reducible assumption); (case N11 => with_reducible assumption); (case N211 => with_reducible assumption); (case lo11 => lia); (case hi11 => lia); (case z11 => (simp only [List.length_cons, List.length_nil]; lia))); intro D' h' F' N' l1; (try k_lt l1))) | walk1 | (dsimp only; walk1))))
              rename Fr _ _ _ _ => Fz
              rename News _ _ _ _ => Nz
              refine EndL.intro Fz Nz ?_
              rw [if_pos (by simpa using hle)] at hft
              rw [show nvs.length = wy.2.2.1.length by rw [hnvs.length, ← hnxs, List.length_map], List.take_length] at hnear
              exact ⟨_, rfl, off_upd (l1 := [_, _, _, _, _, _, _]) hI, tsz, tle, nvals, xs, ne, .cons rfl (.cons rfl (.cons rfl (.cons rfl (.cons rfl (.cons rfl (.cons rfl (.cons rfl .nil))))))), rfl, hnv, by rw [hft, List.foldl_append]; exact hnear⟩
          · (repeat' (first | walk_at "mGo" | ((try with_reducible show wpAny _ _ _ _ _ _); (fail_if_success (walk_at "mSt")); first | ((with_reducible show wpAny _ _ (assign _ _ _) _ _ _); first | ((with_reducible show wpAny _ _ (assign (Expr.Tuple _ _ _) _ (Value.ref _)) _ _ _); ((refine' unpack37 ?F1 ?N1 ?m1 ?h1 ?n1 ?s1 ?_; (case F1 => with_reducible assumption); (case N1 => with_reducible assumption); (case m1 => walk_at "mMem"); (case h1 => exact rfl); (case n1 => exact rfl); (case s1 => exact rfl)); intro _ _ _)) | ((with_reducible show wpAny _ _ (assign (Expr.Tuple _ _ _) _ (Value.ref _)) _ _ _); ((refine' unpackB37 ?F2 ?N2 ?m2 ?h2 ?n2 ?s2 ?_; (case F2 => with_reducible assumption); (case N2 => with_reducible assumption); (case m2 => with_reducible assumption); (case h2 => exact rfl); (case n2 => exact rfl); (case s2 => exact rfl)); intro _ _ _))) | ((with_reducible show wpAny _ _ (subscriptTail _ _ _ _) _ _ _); first | ((with_reducible show wpAny _ _ (subscriptTail (Expr.Name _ _) (Expr.UnaryOp _ _ _) _ (Value.int _ _)) _ _ _); (refine' itemNeg37 ?N3 ?m3 ?l3 ?k3 ?_; (case N3 => with_reducible assumption); (case m3 => walk_at "mMem"); (case k3 => with_reducible assumption); (case l3 => lia))) | ((with_reducible show wpAny _ _ (subscriptTail (Expr.Name _ _) (Expr.Constant _ _ _) (Value.ref _) (Value.int _ _)) _ _ _); (refine' itemT37 ?N6 ?m6 ?_; (case N6 => with_reducible assumption); (case m6 => walk_at "mMem"))) | ((with_reducible show wpAny _ _ (subscriptTail _ _ (Value.ref _) (Value.int _ _)) _ _ _); walk_at "subscriptTail")) | ((with_reducible show wpAny _ _ (compareOp CmpOp.NotIn (Value.str _ _) (Value.ref _)) _ _ _); ((refine' notin_list_strs (News.isList ?N4 ?m4) (StrsAre.lib ?S4) ?_; (case N4 => with_reducible assumption); (case m4 => walk_at "mMem"); (case S4 => with_reducible assumption)))) | ((with_reducible show wpAny _ _ (call _ _) _ _ _); first | ((with_reducible show wpAny _ _ (call (Value.builtin "min") [Value.ref _]) _ _ _); ((refine' kso_min ?F5 ?N5 (News.isList ?N25 (.head _)) ?i5 ?e5 ?h5 ?_; (case F5 => with_reducible assumption); (case N5 => with_reducible assumption); (case N25 => with_reducible assumption); (case i5 => with_reducible assumption); (case e5 => with_reducible assumption); (case h5 => exact rfl)); intro h' M' t' k' F' N' hM1 hM2)) | ((with_reducible show wpAny _ _ (call (Value.ref _) _) _ _ _); k_dflt (refine' use37 (f := 72) (cost_contract _ _ _ _ _ _ ?hx7 ?hy7) ?kB ?kF ?kX ?kN ?kT ?kK ?kd ?ku trivial ?_); (case hx7 => exact ⟨by lia, by lia⟩); (case hy7 => exact ⟨by lia, by lia⟩); walk_at "mSides"; intro r' new' h' tk' hP' _ F' N'; (obtain ⟨e1', tC', e2'⟩ := hP'); subst e1' e2'; (try simp only [List.nil_append] at N')) | ((with_reducible show wpAny _ _ (call (Value.builtin "list.extend") [Value.ref _, Value.ref _]) _ _ _); (k_dflt (refine' ext370 ?F8 ?N8 (.head _) ?U8 ?h18 ?_; (case F8 => with_reducible assumption); (case N8 => with_reducible assumption); (case U8 => walk_at "mUpd"); (case h18 => lia)); intro _ _ _)) | ((with_reducible show wpAny _ _ (call (Value.builtin "list.extend") [Value.ref _, Value.ref _]) _ _ _); (k_dflt (refine' ext37 ?F9 ?N9 (.head _) ?ne9 ?U9 ?h19 ?h29 ?_; (case F9 => with_reducible assumption); (case N9 => with_reducible assumption); (case U9 => walk_at "mUpd"); (case ne9 => exact Nat.succ_ne_zero _); (case h19 => lia); (case h29 => exact Nat.le_of_ble_eq_true rfl)); intro _ _ _)) | ((with_reducible show wpAny _ _ (call (Value.builtin "len") [Value.ref _]) _ _ _); (refine len_list (Fr.lst (by with_reducible assumption) (by with_reducible assumption)) (by rw [List.size_toArray]; lia) ?_; (try rw [List.size_toArray]))) | ((with_reducible show wpAny _ _ (call (Value.builtin "str.join") _) _ _ _); ((refine' join37 (News.isList ?N12 ?m12) ?S12 ?b12 ?n12 ?_; (case N12 => with_reducible assumption); (case m12 => exact .head _); (case S12 => first | exact (trivial : StrsAre [] []) | exact StrsAre.one _ _ | with_reducible assumption); (case b12 => first | with_reducible assumption | (intro a ha; cases ha; done) | (intro a ha; rw [List.mem_singleton.mp ha]; exact Nat.le_of_ble_eq_true rfl)); (case n12 => first | exact Nat.le_of_ble_eq_true rfl | lia)); intro _ _ _ _)) | ((with_reducible show wpAny _ _ (call (Value.builtin "chr") _) _ _ _); (refine chr_of_range (by lia) (by lia) ?_)) | ((with_reducible show wpAny _ _ (call (Value.builtin "list.append") [Value.ref _, _]) _ _ _); (k_dflt (refine' append_K ?F14 ?N14 ?U14 ?_ ?z14; (case F14 => with_reducible assumption); (case N14 => with_reducible assumption); (case U14 => walk_at "mUpd"); (case z14 => (simp only [sizeLine_eq, List.size_toArray, List.length_append, List.length_cons, List.length_nil]; lia))); intro h' F' N'; (try simp only [List.push_toArray] at N')))) | ((with_reducible show wpAny _ _ (binaryOp Operator.Mult (Value.ref _) (Value.int _ _)) _ _ _); ((refine' KMa.mul ?F11 ?N11 (News.isList ?N211 (.head _)) ?lo11 ?hi11 ?z11 (flat_rep _ _) ?_; (case F11 => with_reducible assumption); (case N11 => with_reducible assumption); (case N211 => with_reducible assumption); (case lo11 => lia); (case hi11 => lia); (case z11 => (simp only [List.length_cons, List.length_nil]; lia))); intro D' h' F' N' l1; (try k_lt l1))) | walk1 | (dsimp only; walk1))))
            rename Fr _ _ _ _ => Fz
            rename News _ _ _ _ => Nz
            refine EndL.intro Fz Nz ?_
            rw [if_neg (by simpa using hle), List.append_nil] at hft
            exact ⟨_, rfl, hI, _, _, nvals, xs, ne, .cons rfl (.cons rfl (.cons rfl (.cons rfl (.cons rfl (.cons rfl (.cons rfl (.cons rfl .nil))))))), rfl, hnv, by rw [hft]; exact hnear⟩
        · clear Fy Ny
          ((repeat (with_reducible rename News _ _ _ _ => Nq; clear Nq)); (repeat (with_reducible rename Fr _ _ _ _ => Fq; clear Fq)); (repeat (with_reducible rename IsRange _ _ _ _ _ _ _ _ => Rq; clear Rq)))
          rintro m₆ nx h₆ tk₆ ⟨tsz, tle, nvals, xs, ne, hag, rfl, hnv, hnear⟩ F₆ N₆
          replace F₆ := hag.fr F₆
          clear hag
          rw [hwl2, List.take_length] at hnear
          have hlv2 : lvals.length = j := by rw [hcells.length, List.length_map, List.length_range]
          (repeat' (first | walk_at "mGo" | ((try with_reducible show wpAny _ _ _ _ _ _); (fail_if_success (walk_at "mSt")); first | ((with_reducible show wpAny _ _ (assign _ _ _) _ _ _); first | ((with_reducible show wpAny _ _ (assign (Expr.Tuple _ _ _) _ (Value.ref _)) _ _ _); ((refine' unpack37 ?F1 ?N1 ?m1 ?h1 ?n1 ?s1 ?_; (case F1 => with_reducible assumption); (case N1 => with_reducible assumption); (case m1 => walk_at "mMem"); (case h1 => exact rfl); (case n1 => exact rfl); (case s1 => exact rfl)); intro _ _ _)) | ((with_reducible show wpAny _ _ (assign (Expr.Tuple _ _ _) _ (Value.ref _)) _ _ _); ((refine' unpackB37 ?F2 ?N2 ?m2 ?h2 ?n2 ?s2 ?_; (case F2 => with_reducible assumption); (case N2 => with_reducible assumption); (case m2 => with_reducible assumption); (case h2 => exact rfl); (case n2 => exact rfl); (case s2 => exact rfl)); intro _ _ _))) | ((with_reducible show wpAny _ _ (subscriptTail _ _ _ _) _ _ _); first | ((with_reducible show wpAny _ _ (subscriptTail (Expr.Name _ _) (Expr.UnaryOp _ _ _) _ (Value.int _ _)) _ _ _); (refine' itemNeg37 ?N3 ?m3 ?l3 ?k3 ?_; (case N3 => with_reducible assumption); (case m3 => walk_at "mMem"); (case k3 => with_reducible assumption); (case l3 => lia))) | ((with_reducible show wpAny _ _ (subscriptTail (Expr.Name _ _) (Expr.Constant _ _ _) (Value.ref _) (Value.int _ _)) _ _ _); (refine' itemT37 ?N6 ?m6 ?_; (case N6 => with_reducible assumption); (case m6 => walk_at "mMem"))) | ((with_reducible show wpAny _ _ (subscriptTail _ _ (Value.ref _) (Value.int _ _)) _ _ _); walk_at "subscriptTail")) | ((with_reducible show wpAny _ _ (compareOp CmpOp.NotIn (Value.str _ _) (Value.ref _)) _ _ _); ((refine' notin_list_strs (News.isList ?N4 ?m4) (StrsAre.lib ?S4) ?_; (case N4 => with_reducible assumption); (case m4 => walk_at "mMem"); (case S4 => with_reducible assumption)))) | ((with_reducible show wpAny _ _ (call _ _) _ _ _); first | ((with_reducible show wpAny _ _ (call (Value.builtin "min") [Value.ref _]) _ _ _); ((refine' kso_min ?F5 ?N5 (News.isList ?N25 (.head _)) ?i5 ?e5 ?h5 ?_; (case F5 => with_reducible assumption); (case N5 => with_reducible assumption); (case N25 => with_reducible assumption); (case i5 => with_reducible assumption); (case e5 => with_reducible assumption); (case h5 => exact rfl)); intro h' M' t' k' F' N' hM1 hM2)) | ((with_reducible show wpAny _ _ (call (Value.ref _) _) _ _ _); k_dflt (refine' use37 (f := 72) (cost_contract _ _ _ _ _ _ ?hx7 ?hy7) ?kB ?kF ?kX ?kN ?kT ?kK ?kd ?ku trivial ?_); (case hx7 => exact ⟨by lia, by lia⟩); (case hy7 => exact ⟨by lia, by lia⟩); walk_at "mSides"; intro r' new' h' tk' hP' _ F' N'; (obtain ⟨e1', tC', e2'⟩ := hP'); subst e1' e2'; (try simp only [List.nil_append] at N')) | ((with_reducible show wpAny _ _ (call (Value.builtin "list.extend") [Value.ref _, Value.ref _]) _ _ _); (k_dflt (refine' ext370 ?F8 ?N8 (.head _) ?U8 ?h18 ?_; (case F8 => with_reducible assumption); (case N8 => with_reducible assumption); (case U8 => walk_at "mUpd"); (case h18 => lia)); intro _ _ _)) | ((with_reducible show wpAny _ _ (call (Value.builtin "list.extend") [Value.ref _, Value.ref _]) _ _ _); (k_dflt (refine' ext37 ?F9 ?N9 (.head _) ?ne9 ?U9 ?h19 ?h29 ?_; (case F9 => with_reducible assumption); (case N9 => with_reducible assumption); (case U9 => walk_at "mUpd"); (case ne9 => exact Nat.succ_ne_zero _); (case h19 => lia); (case h29 => exact Nat.le_of_ble_eq_true rfl)); intro _ _ _)) | ((with_reducible show wpAny _ _ (call (Value.builtin "len") [Value.ref _]) _ _ _); (refine len_list (Fr.lst (by with_reducible assumption) (by with_reducible assumption)) (by rw [List.size_toArray]; lia) ?_; (try rw [List.size_toArray]))) | ((with_reducible show wpAny _ _ (call (Value.builtin "str.join") _) _ _ _); ((refine' join37 (News.isList ?N12 ?m12) ?S12 ?b12 ?n12 ?_; (case N12 => with_reducible assumption); (case m12 => exact .head _); (case S12 => first | exact (trivial : StrsAre [] []) | exact StrsAre.one _ _ | with_reducible assumption); (case b12 => first | with_reducible assumption | (intro a ha; cases ha; done) | (intro a ha; rw [List.mem_singleton.mp ha]; exact Nat.le_of_ble_eq_true rfl)); (case n12 => first | exact Nat.le_of_ble_eq_true rfl | lia)); intro _ _ _ _)) | ((with_reducible show wpAny _ _ (call (Value.builtin "chr") _) _ _ _); (refine chr_of_range (by lia) (by lia) ?_)) | ((with_reducible show wpAny _ _ (call (Value.builtin "list.append") [Value.ref _, _]) _ _ _); (k_dflt (refine' append_K ?F14 ?N14 ?U14 ?_ ?z14; (case F14 => with_reducible assumption); (case N14 => with_reducible assumption); (case U14 => walk_at "mUpd"); (case z14 => (simp only [sizeLine_eq, List.size_toArray, List.length_append, List.length_cons, List.length_nil]; lia))); intro h' F' N'; (try simp only [List.push_toArray] at N')))) | ((with_reducible show wpAny _ _ (binaryOp Operator.Mult (Value.ref _) (Value.int _ _)) _ _ _); ((refine' KMa.mul ?F11 ?N11 (News.isList ?N211 (.head _)) ?lo11 ?hi11 ?z11 (flat_rep _ _) ?_; (case F11 => with_reducible assumption); (case N11 => with_reducible assumption); (case N211 => with_reducible assumption); (case lo11 => lia); (case hi11 => lia); (case z11 => (simp only [List.length_cons, List.length_nil]; lia))); intro D' h' F' N' l1; (try k_lt l1))) | walk1 | (dsimp only; walk1))))
          rename Fr _ _ _ _ => Fz
          rename News _ _ _ _ => Nz
          rename (I2 < _ ∧ I < _ ∧ _ ∧ _ ∧ Cc < _ ∧ Ln < _ ∧ W < _ ∧ Nr < _ ∧ AllLt _ X₅) => hl1
          refine hideG ?_; intro Gh kGh
          refine and9 hl1 ?_; intro x1 x2 x3 x4 x5 x6 x7 x8 x9; clear hl1
          refine kGh ?_; clear kGh Gh
          have hcell : cellAt pairs core letters (i + 1) j = (leastOf ws, nearOf ws) := by
            have := cell_step cst pairs core letters (i := i) (j := j) hjn
            rw [← hWS, ← hRI, ← hrm, ← hrb, ← hra, ← hhd, ← hld]
            exact this
          refine EndL.intro Fz (cell_fin Nz) ?_
          refine ⟨_, rfl, ?_, oh, _, lne + 1, _, tsz, .cons rfl (.cons rfl (.cons rfl (.cons rfl (.cons rfl (.cons rfl .nil))))), rfl, ⟨_, dh⟩, ?_, ?_, ?_⟩
          · exact List.forall_mem_cons.mpr ⟨j1, List.forall_mem_cons.mpr ⟨j2, List.forall_mem_cons.mpr ⟨j3, List.forall_mem_cons.mpr ⟨j4, List.forall_mem_cons.mpr ⟨j5, List.forall_mem_cons.mpr ⟨Ne.symm (Nat.ne_of_lt x1), List.forall_mem_cons.mpr ⟨Ne.symm (Nat.ne_of_lt g1), oI2⟩⟩⟩⟩⟩⟩⟩
          · exact Off.cons (Off.cons (hoff.sub (by intro a ha; simp only [List.mem_cons, List.not_mem_nil, or_false] at ha ⊢; rcases ha with h | h | h | h | h; exact .inr (.inl h); exact .inr (.inr (.inl h)); exact .inr (.inr (.inr (.inl h))); exact .inr (.inr (.inr (.inr (.inl h)))); exact .inr (.inr (.inr (.inr (.inr (.inl h))))))) (lt5 g2 g3 g4 g5 g6)) (lt5 x2 x3 x4 x5 x6)
          · exact fun p hp => .tail _ (.tail _ (hX₅ p (hXX p hp)))
          · rw [List.range_succ, List.map_append, List.map_cons, List.map_nil, hcell]
            refine (hcells.mono fun _ _ z => CellX.mono (fun p hp => .tail _ (.tail _ (hX₅ p hp))) z).snoc ?_
            exact ⟨_, _, _, rfl, .head _, ⟨Nr, nvals, ne, xs, rfl, .tail _ (.head _), hnv, hnear⟩⟩
      --END
    · clear Fz Nb Rz dh offLn hoff
      ((repeat (with_reducible rename News _ _ _ _ => Nq; clear Nq)); (repeat (with_reducible rename Fr _ _ _ _ => Fq; clear Fq)); (repeat (with_reducible rename IsRange _ _ _ _ _ _ _ _ => Rq; clear Rq)))
      rintro m₄ nx h₄ tk₄ ⟨oh, lvals, lne, X', tsz, hag, rfl, ⟨vh', dh⟩, hoff, hXX, hcells⟩ F₄ N₄
      replace F₄ := hag.fr F₄
      clear hag
      have oI := hoff.get (a := I) (.head _)
      have oK1 := hoff.get (a := L₁ + 1) (.tail _ (.head _))
      have oK2 := hoff.get (a := L₁ + 1 + 1) (.tail _ (.tail _ (.head _)))
      have oCc := hoff.get (a := Cc) (.tail _ (.tail _ (.tail _ (.head _))))
      have oLn := hoff.get (a := Ln) (.tail _ (.tail _ (.tail _ (.tail _ (.head _)))))
      have hrl2 : rows.length = i + 1 := by rw [hrows.length, List.length_map, List.length_range]
      (repeat' (first | walk_at "mGo" | ((try with_reducible show wpAny _ _ _ _ _ _); (fail_if_success (walk_at "mSt")); first | ((with_reducible show wpAny _ _ (assign _ _ _) _ _ _); first | ((with_reducible show wpAny _ _ (assign (Expr.Tuple _ _ _) _ (Value.ref _)) _ _ _); ((refine' unpack37 ?F1 ?N1 ?m1 ?h1 ?n1 ?s1 ?_; (case F1 => with_reducible assumption); (case N1 => with_reducible assumption); (case m1 => walk_at "mMem"); (case h1 => exact rfl); (case n1 => exact rfl); (case s1 => exact rfl)); intro _ _ _)) | ((with_reducible show wpAny _ _ (assign (Expr.Tuple _ _ _) _ (Value.ref _)) _ _ _); ((refine' unpackB37 ?F2 ?N2 ?m2 ?h2 ?n2 ?s2 ?_; (case F2 => with_reducible assumption); (case N2 => with_reducible assumption); (case m2 => with_reducible assumption); (case h2 => exact rfl); (case n2 => exact rfl); (case s2 => exact rfl)); intro _ _ _))) | ((with_reducible show wpAny _ _ (subscriptTail _ _ _ _) _ _ _); first | ((with_reducible show wpAny _ _ (subscriptTail (Expr.Name _ _) (Expr.UnaryOp _ _ _) _ (Value.int _ _)) _ _ _); (refine' itemNeg37 ?N3 ?m3 ?l3 ?k3 ?_; (case N3 => with_reducible assumption); (case m3 => walk_at "mMem"); (case k3 => with_reducible assumption); (case l3 => lia))) | ((with_reducible show wpAny _ _ (subscriptTail (Expr.Name _ _) (Expr.Constant _ _ _) (Value.ref _) (Value.int _ _)) _ _ _); (refine' itemT37 ?N6 ?m6 ?_; (case N6 => with_reducible assumption); (case m6 => walk_at "mMem"))) | ((with_reducible show wpAny _ _ (subscriptTail _ _ (Value.ref _) (Value.int _ _)) _ _ _); walk_at "subscriptTail")) | ((with_reducible show wpAny _ _ (compareOp CmpOp.NotIn (Value.str _ _) (Value.ref _)) _ _ _); ((refine' notin_list_strs (News.isList ?N4 ?m4) (StrsAre.lib ?S4) ?_; (case N4 => with_reducible assumption); (case m4 => walk_at "mMem"); (case S4 => with_reducible assumption)))) | ((with_reducible show wpAny _ _ (call _ _) _ _ _); first | ((with_reducible show wpAny _ _ (call (Value.builtin "min") [Value.ref _]) _ _ _); ((refine' kso_min ?F5 ?N5 (News.isList ?N25 (.head _)) ?i5 ?e5 ?h5 ?_; (case F5 => with_reducible assumption); (case N5 => with_reducible assumption); (case N25 => with_reducible assumption); (case i5 => with_reducible assumption); (case e5 => with_reducible assumption); (case h5 => exact rfl)); intro h' M' t' k' F' N' hM1 hM2)) | ((with_reducible show wpAny _ _ (call (Value.ref _) _) _ _ _); k_dflt (refine' use37 (f := 72) (cost_contract _ _ _ _ _ _ ?hx7 ?hy7) ?kB ?kF ?kX ?kN ?kT ?kK ?kd ?ku trivial ?_); (case hx7 => exact ⟨by lia, by lia⟩); (case hy7 => exact ⟨by lia, by lia⟩); walk_at "mSides"; intro r' new' h' tk' hP' _ F' N'; (obtain ⟨e1', tC', e2'⟩ := hP'); subst e1' e2'; (try simp only [List.nil_append] at N')) | ((with_reducible show wpAny _ _ (call (Value.builtin "list.extend") [Value.ref _, Value.ref _]) _ _ _); (k_dflt (refine' ext370 ?F8 ?N8 (.head _) ?U8 ?h18 ?_; (case F8 => with_reducible assumption); (case N8 => with_reducible assumption); (case U8 => walk_at "mUpd"); (case h18 => lia)); intro _ _ _)) | ((with_reducible show wpAny _ _ (call (Value.builtin "list.extend") [Value.ref _, Value.ref _]) _ _ _); (k_dflt (refine' ext37 ?F9 ?N9 (.head _) ?ne9 ?U9 ?h19 ?h29 ?_; (case F9 => with_reducible assumption); (case N9 => with_reducible assumption); (case U9 => walk_at "mUpd"); (case ne9 => exact Nat.succ_ne_zero _); (case h19 => lia); (case h29 => exact Nat.le_of_ble_eq_true rfl)); intro _ _ _)) | ((with_reducible show wpAny _ _ (call (Value.builtin "len") [Value.ref _]) _ _ _); (refine len_list (Fr.lst (by with_reducible assumption) (by with_reducible assumption)) (by rw [List.size_toArray]; lia) ?_; (try rw [List.size_toArray]))) | ((with_reducible show wpAny _ _ (call (Value.builtin "str.join") _) _ _ _); ((refine' join37 (News.isList ?N12 ?m12) ?S12 ?b12 ?n12 ?_; (case N12 => with_reducible assumption); (case m12 => exact .head _); (case S12 => first | exact (trivial : StrsAre [] []) | exact StrsAre.one _ _ | with_reducible assumption); (case b12 => first | with_reducible assumption | (intro a ha; cases ha; done) | (intro a ha; rw [List.mem_singleton.mp ha]; exact Nat.le_of_ble_eq_true rfl)); (case n12 => first | exact Nat.le_of_ble_eq_true rfl | lia)); intro _ _ _ _)) | ((with_reducible show wpAny _ _ (call (Value.builtin "chr") _) _ _ _); (refine chr_of_range (by lia) (by lia) ?_)) | ((with_reducible show wpAny _ _ (call (Value.builtin "list.append") [Value.ref _, _]) _ _ _); (k_dflt (refine' append_K ?F14 ?N14 ?U14 ?_ ?z14; (case F14 => with_reducible assumption); (case N14 => with_reducible assumption); (case U14 => walk_at "mUpd"); (case z14 => (simp only [sizeLine_eq, List.size_toArray, List.length_append, List.length_cons, List.length_nil]; lia))); intro h' F' N'; (try simp only [List.push_toArray] at N')))) | ((with_reducible show wpAny _ _ (binaryOp Operator.Mult (Value.ref _) (Value.int _ _)) _ _ _); ((refine' KMa.mul ?F11 ?N11 (News.isList ?N211 (.head _)) ?lo11 ?hi11 ?z11 (flat_rep _ _) ?_; (case F11 => with_reducible assumption); (case N11 => with_reducible assumption); (case N211 => with_reducible assumption); (case lo11 => lia); (case hi11 => lia); (case z11 => (simp only [List.length_cons, List.length_nil]; lia))); intro D' h' F' N' l1; (try k_lt l1))) | walk1 | (dsimp only; walk1))))
      rename Fr _ _ _ _ => Fz
      rename News _ _ _ _ => Nz
      have Nz' : News s.heap L₁ _ ((I, io) :: (L₁ + 1, oc) :: (L₁ + 1 + 1, oh) :: (Cc, listOf (rows ++ [Value.ref Ln]).toArray (ce + 1)) :: (Ln, listOf lvals.toArray lne) :: X') := Nz
      refine EndL.intro Fz Nz' ?_
      refine ⟨_, rfl, ?_, oc, oh, _, ce + 1, _, .cons rfl (.cons rfl (.cons rfl (.cons rfl .nil))), rfl, dc, ⟨_, dh⟩, ?_, ?_⟩
      · exact List.forall_mem_cons.mpr ⟨i1, List.forall_mem_cons.mpr ⟨i2, List.forall_mem_cons.mpr ⟨i3, List.forall_mem_cons.mpr ⟨Ne.symm (Nat.ne_of_lt n1), oI⟩⟩⟩⟩
      · intro a ha
        simp only [List.mem_cons, List.not_mem_nil, or_false] at ha
        rcases ha with rfl | rfl | rfl
        · exact List.forall_mem_cons.mpr ⟨Ne.symm (Nat.ne_of_lt n2), oK1⟩
        · exact List.forall_mem_cons.mpr ⟨Ne.symm (Nat.ne_of_lt n3), oK2⟩
        · exact List.forall_mem_cons.mpr ⟨Ne.symm (Nat.ne_of_lt n4), oCc⟩
      · rw [List.range_succ, List.map_append, List.map_cons, List.map_nil]
        refine (hrows.mono fun _ _ z => RowX.mono (fun p hp => .tail _ (hXX p hp)) z).snoc ?_
        refine ⟨Ln, lvals, lne, rfl, .head _, ?_⟩
        unfold rowL
        rw [Nat.add_sub_add_right]
        exact hcells.mono fun _ _ z => CellX.mono (fun p hp => .tail _ hp) z
  · clear Fz Nz Nb Rz hoff hrows dc dh
    ((repeat (with_reducible rename News _ _ _ _ => Nq; clear Nq)); (repeat (with_reducible rename Fr _ _ _ _ => Fq; clear Fq)); (repeat (with_reducible rename IsRange _ _ _ _ _ _ _ _ => Rq; clear Rq)))
    rintro m₃ nx h₃ tk₃ ⟨oc, oh, rows, ce, X, hag, rfl, dc, dh, hoff, hrows⟩ F₃ N₃
    replace F₃ := hag.fr F₃
    clear hag
    refine hideG ?_; intro Gh kGh
    refine ex6 (rows_get (k := letters.length) (st := 0) hrows (by lia) (by lia)) ?_; intro R vals e T t nv hx_; refine and5 hx_ ?_; intro hR hRX hT hTX hnv; clear hx_
    refine kGh ?_; clear kGh Gh
    have hrl2 : rows.length = letters.length + 1 := by rw [hrows.length, List.length_map, List.length_range]
    have hR' : rows[rows.length - 1]? = some (Value.ref R) := by rw [hrl2, Nat.add_sub_cancel]; exact hR
    have hT' : vals[(0 : Int).toNat]? = some (Value.ref T) := hT
    (repeat' (first | walk_at "mGo" | ((try with_reducible show wpAny _ _ _ _ _ _); (fail_if_success (walk_at "mSt")); first | ((with_reducible show wpAny _ _ (assign _ _ _) _ _ _); first | ((with_reducible show wpAny _ _ (assign (Expr.Tuple _ _ _) _ (Value.ref _)) _ _ _); ((refine' unpack37 ?F1 ?N1 ?m1 ?h1 ?n1 ?s1 ?_; (case F1 => with_reducible assumption); (case N1 => with_reducible assumption); (case m1 => walk_at "mMem"); (case h1 => exact rfl); (case n1 => exact rfl); (case s1 => exact rfl)); intro _ _ _)) | ((with_reducible show wpAny _ _ (assign (Expr.Tuple _ _ _) _ (Value.ref _)) _ _ _); ((refine' unpackB37 ?F2 ?N2 ?m2 ?h2 ?n2 ?s2 ?_; (case F2 => with_reducible assumption); (case N2 => with_reducible assumption); (case m2 => with_reducible assumption); (case h2 => exact rfl); (case n2 => exact rfl); (case s2 => exact rfl)); intro _ _ _))) | ((with_reducible show wpAny _ _ (subscriptTail _ _ _ _) _ _ _); first | ((with_reducible show wpAny _ _ (subscriptTail (Expr.Name _ _) (Expr.UnaryOp _ _ _) _ (Value.int _ _)) _ _ _); (refine' itemNeg37 ?N3 ?m3 ?l3 ?k3 ?_; (case N3 => with_reducible assumption); (case m3 => walk_at "mMem"); (case k3 => with_reducible assumption); (case l3 => lia))) | ((with_reducible show wpAny _ _ (subscriptTail (Expr.Name _ _) (Expr.Constant _ _ _) (Value.ref _) (Value.int _ _)) _ _ _); (refine' itemT37 ?N6 ?m6 ?_; (case N6 => with_reducible assumption); (case m6 => walk_at "mMem"))) | ((with_reducible show wpAny _ _ (subscriptTail _ _ (Value.ref _) (Value.int _ _)) _ _ _); walk_at "subscriptTail")) | ((with_reducible show wpAny _ _ (compareOp CmpOp.NotIn (Value.str _ _) (Value.ref _)) _ _ _); ((refine' notin_list_strs (News.isList ?N4 ?m4) (StrsAre.lib ?S4) ?_; (case N4 => with_reducible assumption); (case m4 => walk_at "mMem"); (case S4 => with_reducible assumption)))) | ((with_reducible show wpAny _ _ (call _ _) _ _ _); first | ((with_reducible show wpAny _ _ (call (Value.builtin "min") [Value.ref _]) _ _ _); ((refine' kso_min ?F5 ?N5 (News.isList ?N25 (.head _)) ?i5 ?e5 ?h5 ?_; (case F5 => with_reducible assumption); (case N5 => with_reducible assumption); (case N25 => with_reducible assumption); (case i5 => with_reducible assumption); (case e5 => with_reducible assumption); (case h5 => exact rfl)); intro h' M' t' k' F' N' hM1 hM2)) | ((with_reducible show wpAny _ _ (call (Value.ref _) _) _ _ _); k_dflt (refine' use37 (f := 72) (cost_contract _ _ _ _ _ _ ?hx7 ?hy7) ?kB ?kF ?kX ?kN ?kT ?kK ?kd ?ku trivial ?_); (case hx7 => exact ⟨by lia, by lia⟩); (case hy7 => exact ⟨by lia, by lia⟩); walk_at "mSides"; intro r' new' h' tk' hP' _ F' N'; (obtain ⟨e1', tC', e2'⟩ := hP'); subst e1' e2'; (try simp only [List.nil_append] at N')) | ((with_reducible show wpAny _ _ (call (Value.builtin "list.extend") [Value.ref _, Value.ref _]) _ _ _); (k_dflt (refine' ext370 ?F8 ?N8 (.head _) ?U8 ?h18 ?_; (case F8 => with_reducible assumption); (case N8 => with_reducible assumption); (case U8 => walk_at "mUpd"); (case h18 => lia)); intro _ _ _)) | ((with_reducible show wpAny _ _ (call (Value.builtin "list.extend") [Value.ref _, Value.ref _]) _ _ _); (k_dflt (refine' ext37 ?F9 ?N9 (.head _) ?ne9 ?U9 ?h19 ?h29 ?_; (case F9 => with_reducible assumption); (case N9 => with_reducible assumption); (case U9 => walk_at "mUpd"); (case ne9 => exact Nat.succ_ne_zero _); (case h19 => lia); (case h29 => exact Nat.le_of_ble_eq_true rfl)); intro _ _ _)) | ((with_reducible show wpAny _ _ (call (Value.builtin "len") [Value.ref _]) _ _ _); (refine len_list (Fr.lst (by with_reducible assumption) (by with_reducible assumption)) (by rw [List.size_toArray]; lia) ?_; (try rw [List.size_toArray]))) | ((with_reducible show wpAny _ _ (call (Value.builtin "str.join") _) _ _ _); ((refine' join37 (News.isList ?N12 ?m12) ?S12 ?b12 ?n12 ?_; (case N12 => with_reducible assumption); (case m12 => exact .head _); (case S12 => first | exact (trivial : StrsAre [] []) | exact StrsAre.one _ _ | with_reducible assumption); (case b12 => first | with_reducible assumption | (intro a ha; cases ha; done) | (intro a ha; rw [List.mem_singleton.mp ha]; exact Nat.le_of_ble_eq_true rfl)); (case n12 => first | exact Nat.le_of_ble_eq_true rfl | lia)); intro _ _ _ _)) | ((with_reducible show wpAny _ _ (call (Value.builtin "chr") _) _ _ _); (refine chr_of_range (by lia) (by lia) ?_)) | ((with_reducible show wpAny _ _ (call (Value.builtin "list.append") [Value.ref _, _]) _ _ _); (k_dflt (refine' append_K ?F14 ?N14 ?U14 ?_ ?z14; (case F14 => with_reducible assumption); (case N14 => with_reducible assumption); (case U14 => walk_at "mUpd"); (case z14 => (simp only [sizeLine_eq, List.size_toArray, List.length_append, List.length_cons, List.length_nil]; lia))); intro h' F' N'; (try simp only [List.push_toArray] at N')))) | ((with_reducible show wpAny _ _ (binaryOp Operator.Mult (Value.ref _) (Value.int _ _)) _ _ _); ((refine' KMa.mul ?F11 ?N11 (News.isList ?N211 (.head _)) ?lo11 ?hi11 ?z11 (flat_rep _ _) ?_; (case F11 => with_reducible assumption); (case N11 => with_reducible assumption); (case N211 => with_reducible assumption); (case lo11 => lia); (case hi11 => lia); (case z11 => (simp only [List.length_cons, List.length_nil]; lia))); intro D' h' F' N' l1; (try k_lt l1))) | walk1 | (dsimp only; walk1))))
    rename Fr _ _ _ _ => Fz
    rename News _ _ _ _ => Nz
    refine hideG ?_; intro Gh kGh
    obtain ⟨Nn, nvs, en, xs, rfl, hNn, hnvs, hxs⟩ := hnv
    refine kGh ?_; clear kGh Gh
    refine hret _ [(T, tupL [.int ((cellAt pairs core letters letters.length 0).1 : Int) t, .ref Nn]), (Nn, listOf nvs.toArray en)] _ _ ⟨T, Nn, t, nvs, en, xs, rfl, by rw [hpairs]; rfl, hnvs, by rw [hpairs]; exact hxs⟩ Fz.keep ?_
    have z1 := Nz _ (.tail _ (.tail _ (.tail _ hTX)))
    have z2 := Nz _ (.tail _ (.tail _ (.tail _ hNn)))
    exact List.forall_mem_cons.mpr ⟨⟨z1.1, z1.2.2⟩, List.forall_mem_cons.mpr ⟨⟨z2.1, z2.2.2⟩, List.forall_mem_nil _⟩⟩
end PartT5
-- W6a
/-! comprehensions by what holds between their turns: any target, two clauses -/
section
variable {prog : Program} {w : World} {A : Around} {E : Value → Shared → Prop} {s : Shared} {h₀ : Heap} {L : Addr} {m : Str → Option Value} {env : Env}
abbrev noted (prog : Program) (w : World) (A : Around) (env : Env) (R : Result → Shared → Prop) : Value → Shared → Prop := notedBy (model prog w) A env fun e s' => R (.error e) s'
/-- one turn: the item is drawn and bound, then what a turn wants -/
def TurnG (prog : Program) (w : World) (A : Around) (target : Expr) (it : Value) (env : Env) (R : Result → Shared → Prop) (W : Shared → Prop) (s : Shared) : Prop :=
  wpAny (model prog w) A (pyNext it) (fun r s₁ => match r with
    | none => R (.ok .next) s₁
    | some v => wpAny (model prog w) A (letOwnedTupleGo target it v) (fun _ s₀ => wpAny (model prog w) A (assign target env v) (fun _ s₂ => W s₂) (noted prog w A env R) s₀) (noted prog w A env R) s₁) (noted prog w A env R) s
/-- the last clause: the element is reckoned and put in -/
def WEmit (prog : Program) (w : World) (A : Around) (elt : Expr) (acc : Value) (env : Env) (R : Result → Shared → Prop) (P : Shared → Prop) (s : Shared) : Prop :=
  wpAny (model prog w) A (eval elt env) (fun x s₄ => wpAny (model prog w) A (call (.builtin "list.append") [acc, x]) (fun _ s₅ => P s₅) (noted prog w A env R) s₄) (noted prog w A env R) s
/-- the first of two clauses: the second one's loop -/
def WInner (prog : Program) (w : World) (A : Around) (e : Expr) (iter : Expr) (acc : Value) (env : Env) (P : Shared → Prop) (s : Shared) : Prop :=
  wpAny (model prog w) A (eval iter env) (fun x s₃ => wpAny (model prog w) A (pyIter x) (fun it s₄ => codeAny (model prog w) A (.compStart e 1 it acc env) (fun r s₅ => r = .ok .next ∧ P s₅) s₄) (fun _ _ => False) s₃) (fun _ _ => False) s
theorem loop1 {elt target iter : Expr} {scope : Scope} {pos : Pos} {it acc : Value} {R : Result → Shared → Prop} (I : Nat → Shared → Prop)
    (turn : ∀ n s, I n s → TurnG prog w A target it env R (WEmit prog w A elt acc env R (fun s₅ => ∃ m, m < n ∧ I m s₅)) s)
    (n : Nat) (h : I n s) : codeAny (model prog w) A (.compLoop (.ListComp elt [⟨target, iter, [], 0⟩] scope pos) 0 it acc env) R s := kcp_loop I turn n h
theorem loop21 {elt target iter : Expr} {g : Comprehension} {scope : Scope} {pos : Pos} {it acc : Value} {R : Result → Shared → Prop} (I : Nat → Shared → Prop)
    (turn : ∀ n s, I n s → TurnG prog w A target it env R (WEmit prog w A elt acc env R (fun s₅ => ∃ m, m < n ∧ I m s₅)) s)
    (n : Nat) (h : I n s) : codeAny (model prog w) A (.compLoop (.ListComp elt [g, ⟨target, iter, [], 0⟩] scope pos) 1 it acc env) R s := by
  refine codeAny_loop rfl I (fun n s hI => ?_) n h
  show wpAny _ A ((compTurn (.ListComp elt [g, ⟨target, iter, [], 0⟩] scope pos) 1 it acc env).onRaise (fun x => do noteFrame x env; theTreesLotGoes x)) _ _ s
  refine wpAny_noted ?_
  rw [show compTurn (.ListComp elt [g, ⟨target, iter, [], 0⟩] scope pos) 1 it acc env = (do
      standAt iter.pos
      match ← pyNext it with
      | none => pure (.done .next)
      | some v =>
        letOwnedTupleGo target it v
        assign target env v
        let mut ok := true
        for c in ([] : List Expr) do
          if ok then ok ← isTrue c env (eval c env)
        if ok then
          (do let _ ← call (.builtin "list.append") [acc, ← eval elt env])
        again (.compLoop (.ListComp elt [g, ⟨target, iter, [], 0⟩] scope pos) 1 it acc env)) from rfl]
  refine wpAny_bind (wpAny_standAt (wpAny_bind (wpAny_mono (turn n s hI) (fun r s₁ h₁ => ?_) fun _ _ h' => h')))
  cases r with
  | none => exact wpAny_pure h₁
  | some v =>
    refine wpAny_bind (wpAny_mono h₁ (fun _ s₀ h₀' => ?_) fun _ _ h' => h')
    refine wpAny_bind (wpAny_mono h₀' (fun _ s₂ h₂ => ?_) fun _ _ h' => h')
    refine wpAny_bind (wpAny_tests_nil ?_)
    exact wpAny_bind (wpAny_bind (wpAny_mono h₂ (fun x s₄ h₄ => wpAny_bind (wpAny_mono h₄ (fun _ s₅ h₅ => wpAny_pure (wpAny_pure ⟨rfl, h₅⟩)) fun _ _ h' => h')) fun _ _ h' => h'))
theorem loop20 {elt target iter target2 iter2 : Expr} {scope : Scope} {pos : Pos} {it acc : Value} {R : Result → Shared → Prop} (hA : A.mark none = A) (I : Nat → Shared → Prop)
    (turn : ∀ n s, I n s → TurnG prog w A target it env R (WInner prog w A (.ListComp elt [⟨target, iter, [], 0⟩, ⟨target2, iter2, [], 0⟩] scope pos) iter2 acc env (fun s₅ => ∃ m, m < n ∧ I m s₅)) s)
    (n : Nat) (h : I n s) (hs : ∀ x, foldedSetIterable iter2 env x = pure x := by intro _; rfl) :
    codeAny (model prog w) A (.compLoop (.ListComp elt [⟨target, iter, [], 0⟩, ⟨target2, iter2, [], 0⟩] scope pos) 0 it acc env) R s := by
  refine codeAny_loop rfl I (fun n s hI => ?_) n h
  show wpAny _ A ((compTurn (.ListComp elt [⟨target, iter, [], 0⟩, ⟨target2, iter2, [], 0⟩] scope pos) 0 it acc env).onRaise (fun x => do noteFrame x env; theTreesLotGoes x)) _ _ s
  refine wpAny_noted ?_
  unfold compTurn
  refine wpAny_bind (wpAny_standAt (wpAny_bind (wpAny_mono (turn n s hI) (fun r s₁ h₁ => ?_) fun _ _ h' => h')))
  cases r with
  | none => exact wpAny_pure h₁
  | some v =>
    refine wpAny_bind (wpAny_mono h₁ (fun _ s₀ h₀' => ?_) fun _ _ h' => h')
    refine wpAny_bind (wpAny_mono h₀' (fun _ s₂ h₂ => ?_) fun _ _ h' => h')
    refine wpAny_bind (wpAny_tests_nil ?_)
    refine wpAny_bind (wpAny_mono h₂ (fun x s₃ h₃ => ?_) fun _ _ h' => h'.elim)
    refine wpAny_bind (wpAny_standAt ?_)
    refine wpAny_bind (wpAny_of_eq (hs x) ?_)
    refine wpAny_bind (wpAny_holding (wpAny_mono h₃ (fun it2 s₄ h₄ => ?_) fun _ _ h' => h'.elim))
    refine wpAny_bind (wpAny_runOwn (codeAny_mono (by rw [hA]; exact h₄) fun r s₅ h₅ => ?_))
    obtain ⟨rfl, h₅⟩ := h₅
    exact wpAny_pure ⟨rfl, h₅⟩
theorem compStart1 {elt target iter : Expr} {g : Comprehension} {scope : Scope} {pos : Pos} {it acc : Value} {R : Result → Shared → Prop}
    (h0 : codeAny (model prog w) A (.compLoop (.ListComp elt [g, ⟨target, iter, [], 0⟩] scope pos) 1 it acc env) R s)
    (h : wpAny (model prog w) A (pyIter it) (fun it' s' => codeAny (model prog w) A (.compLoop (.ListComp elt [g, ⟨target, iter, [], 0⟩] scope pos) 1 it' acc env) R s')
      (notedBy (model prog w) A env fun x s' => R (.error x) s') s) :
    codeAny (model prog w) A (.compStart (.ListComp elt [g, ⟨target, iter, [], 0⟩] scope pos) 1 it acc env) R s := by
  refine codeAny_of_tree ?_
  show wpAny _ _ ((compStart (.ListComp elt [g, ⟨target, iter, [], 0⟩] scope pos) 1 it acc env).onRaise (fun x => do noteFrame x env; standAt theWindowsPlace)) _ _ s
  refine wpAny_notedAt ?_
  unfold compStart
  show wpAny _ _ (ask >>= _) _ _ s
  refine wpAny_bind (wpAny_askSetting (wpAny_ite ?_))
  split
  · first
      | exact wpAny_bind (wpAny_pure (wpAny_pure (And.intro rfl h0)))
      | exact wpAny_pure (And.intro rfl h0)
  · first
      | exact wpAny_bind (wpAny_rule (wpAny_bind (wpAny_standAt (wpAny_bind (wpAny_mono h (fun it' s' h' => wpAny_pure (And.intro rfl h')) fun _ _ x => x)))))
      | (refine wpAny_bind (wpAny_rule ?_); show wpAny _ _ (standAt iter.pos >>= _) _ _ s; exact wpAny_bind (wpAny_standAt (wpAny_bind (wpAny_mono h (fun it' s' h' => wpAny_pure (And.intro rfl h')) fun _ _ x => x))))
/-- how a source hands out its items and a target takes them -/
structure Draw (prog : Program) (w : World) (A : Around) (target : Expr) (I : Addr) (own fp : List Addr) (n : Nat) (St : Nat → Heap → Prop) (cenv : Env) (P : Nat → (Str → Option Value) → (Str → Option Value) → Prop) : Prop where
  frame : ∀ i h h', St i h → (∀ b ∈ fp, ∀ o, h.get? b = some o → h'.get? b = some o) → St i h'
  item : ∀ i (s : Shared) (mc : Str → Option Value) (Q : Shared → Prop) (R : Result → Shared → Prop), i < n → St i s.heap → s.heap.Ns cenv.locals mc →
    (∀ h' tk mc', P i mc mc' → St (i + 1) h' → h'.Ns cenv.locals mc' → (∀ b o, b ∉ own → b ≠ cenv.locals → s.heap.get? b = some o → h'.get? b = some o) → Q { s with heap := h', toks := tk }) →
    TurnG prog w A target (.ref I) cenv R Q s
  done : ∀ (s : Shared) (Q : Shared → Prop) (R : Result → Shared → Prop), St n s.heap → (∀ h' tk, (∀ b o, b ∉ own → s.heap.get? b = some o → h'.get? b = some o) → R (.ok .next) { s with heap := h', toks := tk }) →
    TurnG prog w A target (.ref I) cenv R Q s
  self : ∀ i (s : Shared) (Q : Value → Shared → Prop) (E : Value → Shared → Prop), St i s.heap → Q (.ref I) s → wpAny (model prog w) A (pyIter (.ref I)) Q E s

/-- between two turns -/
def CSt (h₀ : Heap) (L : Addr) (m : Str → Option Value) (s : Shared) (C D : Addr) (pre : List (Addr × Obj)) (own : List Addr) (J : List Value → (Str → Option Value) → List (Addr × Obj) → Prop) (s' : Shared) : Prop :=
  ∃ h' tk oC mc ys nx, s' = { s with heap := h', toks := tk } ∧ Fr h₀ L h' m ∧ LCg.NsObj oC mc ∧ News h₀ L h' (pre ++ (C, oC) :: (D, LCg.lst ys) :: nx) ∧ (∀ p ∈ nx, p.1 ∉ own ∧ p.1 ≠ C ∧ p.1 ≠ D) ∧ J ys mc nx
theorem loop_core {target : Expr} {I C D : Addr} {own fp : List Addr} {n : Nat} {St : Nat → Heap → Prop} {cenv : Env} {P : Nat → (Str → Option Value) → (Str → Option Value) → Prop} {c : Code} {R : Result → Shared → Prop} {news : List (Addr × Obj)} {oC : Obj} {mc : Str → Option Value} {ys : List Value}
    (J : Nat → List Value → (Str → Option Value) → List (Addr × Obj) → Prop)
    (W : (Shared → Prop) → Shared → Prop) (hW : ∀ (P Q : Shared → Prop) s, (∀ s, P s → Q s) → W P s → W Q s)
    (loop : ∀ (Inv : Nat → Shared → Prop), (∀ n s, Inv n s → TurnG prog w A target (.ref I) cenv R (W (fun s₅ => ∃ m, m < n ∧ Inv m s₅)) s) → ∀ (n : Nat) (s : Shared), Inv n s → codeAny (model prog w) A c R s)
    (hd : Draw prog w A target I own fp n St cenv P) (hC : cenv.locals = C)
    (hsee : ∀ b ∈ fp, b ∉ own → ∃ o, ∀ i ys mc nx h, J i ys mc nx → Fr h₀ L h m → News h₀ L h nx → h.get? b = some o)
    (hob : ∀ i h, St i h → ∀ b ∈ own, ∃ o, h.get? b = some o)
    (hown : ∀ b ∈ own, b ≠ L ∧ b ≠ C ∧ b ≠ D ∧ h₀.get? b = none)
    (F : Fr h₀ L s.heap m) (N : News h₀ L s.heap ((C, oC) :: (D, LCg.lst ys) :: news)) (hCD : C ≠ D) (hoff : ∀ p ∈ news, p.1 ∉ own ∧ p.1 ≠ C ∧ p.1 ≠ D) (hns : LCg.NsObj oC mc) (hst : St 0 s.heap) (hJ : J 0 ys mc news)
    (turn : ∀ i ys mc mc' nx h tk oC ios, i < n → P i mc mc' → J i ys mc nx → LCg.NsObj oC mc' → Fr h₀ L h m → News h₀ L h (ios ++ (C, oC) :: (D, LCg.lst ys) :: nx) → ios.map (·.1) = own → (∀ p ∈ nx, p.1 ∉ own ∧ p.1 ≠ C ∧ p.1 ≠ D) →
      W (CSt h₀ L m s C D ios own (J (i + 1))) { s with heap := h, toks := tk })
    (done : ∀ ys mc nx h tk oC, J n ys mc nx → LCg.NsObj oC mc → Fr h₀ L h m → News h₀ L h ((C, oC) :: (D, LCg.lst ys) :: nx) → (∀ p ∈ nx, p.1 ∉ own ∧ p.1 ≠ C ∧ p.1 ≠ D) → R (.ok .next) { s with heap := h, toks := tk }) :
    codeAny (model prog w) A c R s := by
  have hCL : C ≠ L ∧ h₀.get? C = none := (N _ (.head _)).2
  refine loop (fun k s' => ∃ h' tk i oC mc ys nx, s' = { s with heap := h', toks := tk } ∧ i ≤ n ∧ k = n + 1 - i ∧ St i h' ∧ Fr h₀ L h' m ∧ LCg.NsObj oC mc ∧ News h₀ L h' ((C, oC) :: (D, LCg.lst ys) :: nx) ∧ (∀ p ∈ nx, p.1 ∉ own ∧ p.1 ≠ C ∧ p.1 ≠ D) ∧ J i ys mc nx)
    (fun k s' hk => ?_) (n + 1) s ⟨s.heap, s.toks, 0, oC, mc, ys, news, rfl, Nat.zero_le _, rfl, hst, F, hns, N, hoff, hJ⟩
  obtain ⟨h', tk, i, oC', mc', ys', nx', rfl, hi, rfl, hst', F', hns', N', off', hJ'⟩ := hk
  have keep : ∀ {h₁ : Heap}, (∀ b o, b ∉ own → b ≠ C → h'.get? b = some o → h₁.get? b = some o) → Fr h₀ L h₁ m ∧ News h₀ L h₁ ((D, LCg.lst ys') :: nx') := by
    intro h₁ hk
    refine ⟨⟨F'.ns.at' fun o e => hk _ o (fun hm => (hown _ hm).1 rfl) (Ne.symm hCL.1) e, fun b o e => hk b o (fun hm => by rw [(hown _ hm).2.2.2] at e; cases e) (fun q => by rw [q, hCL.2] at e; cases e) (F'.keep b o e), F'.above⟩, fun p hp => ?_⟩
    have z := N' p (.tail _ hp)
    refine ⟨hk _ _ ?_ ?_ z.1, z.2⟩
    · rcases List.mem_cons.mp hp with rfl | hp
      · exact fun hm => (hown _ hm).2.2.1 rfl
      · exact (off' p hp).1
    · rcases List.mem_cons.mp hp with rfl | hp
      · exact Ne.symm hCD
      · exact (off' p hp).2.1
  by_cases hlt : i < n
  · refine hd.item i _ mc' _ _ hlt hst' (by rw [hC]; exact hns'.ns (N' _ (.head _)).1) fun h₁ tk₁ mc₁ hP hst₁ hn₁ hk₁ => ?_
    rw [hC] at hn₁ hk₁
    obtain ⟨F₁, N₁⟩ := keep hk₁
    obtain ⟨oC₁, heC, hnC⟩ := LCg.ns_obj hn₁
    have key : ∀ l : List Addr, (∀ b ∈ l, b ∈ own) → ∃ ios : List (Addr × Obj), ios.map (·.1) = l ∧ ∀ p ∈ ios, h₁.get? p.1 = some p.2 := by
      intro l
      induction l with
      | nil => intro _; exact ⟨[], rfl, fun p hp => nomatch hp⟩
      | cons b l ih =>
        intro hl
        obtain ⟨ios, e, hi⟩ := ih fun b hb => hl b (.tail _ hb)
        obtain ⟨o, ho⟩ := hob _ _ hst₁ b (hl b (.head _))
        exact ⟨(b, o) :: ios, by simp [e], List.forall_mem_cons.mpr ⟨ho, hi⟩⟩
    obtain ⟨ios, hio, hios⟩ := key own fun _ h => h
    have hmem : ∀ p ∈ ios, p.1 ∈ own := fun p hp => by rw [← hio]; exact List.mem_map_of_mem hp
    have N₂ : News h₀ L h₁ (ios ++ (C, oC₁) :: (D, LCg.lst ys') :: nx') := by
      intro p hp
      rcases List.mem_append.mp hp with hp | hp
      · exact ⟨hios p hp, (hown _ (hmem p hp)).1, (hown _ (hmem p hp)).2.2.2⟩
      · rcases List.mem_cons.mp hp with rfl | hp
        · exact ⟨heC, hCL⟩
        · exact N₁ p hp
    refine hW _ _ _ (fun s₅ h₅ => ?_) (turn i ys' mc' mc₁ nx' h₁ tk₁ oC₁ ios hlt hP hJ' hnC F₁ N₂ hio off')
    obtain ⟨h₂, tk₂, oC₂, mc₂, ys₂, nx₂, rfl, F₂, hns₂, N₃, off₂, hJ₂⟩ := h₅
    refine ⟨n + 1 - (i + 1), by lia, h₂, tk₂, i + 1, oC₂, mc₂, ys₂, nx₂, rfl, hlt, rfl, ?_, F₂, hns₂, fun p hp => N₃ p (List.mem_append_right _ hp), off₂, hJ₂⟩
    refine hd.frame _ _ _ hst₁ fun b hb o e => ?_
    by_cases hbo : b ∈ own
    · rw [← hio] at hbo
      obtain ⟨p, hp, rfl⟩ := List.mem_map.mp hbo
      rw [hios p hp] at e
      cases e
      exact (N₃ p (List.mem_append_left _ hp)).1
    · obtain ⟨o', ho'⟩ := hsee b hb hbo
      have e1 := ho' i ys' mc' nx' h₁ hJ' F₁ (fun p hp => N₁ p (.tail _ hp))
      rw [e1] at e
      cases e
      exact ho' (i + 1) ys₂ mc₂ nx₂ h₂ hJ₂ F₂ fun p hp => N₃ p (List.mem_append_right _ (.tail _ (.tail _ hp)))
  · have hin : i = n := by lia
    subst hin
    refine hd.done _ _ _ hst' fun h₁ tk₁ hk₁ => ?_
    obtain ⟨F₁, N₁⟩ := keep fun b o hb _ e => hk₁ b o hb e
    refine done ys' mc' nx' h₁ tk₁ oC' hJ' hns' F₁ (fun p hp => ?_) off'
    rcases List.mem_cons.mp hp with rfl | hp
    · exact ⟨hk₁ _ _ (fun hm => (hown _ hm).2.1 rfl) (N' _ (.head _)).1, hCL⟩
    · exact N₁ p hp
theorem WEmit.mono {elt : Expr} {acc : Value} {R : Result → Shared → Prop} (P Q : Shared → Prop) (s : Shared) (h : ∀ s, P s → Q s) (x : WEmit prog w A elt acc env R P s) : WEmit prog w A elt acc env R Q s :=
  wpAny_mono x (fun _ _ y => wpAny_mono y (fun _ _ z => h _ z) fun _ _ e => e) fun _ _ e => e
theorem WInner.mono {e iter : Expr} {acc : Value} (P Q : Shared → Prop) (s : Shared) (h : ∀ s, P s → Q s) (x : WInner prog w A e iter acc env P s) : WInner prog w A e iter acc env Q s :=
  wpAny_mono x (fun _ _ y => wpAny_mono y (fun _ _ z => codeAny_mono z fun _ _ u => ⟨u.1, h _ u.2⟩) fun _ _ e => e) fun _ _ e => e
/-- the element, reckoned, is put in -/
theorem emit37 {elt : Expr} {C D : Addr} {cenv : Env} {R : Result → Shared → Prop} {ios : List (Addr × Obj)} {own : List Addr} {J : List Value → (Str → Option Value) → List (Addr × Obj) → Prop} {s₀ : Shared} {mc : Str → Option Value} {ys : List Value} {oC : Obj}
    (hsz : ys.length ≤ 1000) (hown : ∀ b ∈ own, b ≠ D) (hio : ios.map (·.1) = own) (hCD : C ≠ D) (hns : LCg.NsObj oC mc)
    (h : ∀ E', wpAny (model prog w) A (eval elt cenv) (fun y s₂ => ∃ h' tk nx, s₂ = { s₀ with heap := h', toks := tk } ∧ Fr h₀ L h' m ∧ News h₀ L h' (ios ++ (C, oC) :: (D, LCg.lst ys) :: nx) ∧ (∀ p ∈ nx, p.1 ∉ own ∧ p.1 ≠ C ∧ p.1 ≠ D) ∧ J (ys ++ [y]) mc nx) E' s) :
    WEmit prog w A elt (.ref D) cenv R (CSt h₀ L m s₀ C D ios own J) s := by
  refine wpAny_mono (h _) (fun y s₂ h₂ => ?_) fun _ _ e => e
  obtain ⟨h', tk, nx, rfl, F', N', off', hJ⟩ := h₂
  have hD := N' (D, LCg.lst ys) (List.mem_append_right _ (.tail _ (.head _)))
  refine append_at (hsz := by show ys.toArray.size ≤ sizeLine; rw [List.size_toArray, sizeLine_eq]; lia) hD.1 fun h₆ hs₆ hD₆ => ?_
  have hi : ∀ p ∈ ios, p.1 ≠ D := fun p hp => hown _ (by rw [← hio]; exact List.mem_map_of_mem hp)
  refine ⟨h₆, tk, oC, mc, ys ++ [y], nx, rfl, F'.change hs₆ hD.2.1 hD.2.2, hns, fun p hp => ?_, off', hJ⟩
  have up : ∀ q : Addr × Obj, q.1 ≠ D → q ∈ ios ++ (C, oC) :: (D, LCg.lst ys) :: nx → h₆.get? q.1 = some q.2 ∧ q.1 ≠ L ∧ h₀.get? q.1 = none := fun q hq hm => ⟨hs₆.extBut _ _ hq (N' q hm).1, (N' q hm).2⟩
  rcases List.mem_append.mp hp with hp | hp
  · exact up p (hi p hp) (List.mem_append_left _ hp)
  · rcases List.mem_cons.mp hp with rfl | hp
    · exact up _ hCD (List.mem_append_right _ (.head _))
    · rcases List.mem_cons.mp hp with rfl | hp
      · exact ⟨hD₆.trans (congrArg some (LCg.lst_snoc ys y)), hD.2⟩
      · exact up p (off' p hp).2.2 (List.mem_append_right _ (.tail _ (.tail _ hp)))
end
-- W6b
section
variable {prog : Program} {w : World} {A : Around} {E : Value → Shared → Prop} {s : Shared} {h₀ : Heap} {L : Addr} {m : Str → Option Value} {env : Env}
def put1 (x : Str) (v : Value) (mc : Str → Option Value) : Str → Option Value := fun z => if z = x then some v else mc z
def put2 (a b : Str) (x y : Value) (mc : Str → Option Value) : Str → Option Value := fun z => if z = b then some y else if z = a then some x else mc z
theorem draw_name {I l : Addr} {x : Str} {p : Pos} {cenv : Env} {items : Array Value} (hh : A.handled = none) (hne : l ≠ I) (hIC : I ≠ cenv.locals) (hx : cenv.kindOf x = some .local) (hp : (cenv.scope.kind == .class || (cenv.scope.kind == .module && cenv.locals != cenv.globals)) = false) (hlC : l ≠ cenv.locals) :
    Draw prog w A (.Name x p) I [I] [I, l] items.size (fun i h => h.IsListIter I l i ∧ h.IsList l items) cenv (fun i mc mc' => ∃ v, items[i]? = some v ∧ mc' = put1 x v mc) where
  frame := (Walks.list (prog := prog) (w := w) hh I l hne items).frame
  self := (Walks.list (prog := prog) (w := w) hh I l hne items).self
  done := fun s Q R st h => (Walks.list (prog := prog) (w := w) hh I l hne items).done s _ _ st fun h' tk hk => h h' tk hk
  item := fun i s mc Q R hi st hn h => by
    refine (Walks.list (prog := prog) (w := w) hh I l hne items).item i s _ _ hi st fun v h' tk hP st' hk => ?_
    refine wpAny_pure ?_
    refine wpAny_assign_Name (wpAny_storeName_local hx (hn.at' fun o e => hk _ o (by simpa using Ne.symm hIC) e) (fun h₃ hn₃ hs₃ => ?_) hp)
    refine h h₃ _ _ ⟨v, hP, rfl⟩ ?_ hn₃ fun b o hb hc e => hs₃.extBut b o hc (hk b o (by simpa using hb) e)
    exact (Walks.list (prog := prog) (w := w) hh I l hne items).frame _ _ _ st' fun b hb o e => hs₃.extBut b o (by
      simp only [List.mem_cons, List.not_mem_nil, or_false] at hb
      rcases hb with rfl | rfl
      · exact hIC
      · exact hlC) e
theorem draw_pair {I l : Addr} {a b : Str} {pa pb tp : Pos} {kk : Nat} {cenv : Env} {tups : List (Addr × Value × Value)} (hh : A.handled = none) (hne : l ≠ I) (hIC : I ≠ cenv.locals) (ha : cenv.kindOf a = some .local) (hb : cenv.kindOf b = some .local)
    (hp : (cenv.scope.kind == .class || (cenv.scope.kind == .module && cenv.locals != cenv.globals)) = false) (hlC : l ≠ cenv.locals) (hTI : ∀ t ∈ tups, t.1 ≠ I) (hTC : ∀ t ∈ tups, t.1 ≠ cenv.locals) :
    Draw prog w A (.Tuple [.Name a pa, .Name b pb] kk tp) I [I] (I :: l :: tups.map (·.1)) tups.length (fun i h => h.IsListIter I l i ∧ h.IsList l (tups.map fun t => Value.ref t.1).toArray ∧ ∀ t ∈ tups, h.IsTuple t.1 #[t.2.1, t.2.2]) cenv
      (fun i mc mc' => ∃ t, tups[i]? = some t ∧ mc' = put2 a b t.2.1 t.2.2 mc) := by
  have hsz : (tups.map fun t => Value.ref t.1).toArray.size = tups.length := by simp
  have W := Walks.list (prog := prog) (w := w) hh I l hne (tups.map fun t => Value.ref t.1).toArray
  rw [hsz] at W
  have keepT : ∀ {h h' : Heap}, (∀ c o, c ≠ I → c ≠ cenv.locals → h.get? c = some o → h'.get? c = some o) → (∀ t ∈ tups, h.IsTuple t.1 #[t.2.1, t.2.2]) → ∀ t ∈ tups, h'.IsTuple t.1 #[t.2.1, t.2.2] := by
    intro h h' hk hT t ht
    obtain ⟨o, ho, r⟩ := hT t ht
    exact ⟨o, hk _ _ (hTI t ht) (hTC t ht) ho, r⟩
  refine { frame := ?_, item := ?_, done := ?_, self := ?_ }
  · rintro i h h' ⟨s1, s2, s3⟩ hk
    refine ⟨s1.at fun o e => hk _ (.head _) o e, s2.at fun o e => hk _ (.tail _ (.head _)) o e, fun t ht => ?_⟩
    obtain ⟨o, ho, r⟩ := s3 t ht
    exact ⟨o, hk _ (.tail _ (.tail _ (List.mem_map_of_mem ht))) _ ho, r⟩
  · rintro i s mc Q R hi ⟨s1, s2, s3⟩ hn h
    refine W.item i s _ _ hi ⟨s1, s2⟩ fun v h' tk hP st' hk => ?_
    have hti : tups[i]? = some tups[i] := List.getElem?_eq_getElem hi
    have hv : v = .ref tups[i].1 := by
      have hP' : (tups.map fun t => Value.ref t.1)[i]? = some v := by simpa using hP
      rw [List.getElem?_map, hti] at hP'
      exact (Option.some.inj hP').symm
    subst hv
    have hk' : ∀ c o, c ≠ I → s.heap.get? c = some o → h'.get? c = some o := fun c o hc e => hk c o (by simpa using hc) e
    have hT' := keepT (h' := h') (fun c o hc _ e => hk' c o hc e) s3
    refine wpAny_letOwnedTupleGo_listiter st'.1 ?_
    refine kcp_assign hh (hT' _ (List.getElem_mem hi)) ha hb hp (hn.at' fun o e => hk' _ o (Ne.symm hIC) e) fun h₃ tk₃ hn₃ hs₃ => ?_
    refine h h₃ _ _ ⟨_, hti, rfl⟩ ⟨?_, ?_, ?_⟩ hn₃ fun c o hc hc' e => hs₃ c o hc' (hk' c o (by simpa using hc) e)
    · exact st'.1.at fun o e => hs₃ _ o hIC e
    · exact st'.2.at fun o e => hs₃ _ o hlC e
    · exact keepT (fun c o _ hc e => hs₃ c o hc e) hT'
  · rintro s Q R ⟨s1, s2, s3⟩ h
    exact W.done s _ _ ⟨s1, s2⟩ fun h' tk hk => h h' tk hk
  · rintro i s Q E ⟨s1, s2, s3⟩ h
    exact W.self i s Q E ⟨s1, s2⟩ h
theorem draw_enum {e it l : Addr} {a b : Str} {pa pb tp : Pos} {kk : Nat} {cenv : Env} {items : Array Value} (hh : A.handled = none) (hei : e ≠ it) (hle : l ≠ e) (hli : l ≠ it) (heC : e ≠ cenv.locals) (hiC : it ≠ cenv.locals) (hlC : l ≠ cenv.locals) (ha : cenv.kindOf a = some .local) (hb : cenv.kindOf b = some .local)
    (hp : (cenv.scope.kind == .class || (cenv.scope.kind == .module && cenv.locals != cenv.globals)) = false) :
    Draw prog w A (.Tuple [.Name a pa, .Name b pb] kk tp) e [e, it] [e, it, l] items.size (fun i h => (∃ old, IsEnum h e it i old) ∧ h.IsListIter it l i ∧ h.IsList l items) cenv
      (fun i mc mc' => ∃ t x, items[i]? = some x ∧ mc' = put2 a b (.int i t) x mc) := by
  have W := WalksT.enumerate (prog := prog) (w := w) hh e it l hei hle hli items
  refine { frame := W.frame, item := ?_, done := ?_, self := W.self }
  · rintro i s mc Q R hi st hn h
    refine W.item i s _ _ hi st fun T vals h' tk hP _ hT hM hk => ?_
    obtain ⟨t, x, hx, rfl⟩ := hP
    have hC : cenv.locals ∉ [e, it] := by
      simp only [List.mem_cons, List.not_mem_nil, or_false, not_or]
      exact ⟨Ne.symm heC, Ne.symm hiC⟩
    refine W.go _ _ _ i T _ _ _ hM fun h₂ st₂ hk₂ => ?_
    have hT₂ : h₂.IsTuple T #[.int i t, x] := by
      obtain ⟨o, ho, r⟩ := hT
      exact ⟨o, hk₂ _ _ (W.apart i T h' hM) ho, r⟩
    refine kcp_assign hh hT₂ ha hb hp (hn.at' fun o q => hk₂ _ o hC (hk _ o hC q)) fun h₃ tk₃ hn₃ hs₃ => ?_
    refine h h₃ _ _ ⟨t, x, hx, rfl⟩ (W.frame _ _ _ st₂ fun c hc o q => hs₃ c o ?_ q) hn₃ fun c o hc hc' q => hs₃ c o hc' (hk₂ c o hc (hk c o hc q))
    simp only [List.mem_cons, List.not_mem_nil, or_false] at hc
    rcases hc with rfl | rfl | rfl
    · exact heC
    · exact hiC
    · exact hlC
  · exact fun s Q R st h => W.done s _ _ st fun h' tk hk => h h' tk hk
open LCg in
def CDone (h₀ : Heap) (L : Addr) (m : Str → Option Value) (s₂ : Shared) (C D : Addr) (Q : Value → Shared → Prop) (r : Result) (s' : Shared) : Prop :=
  r = .ok .next ∧ ∃ h tk oC mc ys nx, s' = { s₂ with heap := h, toks := tk } ∧ Fr h₀ L h m ∧ NsObj oC mc ∧ News h₀ L h ((C, oC) :: (D, LCg.lst ys) :: nx) ∧ (∀ p ∈ nx, p.1 ≠ C ∧ p.1 ≠ D) ∧ FinE h₀ L m s₂ Q ys nx
theorem off1_of {D : Addr} : ∀ {l : List (Addr × Obj)}, (∀ p ∈ l, p.1 ≠ D) → LCg.Off1 D l
  | [], _ => trivial
  | _ :: _, h => ⟨h _ (.head _), off1_of fun p hp => h p (.tail _ hp)⟩
open LCg in
/-- a comprehension is entered: its list and its block stand -/
theorem comp_enter {elt target iter : Expr} {ifs : List Expr} {gs : List Comprehension} {scope : Scope} {cl : List (Str × Addr)} {pos : Pos} {Q : Value → Shared → Prop} (F₀ : Fr h₀ L s.heap m)
    (hclos : closureFor scope env = pure cl) (hcell : ∀ y ∈ scope.names, y.2 ≠ .cell) (hkind : scope.kind = .function) (hnames : ∀ y ∈ scope.names, y.2 = .local → scope.names.lookup y.1 = some .local)
    (h : wpAny (model prog w) A (eval iter env) (fun x s₁ => wpAny (model prog w) A (pyIter x) (fun it s₂ => ∃ nx, Fr h₀ L s₂.heap m ∧ News h₀ L s₂.heap nx ∧
      ∀ (C D : Addr) oC h' tk, NsObj oC (fun _ => none) → Fr h₀ L h' m → News h₀ L h' ((C, oC) :: (D, LCg.lst []) :: nx) → (∀ p ∈ nx, p.1 ≠ C ∧ p.1 ≠ D) → C ≠ D → s₂.heap.objs.size ≤ C → s₂.heap.objs.size ≤ D → (∀ b o, s₂.heap.get? b = some o → h'.get? b = some o) →
        codeAny (model prog w) A (.compStart (.ListComp elt (⟨target, iter, ifs, 0⟩ :: gs) scope pos) 0 it (.ref D) (compEnvC scope cl C env)) (CDone h₀ L m s₂ C D Q) { s₂ with heap := h', toks := tk }) E s₁) E s)
    (hs : ∀ x, foldedSetIterable iter env x = pure x := by intro _; rfl) :
    wpAny (model prog w) A (eval (.ListComp elt (⟨target, iter, ifs, 0⟩ :: gs) scope pos) env) Q E s := by
  rw [eval_ListComp]
  refine wpAny_comprehension_free (use := none) rfl hs hclos hkind hnames (wpAny_mono h (fun xv s₁ h₁ => wpAny_mono h₁ (fun it s₂ h₂ => ?_) fun _ _ e => e) fun _ _ e => e)
  obtain ⟨nx, F, N, hgo⟩ := h₂
  refine wpAny_newObj_type (wpAny_newFunctionEnv hcell (by intro y hy; simp at hy) (fun h₁ hns₁ hsb₁ => ?_) hkind)
  dsimp only at hns₁ hsb₁ ⊢
  generalize hH2 : s₂.heap.push { cls := .type "list", dict := none, data := .seq ([] : List Value).toArray } = H2 at hns₁ hsb₁ ⊢
  have hC : H2.objs.size = s₂.heap.objs.size + 1 := by rw [← hH2, Heap.size_push]
  have hDC : s₂.heap.objs.size ≠ H2.objs.size := by rw [hC]; exact Nat.ne_of_lt (Nat.lt_succ_self _)
  have below : ∀ b, b < s₂.heap.objs.size → b ≠ H2.objs.size ∧ b ≠ s₂.heap.objs.size := fun b hb => ⟨by rw [hC]; exact Nat.ne_of_lt (Nat.lt_succ_of_lt hb), Nat.ne_of_lt hb⟩
  have old : ∀ b o, s₂.heap.get? b = some o → h₁.get? b = some o := fun b o e => hsb₁.extBut b o (below b (Heap.lt_size e)).1 (Heap.get?_push_of_some _ (hH2 ▸ Heap.get?_push_of_some _ e))
  have hacc : h₁.get? s₂.heap.objs.size = some (LCg.lst []) := hsb₁.extBut _ _ hDC (Heap.get?_push_of_some _ (hH2 ▸ Heap.get?_push_size _ rfl))
  have fresh₀ : ∀ a, s₂.heap.objs.size ≤ a → h₀.get? a = none := fun a ha => by
    cases e : h₀.get? a with
    | none => rfl
    | some o' => exact absurd (Heap.lt_size (F.keep a o' e)) (Nat.not_lt.mpr ha)
  have hLlt : L < s₂.heap.objs.size := F.ns.lt
  obtain ⟨oC, heC, hnC⟩ := ns_obj hns₁
  have hg := hgo H2.objs.size s₂.heap.objs.size oC h₁ (s₂.toks + ([] : List (Str × Value)).length) (by simpa using hnC) (F.keeps old) (List.forall_mem_cons.mpr ⟨⟨heC, Ne.symm (below L hLlt).1, fresh₀ _ (by rw [hC]; exact Nat.le_succ _)⟩, List.forall_mem_cons.mpr ⟨⟨hacc, Ne.symm (below L hLlt).2, fresh₀ _ (Nat.le_refl _)⟩, N.grown old⟩⟩)
    (fun p hp => below _ (Heap.lt_size (N p hp).1)) (Ne.symm hDC) (by rw [hC]; exact Nat.le_succ _) (Nat.le_refl _) old
  refine codeAny_mono hg fun r s' hr => ?_
  obtain ⟨rfl, h₂, tk₂, oC₂, mc₂, ys, nx₂, rfl, F₂, hn₂, N₂, off₂, fin⟩ := hr
  refine ⟨mc₂, hn₂.ns (N₂ _ (.head _)).1, fun h'' hs'' => fin _ h'' tk₂ (F₂.change hs'' (N₂ _ (.head _)).2.1 (N₂ _ (.head _)).2.2) (fun p hp => ?_) (off1_of fun p hp => (off₂ p hp).2)⟩
  refine ⟨hs''.extBut _ _ ?_ (N₂ p (.tail _ hp)).1, (N₂ p (.tail _ hp)).2⟩
  rcases List.mem_cons.mp hp with rfl | hp
  · exact hDC
  · exact (off₂ p hp).1
end
-- W6c
section
variable {prog : Program} {w : World} {A : Around} {E : Value → Shared → Prop} {s : Shared} {h₀ : Heap} {L : Addr} {m : Str → Option Value} {env : Env}
/-- where an element of a comprehension is reckoned -/
def TurnEnd (h₀ : Heap) (L : Addr) (m : Str → Option Value) (s : Shared) (ios : List (Addr × Obj)) (C : Addr) (oC : Obj) (D : Addr) (ys : List Value) (J : List Value → List (Addr × Obj) → Prop) (y : Value) (s₂ : Shared) : Prop :=
  ∃ h' tk nx, s₂ = { s with heap := h', toks := tk } ∧ Fr h₀ L h' m ∧ News h₀ L h' (ios ++ (C, oC) :: (D, LCg.lst ys) :: nx) ∧ (∀ p ∈ nx, p.1 ∉ ios.map (·.1) ∧ p.1 ≠ C ∧ p.1 ≠ D) ∧ J (ys ++ [y]) nx
theorem stopTE {s s₂ : Shared} {ios : List (Addr × Obj)} {C : Addr} {oC : Obj} {D : Addr} {ys : List Value} {J : List Value → List (Addr × Obj) → Prop} {y : Value} (h : TurnEnd h₀ L m s ios C oC D ys J y s₂) : TurnEnd h₀ L m s ios C oC D ys J y s₂ := h
theorem TurnEnd.intro {s : Shared} {ios : List (Addr × Obj)} {C : Addr} {oC : Obj} {D : Addr} {ys : List Value} {J : List Value → List (Addr × Obj) → Prop} {y : Value} {h' : Heap} {tk : Nat} {all : List (Addr × Obj)} (F : Fr h₀ L h' m) (N : News h₀ L h' all) (nx : List (Addr × Obj))
    (sub : ∀ p ∈ ios ++ (C, oC) :: (D, LCg.lst ys) :: nx, p ∈ all) (off : ∀ p ∈ nx, p.1 ∉ ios.map (·.1) ∧ p.1 ≠ C ∧ p.1 ≠ D) (hJ : J (ys ++ [y]) nx) : TurnEnd h₀ L m s ios C oC D ys J y { s with heap := h', toks := tk } :=
  ⟨h', tk, nx, rfl, F, fun p hp => N p (sub p hp), off, hJ⟩
theorem enum_core {elt iter : Expr} {a b : Str} {pa pb tp : Pos} {kk : Nat} {scope : Scope} {cl : List (Str × Addr)} {pos : Pos} {Q : Value → Shared → Prop} {l : Addr} {items : List Value} {ln : Nat} {nx : List (Addr × Obj)}
    (J : Nat → List Value → List (Addr × Obj) → Prop) (hh : A.handled = none) (hkind : scope.kind = .function) (hxa : scope.names.lookup a = some .local) (hxb : scope.names.lookup b = some .local) (hab : a ≠ b)
    (F : Fr h₀ L s.heap m) (N : News h₀ L s.heap nx) (hm : (l, listOf items.toArray ln) ∈ nx) (hJ : J 0 [] nx) (hsee : ∀ i ys nx, J i ys nx → (l, listOf items.toArray ln) ∈ nx) (hlen : ∀ i ys nx, J i ys nx → ys.length ≤ 1000)
    (turn : ∀ i ys mc nx h tk (C : Addr) oC (D e it : Addr) oe oi t x E', items[i]? = some x → mc a = some (.int (i : Int) t) → mc b = some x → J i ys nx → LCg.NsObj oC mc → Fr h₀ L h m → News h₀ L h ((e, oe) :: (it, oi) :: (C, oC) :: (D, LCg.lst ys) :: nx) →
      (∀ p ∈ nx, p.1 ∉ [e, it] ∧ p.1 ≠ C ∧ p.1 ≠ D) → ((@Ne Nat e it) ∧ (@Ne Nat e C) ∧ (@Ne Nat e D) ∧ (@Ne Nat it C) ∧ (@Ne Nat it D) ∧ (@Ne Nat C D)) →
      wpAny (model prog w) A (eval elt (compEnvC scope cl C env)) (TurnEnd h₀ L m s [(e, oe), (it, oi)] C oC D ys (fun ys' nx' => J (i + 1) ys' nx')) E' { s with heap := h, toks := tk })
    (fin : ∀ ys nx s₂ D h tk, J items.length ys nx → (∃ h tk, s₂ = { s with heap := h, toks := tk }) → Fr h₀ L h m → News h₀ L h ((D, LCg.lst ys) :: nx) → (∀ p ∈ nx, p.1 ≠ D) → Q (.ref D) { s₂ with heap := h, toks := tk }) :
    wpAny (model prog w) A (call (.type "enumerate") [.ref l]) (fun x s₁ => wpAny (model prog w) A (pyIter x) (fun it s₂ => ∃ nx, Fr h₀ L s₂.heap m ∧ News h₀ L s₂.heap nx ∧
      ∀ (C D : Addr) oC h' tk, LCg.NsObj oC (fun _ => none) → Fr h₀ L h' m → News h₀ L h' ((C, oC) :: (D, LCg.lst []) :: nx) → (∀ p ∈ nx, p.1 ≠ C ∧ p.1 ≠ D) → C ≠ D → s₂.heap.objs.size ≤ C → s₂.heap.objs.size ≤ D → (∀ b o, s₂.heap.get? b = some o → h'.get? b = some o) →
        codeAny (model prog w) A (.compStart (.ListComp elt [⟨.Tuple [.Name a pa, .Name b pb] kk tp, iter, [], 0⟩] scope pos) 0 it (.ref D) (compEnvC scope cl C env)) (CDone h₀ L m s₂ C D Q) { s₂ with heap := h', toks := tk }) E s₁) E s := by
  have hax := N _ hm
  have hl : s.heap.IsList l items.toArray := ⟨_, hax.1, rfl, _, rfl⟩
  have hlt : l < s.heap.objs.size := Heap.lt_size hax.1
  have hLs : L < s.heap.objs.size := F.ns.lt
  refine call_enumerate_list hl fun h₁ hE hI hsz hk => ?_
  refine wpAny_pyIter_enum hE ?_
  refine ⟨nx, F.keeps hk, N.grown hk, ?_⟩
  intro C D oC h' tk hns F' N' off hCD hC hD hk'
  dsimp only at hC hD hk'
  rw [hsz] at hC hD
  generalize hIt : s.heap.objs.size = It at *
  have f0 : ∀ b : Nat, @LE.le Nat _ It b → h₀.get? b = none := fun b hb => by
    rw [← hIt] at hb
    cases e : h₀.get? b with
    | none => rfl
    | some o => exact absurd (Heap.lt_size (F.keep _ _ e)) (Nat.not_lt.mpr hb)
  have hLt : @LT.lt Nat _ L It := hLs
  have nlt : ∀ p ∈ nx, p.1 < It := fun p hp => hIt ▸ Heap.lt_size (N p hp).1
  have eqC : (compEnvC scope cl C env).locals = C := rfl
  have e1 : @Ne Nat (It + 1) C := by lia
  have e2 : @Ne Nat (It + 1) D := by lia
  have e3 : @Ne Nat It C := by lia
  have e4 : @Ne Nat It D := by lia
  have dr := draw_enum (prog := prog) (w := w) (A := A) (e := It + 1) (it := It) (l := l) (a := a) (b := b) (pa := pa) (pb := pb) (tp := tp) (kk := kk) (cenv := compEnvC scope cl C env) (items := items.toArray) hh (Nat.succ_ne_self _) (Nat.ne_of_lt (Nat.lt_succ_of_lt hlt)) (Nat.ne_of_lt hlt) e1 e3
    (by rw [eqC]; exact Nat.ne_of_lt (Nat.lt_of_lt_of_le (Nat.lt_succ_of_lt (Nat.lt_succ_of_lt hlt)) hC)) (lookup_relabel_local hxa) (lookup_relabel_local hxb) (by simp [compEnvC, relabel, hkind])
  have hst0 : (∃ old, IsEnum h' (It + 1) It (0 : Nat) old) ∧ h'.IsListIter It l 0 ∧ h'.IsList l items.toArray := by
    refine ⟨⟨_, hk' _ _ hE⟩, hI.at fun o q => hk' _ o q, ⟨_, (N' _ (.tail _ (.tail _ hm))).1, rfl, _, rfl⟩⟩
  have go : codeAny (model prog w) A (.compLoop (.ListComp elt [⟨.Tuple [.Name a pa, .Name b pb] kk tp, iter, [], 0⟩] scope pos) 0 (.ref (It + 1)) (.ref D) (compEnvC scope cl C env)) (CDone h₀ L m { s with heap := h₁ } C D Q) { s with heap := h', toks := tk } := by
    refine loop_core (C := C) (D := D) (fun i ys mc nx => J i ys nx) (WEmit prog w A elt (.ref D) (compEnvC scope cl C env) (CDone h₀ L m { s with heap := h₁ } C D Q)) (fun P Q' s h x => WEmit.mono P Q' s h x) (fun Inv tn n s hi => loop1 Inv tn n hi) dr rfl ?_ ?_ ?_ F' N' hCD ?_ hns hst0 hJ ?_ ?_
    · intro b hb hbo
      simp only [List.mem_cons, List.not_mem_nil, or_false, not_or] at hb hbo
      rcases hb with rfl | rfl | rfl
      · exact absurd rfl hbo.1
      · exact absurd rfl hbo.2
      · exact ⟨_, fun i ys mc nx h hj _ N => (N _ (hsee _ _ _ hj)).1⟩
    · rintro i h ⟨⟨old, he⟩, ⟨oi, hoi, _⟩, _⟩ b hb
      simp only [List.mem_cons, List.not_mem_nil, or_false] at hb
      rcases hb with rfl | rfl
      · exact ⟨_, he⟩
      · exact ⟨_, hoi⟩
    · intro b hb
      simp only [List.mem_cons, List.not_mem_nil, or_false] at hb
      rcases hb with rfl | rfl
      · exact ⟨Nat.ne_of_gt (Nat.lt_succ_of_lt hLt), e1, e2, f0 _ (Nat.le_succ _)⟩
      · exact ⟨Nat.ne_of_gt hLt, e3, e4, f0 _ (Nat.le_refl _)⟩
    · intro p hp
      refine ⟨?_, off p hp⟩
      have := nlt p hp
      simp only [List.mem_cons, List.not_mem_nil, or_false, not_or]
      exact ⟨Nat.ne_of_lt (Nat.lt_succ_of_lt this), Nat.ne_of_lt this⟩
    · intro i ys mc mc' nx₂ h₂ tk₂ oC₂ ios hi hP hj hns₂ F₂ N₂ hio off₂
      obtain ⟨t, x, hx, rfl⟩ := hP
      obtain ⟨oe, oi, rfl⟩ : ∃ oe oi, ios = [(It + 1, oe), (It, oi)] := by
        rcases ios with _ | ⟨⟨_, oe⟩, _ | ⟨⟨_, oi⟩, _ | ⟨_, _⟩⟩⟩ <;> simp at hio
        obtain ⟨rfl, rfl⟩ := hio
        exact ⟨_, _, rfl⟩
      refine emit37 (hlen _ _ _ hj) (fun b hb => ?_) hio hCD hns₂ fun E' => ?_
      · simp only [List.mem_cons, List.not_mem_nil, or_false] at hb
        rcases hb with rfl | rfl
        · exact e2
        · exact e4
      · exact turn i ys _ nx₂ h₂ tk₂ C oC₂ D (It + 1) It oe oi t x E' (by simpa using hx) (by simp [put2, hab]) (by simp [put2]) hj hns₂ F₂ N₂ off₂ ⟨Nat.succ_ne_self _, e1, e2, e3, e4, hCD⟩
    · intro ys mc nx₂ h₂ tk₂ oC₂ hj hns₂ F₂ N₂ off₂
      refine ⟨rfl, h₂, tk₂, oC₂, mc, ys, nx₂, rfl, F₂, hns₂, N₂, fun p hp => (off₂ p hp).2, ?_⟩
      intro D' h tk F N o1
      have o1' : ∀ p ∈ nx₂, p.1 ≠ D' := by
        clear N N₂ hj off₂
        induction nx₂ with
        | nil => intro p hp; cases hp
        | cons q r ih =>
          intro p hp
          rcases List.mem_cons.mp hp with rfl | hp
          · exact o1.1
          · exact ih o1.2 p hp
      exact fin ys nx₂ _ D' h tk (by simpa using hj) ⟨h₁, s.toks, rfl⟩ F N o1'
  exact codeAny_compStart_list go (dr.self 0 _ _ _ hst0 go)
end
-- W6d
section
variable {prog : Program} {w : World} {A : Around} {E : Value → Shared → Prop} {s : Shared} {h₀ : Heap} {L : Addr} {m : Str → Option Value} {env : Env}
theorem comp2_core {elt iter0 iter1 : Expr} {a b c : Str} {pa pb pc tp : Pos} {kk : Nat} {scope : Scope} {cl : List (Str × Addr)} {pos : Pos} {Q : Value → Shared → Prop} {l0 l1 : Addr} {tups : List (Addr × Value × Value)} {n0 n1 : Nat} {items1 : List Value} {nx : List (Addr × Obj)}
    (J : Nat → Nat → List Value → List (Addr × Obj) → Prop) (hh : A.handled = none) (hmk : A.mark none = A) (hkind : scope.kind = .function) (hxa : scope.names.lookup a = some .local) (hxb : scope.names.lookup b = some .local) (hxc : scope.names.lookup c = some .local) (hab : a ≠ b) (hac : a ≠ c) (hbc : b ≠ c)
    (F : Fr h₀ L s.heap m) (N : News h₀ L s.heap nx) (hJ : J 0 0 [] nx) (hstep : ∀ i ys nx, J i items1.length ys nx → J (i + 1) 0 ys nx)
    (hsee : ∀ i j ys nx, J i j ys nx → (l0, listOf (tups.map fun t => Value.ref t.1).toArray n0) ∈ nx ∧ (∀ t ∈ tups, (t.1, tupL [t.2.1, t.2.2]) ∈ nx) ∧ (l1, listOf items1.toArray n1) ∈ nx) (hlen : ∀ i j ys nx, J i j ys nx → ys.length ≤ 1000)
    (hiter : ∀ (s' : Shared) (Q : Value → Shared → Prop) i ys nx mc (C : Addr) oC (D I : Addr) oI, J i 0 ys nx → LCg.NsObj oC mc → Fr h₀ L s'.heap m → News h₀ L s'.heap ((I, oI) :: (C, oC) :: (D, LCg.lst ys) :: nx) → Q (.ref l1) s' → wpAny (model prog w) A (eval iter1 (compEnvC scope cl C env)) Q (fun _ _ => False) s')
    (turn : ∀ i j ys mc nx h tk (C : Addr) oC (D I0 : Addr) o0 (I1 : Addr) o1 t v E', tups[i]? = some t → items1[j]? = some v → mc a = some t.2.1 → mc b = some t.2.2 → mc c = some v → J i j ys nx → LCg.NsObj oC mc → Fr h₀ L h m → News h₀ L h ((I1, o1) :: (C, oC) :: (D, LCg.lst ys) :: (I0, o0) :: nx) →
      (∀ p ∈ (I0, o0) :: nx, p.1 ∉ [I1] ∧ p.1 ≠ C ∧ p.1 ≠ D) → (∀ p ∈ nx, p.1 ≠ I0) → ((@Ne Nat I1 C) ∧ (@Ne Nat I1 D) ∧ (@Ne Nat C D)) →
      wpAny (model prog w) A (eval elt (compEnvC scope cl C env)) (TurnEnd h₀ L m s [(I1, o1)] C oC D ys (fun ys' nx' => ∃ nx'', nx' = (I0, o0) :: nx'' ∧ (∀ p ∈ nx'', p.1 ≠ I0) ∧ J i (j + 1) ys' nx'')) E' { s with heap := h, toks := tk })
    (fin : ∀ ys nx s₂ D h tk, J tups.length 0 ys nx → (∃ h tk, s₂ = { s with heap := h, toks := tk }) → Fr h₀ L h m → News h₀ L h ((D, LCg.lst ys) :: nx) → (∀ p ∈ nx, p.1 ≠ D) → Q (.ref D) { s₂ with heap := h, toks := tk })
    (hs : ∀ (e : Env) (x : Value), foldedSetIterable iter1 e x = pure x := by intro _ _; rfl) :
    wpAny (model prog w) A (pyIter (.ref l0)) (fun it s₂ => ∃ nx, Fr h₀ L s₂.heap m ∧ News h₀ L s₂.heap nx ∧
      ∀ (C D : Addr) oC h' tk, LCg.NsObj oC (fun _ => none) → Fr h₀ L h' m → News h₀ L h' ((C, oC) :: (D, LCg.lst []) :: nx) → (∀ p ∈ nx, p.1 ≠ C ∧ p.1 ≠ D) → C ≠ D → s₂.heap.objs.size ≤ C → s₂.heap.objs.size ≤ D → (∀ b o, s₂.heap.get? b = some o → h'.get? b = some o) →
        codeAny (model prog w) A (.compStart (.ListComp elt [⟨.Tuple [.Name a pa, .Name b pb] kk tp, iter0, [], 0⟩, ⟨.Name c pc, iter1, [], 0⟩] scope pos) 0 it (.ref D) (compEnvC scope cl C env)) (CDone h₀ L m s₂ C D Q) { s₂ with heap := h', toks := tk }) E s := by
  obtain ⟨hm0, hmT, hm1⟩ := hsee _ _ _ _ hJ
  have hax := N _ hm0
  have hl : s.heap.IsList l0 (tups.map fun t => Value.ref t.1).toArray := ⟨_, hax.1, rfl, _, rfl⟩
  have hlt : l0 < s.heap.objs.size := Heap.lt_size hax.1
  have hLs : L < s.heap.objs.size := F.ns.lt
  refine wpAny_pyIter_list hl ?_
  have up : ∀ b o, s.heap.get? b = some o → (s.heap.push { cls := .type "list_iterator", data := .fields #[.ref l0, .int 0 0] }).get? b = some o := fun b o e => Heap.get?_push_of_some _ e
  refine ⟨nx, F.keeps up, N.grown up, ?_⟩
  intro C D oC h' tk hns F' N' off hCD hC hD hk'
  dsimp only at hC hD hk'
  rw [Heap.size_push] at hC hD
  have hit0 : (s.heap.push { cls := .type "list_iterator", data := .fields #[.ref l0, .int 0 0] }).IsListIter s.heap.objs.size l0 0 := ⟨_, Heap.get?_push_size _ rfl, rfl, rfl⟩
  have nlt : ∀ p ∈ nx, @LT.lt Nat _ p.1 s.heap.objs.size := fun p hp => Heap.lt_size (N p hp).1
  have f0 : ∀ b : Nat, @LE.le Nat _ s.heap.objs.size b → h₀.get? b = none := fun b hb => by
    cases e : h₀.get? b with
    | none => rfl
    | some o => exact absurd (Heap.lt_size (F.keep _ _ e)) (Nat.not_lt.mpr hb)
  generalize hI0 : s.heap.objs.size = I0 at hC hD hit0 nlt
  have hLt : @LT.lt Nat _ L I0 := hI0 ▸ hLs
  have hlt' : @LT.lt Nat _ l0 I0 := hI0 ▸ hlt
  have hnI : h₀.get? I0 = none := f0 _ (Nat.le_of_eq hI0)
  have eqC : (compEnvC scope cl C env).locals = C := rfl
  have e1 : @Ne Nat I0 C := by lia
  have e2 : @Ne Nat I0 D := by lia
  have hTm : ∀ t ∈ tups, @LT.lt Nat _ t.1 I0 := fun t ht => nlt _ (hmT t ht)
  have hpk : ((compEnvC scope cl C env).scope.kind == .class || ((compEnvC scope cl C env).scope.kind == .module && (compEnvC scope cl C env).locals != (compEnvC scope cl C env).globals)) = false := by simp [compEnvC, relabel, hkind]
  have dr := draw_pair (prog := prog) (w := w) (A := A) (I := I0) (l := l0) (a := a) (b := b) (pa := pa) (pb := pb) (tp := tp) (kk := kk) (cenv := compEnvC scope cl C env) (tups := tups) hh (Nat.ne_of_lt hlt') e1 (lookup_relabel_local hxa) (lookup_relabel_local hxb) hpk
    (by rw [eqC]; exact Nat.ne_of_lt (Nat.lt_of_lt_of_le (Nat.lt_succ_of_lt hlt') hC)) (fun t ht => Nat.ne_of_lt (hTm t ht)) (fun t ht => by rw [eqC]; exact Nat.ne_of_lt (Nat.lt_of_lt_of_le (Nat.lt_succ_of_lt (hTm t ht)) hC))
  have tupOf : ∀ {h : Heap} {nx : List (Addr × Obj)} (t : Addr × Value × Value), News h₀ L h nx → (t.1, tupL [t.2.1, t.2.2]) ∈ nx → h.IsTuple t.1 #[t.2.1, t.2.2] := fun t N ht => ⟨_, (N _ ht).1, rfl, _, rfl⟩
  have hst0 : h'.IsListIter I0 l0 0 ∧ h'.IsList l0 (tups.map fun t => Value.ref t.1).toArray ∧ ∀ t ∈ tups, h'.IsTuple t.1 #[t.2.1, t.2.2] :=
    ⟨hit0.at fun o q => hk' _ o q, ⟨_, (N' _ (.tail _ (.tail _ hm0))).1, rfl, _, rfl⟩, fun t ht => tupOf t N' (.tail _ (.tail _ (hmT t ht)))⟩
  generalize hs₂ : s.heap.push { cls := .type "list_iterator", data := .fields #[.ref l0, .int 0 0] } = hp₂ at *
  have go : codeAny (model prog w) A (.compLoop (.ListComp elt [⟨.Tuple [.Name a pa, .Name b pb] kk tp, iter0, [], 0⟩, ⟨.Name c pc, iter1, [], 0⟩] scope pos) 0 (.ref I0) (.ref D) (compEnvC scope cl C env)) (CDone h₀ L m { s with heap := hp₂ } C D Q) { s with heap := h', toks := tk } := by
    refine loop_core (C := C) (D := D) (fun i ys mc nx => J i 0 ys nx) (WInner prog w A (.ListComp elt [⟨.Tuple [.Name a pa, .Name b pb] kk tp, iter0, [], 0⟩, ⟨.Name c pc, iter1, [], 0⟩] scope pos) iter1 (.ref D) (compEnvC scope cl C env)) (fun P Q' s h x => WInner.mono P Q' s h x)
      (fun Inv tn n s hi => loop20 hmk Inv tn n hi (hs _)) dr rfl ?_ ?_ ?_ F' N' hCD ?_ hns hst0 hJ ?_ ?_
    · intro q hq hqo
      rcases List.mem_cons.mp hq with rfl | hq
      · exact absurd (.head _) hqo
      · rcases List.mem_cons.mp hq with rfl | hq
        · exact ⟨_, fun i ys mc nx h hj _ N => (N _ (hsee _ _ _ _ hj).1).1⟩
        · obtain ⟨t, ht, rfl⟩ := List.mem_map.mp hq
          exact ⟨_, fun i ys mc nx h hj _ N => (N _ ((hsee _ _ _ _ hj).2.1 t ht)).1⟩
    · rintro i h ⟨⟨oi, hoi, _⟩, _⟩ q hq
      rw [List.mem_singleton.mp hq]
      exact ⟨_, hoi⟩
    · intro q hq
      rw [List.mem_singleton.mp hq]
      exact ⟨Nat.ne_of_gt hLt, e1, e2, hnI⟩
    · intro p hp
      refine ⟨?_, off p hp⟩
      rw [List.mem_singleton]
      exact Nat.ne_of_lt (nlt p hp)
    · intro i ys mc mc' nx₂ h₂ tk₂ oC₂ ios hi hP hj hns₂ F₂ N₂ hio off₂
      obtain ⟨t, ht, rfl⟩ := hP
      obtain ⟨o0, rfl⟩ : ∃ o0, ios = [(I0, o0)] := by
        rcases ios with _ | ⟨⟨_, o0⟩, _ | ⟨_, _⟩⟩ <;> simp at hio
        subst hio
        exact ⟨_, rfl⟩
      refine hiter _ _ i ys nx₂ _ C oC₂ D I0 o0 hj hns₂ F₂ N₂ ?_
      have hm1' := (hsee _ _ _ _ hj).2.2
      have hl1 : h₂.IsList l1 items1.toArray := ⟨_, (N₂ _ (.tail _ (.tail _ (.tail _ hm1')))).1, rfl, _, rfl⟩
      have hlt1 : @LT.lt Nat _ l1 h₂.objs.size := Heap.lt_size (N₂ _ (.tail _ (.tail _ (.tail _ hm1')))).1
      refine wpAny_pyIter_list hl1 ?_
      have up2 : ∀ b o, h₂.get? b = some o → (h₂.push { cls := .type "list_iterator", data := .fields #[.ref l1, .int 0 0] }).get? b = some o := fun b o e => Heap.get?_push_of_some _ e
      have n2 : ∀ p ∈ (I0, o0) :: (C, oC₂) :: (D, LCg.lst ys) :: nx₂, @LT.lt Nat _ p.1 h₂.objs.size := fun p hp => Heap.lt_size (N₂ p hp).1
      have hit1 : (h₂.push { cls := .type "list_iterator", data := .fields #[.ref l1, .int 0 0] }).IsListIter h₂.objs.size l1 0 := ⟨_, Heap.get?_push_size _ rfl, rfl, rfl⟩
      have hIn : h₀.get? h₂.objs.size = none := next_is_new F₂
      have hLI : @LT.lt Nat _ L h₂.objs.size := F₂.ns.lt
      generalize h₂.objs.size = I1 at hit1 n2 hlt1 hIn hLI
      have F₃ := F₂.keeps up2
      have N₃ : News h₀ L (h₂.push { cls := .type "list_iterator", data := .fields #[.ref l1, .int 0 0] }) ((C, oC₂) :: (D, LCg.lst ys) :: (I0, o0) :: nx₂) := fun p hp => (N₂.grown up2) p (by
        simp only [List.mem_cons, List.cons_append, List.nil_append] at hp ⊢
        rcases hp with h | h | h | h
        · exact .inr (.inl h)
        · exact .inr (.inr (.inl h))
        · exact .inl h
        · exact .inr (.inr (.inr h)))
      dsimp only
      generalize h₂.push { cls := .type "list_iterator", data := .fields #[.ref l1, .int 0 0] } = h₃ at hit1 F₃ N₃ up2
      have c1 : @Ne Nat I1 C := Nat.ne_of_gt (n2 (C, oC₂) (.tail _ (.head _)))
      have c2 : @Ne Nat I1 D := Nat.ne_of_gt (n2 (D, LCg.lst ys) (.tail _ (.tail _ (.head _))))
      have dr1 := draw_name (prog := prog) (w := w) (A := A) (I := I1) (l := l1) (x := c) (p := pc) (cenv := compEnvC scope cl C env) (items := items1.toArray) hh (Nat.ne_of_lt hlt1) c1 (lookup_relabel_local hxc) hpk (by rw [eqC]; exact (off₂ _ hm1').2.1)
      rw [List.size_toArray] at dr1
      have st1 : h₃.IsListIter I1 l1 0 ∧ h₃.IsList l1 items1.toArray := ⟨hit1, ⟨_, (N₃ _ (.tail _ (.tail _ (.tail _ hm1')))).1, rfl, _, rfl⟩⟩
      have go1 : codeAny (model prog w) A (.compLoop (.ListComp elt [⟨.Tuple [.Name a pa, .Name b pb] kk tp, iter0, [], 0⟩, ⟨.Name c pc, iter1, [], 0⟩] scope pos) 1 (.ref I1) (.ref D) (compEnvC scope cl C env))
          (fun r s₅ => r = .ok .next ∧ CSt h₀ L m { s with heap := h', toks := tk } C D [(I0, o0)] [I0] (fun ys mc nx => J (i + 1) 0 ys nx) s₅) { s with heap := h₃, toks := tk₂ } := by
        refine loop_core (C := C) (D := D) (own := [I1]) (fun j ys mc nx1 => ∃ nx2, nx1 = (I0, o0) :: nx2 ∧ (∀ p ∈ nx2, p.1 ≠ I0) ∧ J i j ys nx2 ∧ mc a = some t.2.1 ∧ mc b = some t.2.2) (WEmit prog w A elt (.ref D) (compEnvC scope cl C env) _) (fun P Q' s h x => WEmit.mono P Q' s h x)
          (fun Inv tn n s hi => loop21 Inv tn n hi) dr1 rfl ?_ ?_ ?_ F₃ N₃ hCD ?_ hns₂ st1 ⟨nx₂, rfl, fun p hp => by simpa using (off₂ p hp).1, hj, by simp [put2, hab], by simp [put2]⟩ ?_ ?_
        · intro q hq hqo
          rcases List.mem_cons.mp hq with rfl | hq
          · exact absurd (.head _) hqo
          · rw [List.mem_singleton.mp hq]
            refine ⟨listOf items1.toArray n1, fun j ys mc nx1 h hj _ N => ?_⟩
            obtain ⟨nx2, rfl, _, hj, _⟩ := hj
            exact (N _ (.tail _ (hsee _ _ _ _ hj).2.2)).1
        · rintro i h ⟨⟨oi, hoi, _⟩, _⟩ q hq
          rw [List.mem_singleton.mp hq]
          exact ⟨_, hoi⟩
        · intro q hq
          rw [List.mem_singleton.mp hq]
          exact ⟨Nat.ne_of_gt hLI, c1, c2, hIn⟩
        · intro p hp
          rw [List.mem_singleton]
          rcases List.mem_cons.mp hp with rfl | hp
          · exact ⟨Nat.ne_of_lt (n2 _ (.head _)), e1, e2⟩
          · exact ⟨Nat.ne_of_lt (n2 _ (.tail _ (.tail _ (.tail _ hp)))), (off₂ p hp).2⟩
        · intro j ys₁ mc₁ mc₁' nx1 h₄ tk₄ oC₄ ios₁ hij hP₁ hj₁ hns₄ F₄ N₄ hio₁ off₄
          obtain ⟨v, hv, rfl⟩ := hP₁
          obtain ⟨nx2, rfl, hnI, hj₁, ma, mb⟩ := hj₁
          obtain ⟨o1, rfl⟩ : ∃ o1, ios₁ = [(I1, o1)] := by
            rcases ios₁ with _ | ⟨⟨_, o1⟩, _ | ⟨_, _⟩⟩ <;> simp at hio₁
            subst hio₁
            exact ⟨_, rfl⟩
          refine emit37 (hlen _ _ _ _ hj₁) (fun q hq => by rw [List.mem_singleton.mp hq]; exact c2) rfl hCD hns₄ fun E' => ?_
          refine wpAny_mono (turn i j ys₁ _ nx2 h₄ tk₄ C oC₄ D I0 o0 I1 o1 t v E' ht (by simpa using hv) (by simp [put1, hac, ma]) (by simp [put1, hbc, mb]) (by simp [put1]) hj₁ hns₄ F₄ N₄ off₄ hnI ⟨c1, c2, hCD⟩) (fun y s₂ hq => ?_) fun _ _ e => e
          obtain ⟨h₅, tk₅, nx₅, rfl, F₅, N₅, off₅, nx₆, rfl, hn6, hj₆⟩ := hq
          exact ⟨h₅, tk₅, _, rfl, F₅, N₅, off₅, nx₆, rfl, hn6, hj₆, by simp [put1, hac, ma], by simp [put1, hbc, mb]⟩
        · intro ys₁ mc₁ nx1 h₄ tk₄ oC₄ hj₁ hns₄ F₄ N₄ off₄
          obtain ⟨nx2, rfl, hnI, hj₁, _⟩ := hj₁
          refine ⟨rfl, h₄, tk₄, oC₄, mc₁, ys₁, nx2, rfl, F₄, hns₄, fun p hp => N₄ p ?_, fun p hp => ⟨by rw [List.mem_singleton]; exact hnI p hp, (off₄ p (.tail _ hp)).2⟩, hstep _ _ _ hj₁⟩
          simp only [List.mem_cons, List.cons_append, List.nil_append] at hp ⊢
          rcases hp with h | h | h | h
          · exact .inr (.inr (.inl h))
          · exact .inl h
          · exact .inr (.inl h)
          · exact .inr (.inr (.inr h))
      exact compStart1 go1 (dr1.self 0 _ _ _ st1 go1)
    · intro ys mc nx₂ h₂ tk₂ oC₂ hj hns₂ F₂ N₂ off₂
      refine ⟨rfl, h₂, tk₂, oC₂, mc, ys, nx₂, rfl, F₂, hns₂, N₂, fun p hp => (off₂ p hp).2, ?_⟩
      intro D' h tk F N o1
      have o1' : ∀ p ∈ nx₂, p.1 ≠ D' := by
        clear N N₂ hj off₂
        induction nx₂ with
        | nil => intro p hp; cases hp
        | cons q r ih =>
          intro p hp
          rcases List.mem_cons.mp hp with rfl | hp
          · exact o1.1
          · exact ih o1.2 p hp
      exact fin ys nx₂ _ D' h tk hj ⟨hp₂, s.toks, rfl⟩ F N o1'
  exact codeAny_compStart_list go (dr.self 0 _ _ _ hst0 go)
end
-- W6e
theorem ints_of_all : ∀ {vs : List Value}, (∀ v ∈ vs, ∃ n t, v = .int n t) → ∃ ns, IntsAre vs ns
  | [], _ => ⟨[], .nil⟩
  | v :: vs, h => by
    obtain ⟨n, t, rfl⟩ := h v (.head _)
    obtain ⟨ns, hn⟩ := ints_of_all (vs := vs) fun v hv => h v (.tail _ hv)
    exact ⟨n :: ns, .cons n t hn⟩
theorem all_of_ints : ∀ {vs : List Value} {ns : List Int}, IntsAre vs ns → ∀ v ∈ vs, ∃ n t, v = .int n t
  | _, _, .nil, v, h => nomatch h
  | _, _, .cons n t hr, v, h => by
    rcases List.mem_cons.mp h with rfl | h
    · exact ⟨_, _, rfl⟩
    · exact all_of_ints hr v h
theorem pick_ints {vs : List Value} {ns : List Int} (hi : IntsAre vs ns) (lo hi' st : Option Int) : ∃ ms, IntsAre (slicePick vs.toArray lo hi' st).toList ms ∧ ms.length ≤ ns.length := by
  obtain ⟨ms, hm⟩ := ints_of_all (vs := (slicePick vs.toArray lo hi' st).toList) fun v hv => by
    unfold slicePick at hv
    rw [List.toList_toArray] at hv
    obtain ⟨k, _, hk⟩ := List.mem_filterMap.mp hv
    refine all_of_ints hi v ?_
    rw [List.getElem?_toArray] at hk
    exact List.mem_of_getElem? hk
  refine ⟨ms, hm, ?_⟩
  have q := slicePick_size_le vs.toArray lo hi' st
  rw [← hm.length, ← hi.length, Array.length_toList]
  simpa using q
theorem sum_bound : ∀ {qs : List Int}, (∀ q ∈ qs, 0 ≤ q ∧ q < 10 ^ 6) → 0 ≤ qs.sum ∧ qs.sum ≤ qs.length * 10 ^ 6
  | [], _ => by simp
  | q :: qs, h => by
    have h1 := sum_bound (qs := qs) fun z hz => h z (.tail _ hz)
    have h2 := h q (.head _)
    simp only [List.sum_cons, List.length_cons]
    lia
theorem fmod_nat (a b : Nat) : Int.fmod (a : Int) (b : Int) = ((a % b : Nat) : Int) := by
  rw [Int.fmod_eq_emod_of_nonneg _ (by lia)]; rfl
theorem fdiv_nat (a b : Nat) : Int.fdiv (a : Int) (b : Int) = ((a / b : Nat) : Int) := by
  rw [Int.fdiv_eq_ediv_of_nonneg _ (by lia)]; rfl
theorem fmod_lit (a b : Nat) (c : Int) (h : c = (b : Int)) : Int.fmod (a : Int) c = ((a % b : Nat) : Int) := by rw [h]; exact fmod_nat a b
theorem fdiv_lit (a b : Nat) (c : Int) (h : c = (b : Int)) : Int.fdiv (a : Int) c = ((a / b : Nat) : Int) := by rw [h]; exact fdiv_nat a b
theorem nats4 {vs : List Value} {a b c d : Nat} (h : NatsAre vs [a, b, c, d]) : ∃ t u v w, vs = [.int (a : Int) t, .int (b : Int) u, .int (c : Int) v, .int (d : Int) w] := by
  unfold NatsAre at h
  cases h with
  | cons _ t h => cases h with
    | cons _ u h => cases h with
      | cons _ v h => cases h with
        | cons _ w h => cases h; exact ⟨t, u, v, w, rfl⟩
theorem fm_lt (x : Int) (b : Nat) (hb : 0 < b) : ∃ f : Nat, f < b ∧ Int.fmod x (b : Int) = (f : Int) := by
  have h1 := Int.fmod_nonneg_of_pos x (b := (b : Int)) (by lia)
  have h2 := Int.fmod_lt_of_pos x (b := (b : Int)) (by lia)
  exact ⟨(Int.fmod x b).toNat, by lia, by lia⟩
theorem nat_cons {x : Int} {n : Nat} {t : Tok} {vs : List Value} {ns : List Nat} (e : x = (n : Int)) (h : NatsAre vs ns) : NatsAre (.int x t :: vs) (n :: ns) := by
  subst e
  exact .cons _ _ h
abbrev sumsO (n0 n1 n2 n3 : Nat) (t0 t1 t2 t3 : Tok) (se : Nat) : Obj := listOf [Value.int (n0 : Int) t0, .int (n1 : Int) t1, .int (n2 : Int) t2, .int (n3 : Int) t3].toArray se
theorem nats_get {vs : List Value} {ns : List Nat} (h : NatsAre vs ns) (x : Int) (b : Nat) (hb : 0 < b) (hn : ns.length = b) : ∃ c t, c ∈ ns ∧ vs[(Int.fmod x (b : Int)).toNat]? = some (.int (c : Int) t) := by
  obtain ⟨q, hq, e⟩ := fm_lt x b hb
  rw [e, Int.toNat_natCast]
  have hq' : q < ns.length := by lia
  obtain ⟨t, ht⟩ := h.get q ((ns[q] : Nat) : Int) (by simp [hq'])
  exact ⟨ns[q], t, List.getElem_mem hq', ht⟩
theorem nats_snoc {vs : List Value} {ns : List Nat} {x : Nat} {t : Tok} (h : NatsAre vs ns) : NatsAre (vs ++ [.int (x : Int) t]) (ns ++ [x]) := by
  unfold NatsAre at h ⊢
  rw [List.map_append]
  exact ints_app h (.cons _ _ .nil)
def Far (L a : Nat) : Prop := @Ne Nat (L + 1 + 1 + 1 + 1 + 1) a ∧ @Ne Nat (L + 1 + 1 + 1 + 1) a
theorem Far.lt {L a : Nat} (h : L + 1 + 1 + 1 + 1 + 1 < a) : Far L a := ⟨Nat.ne_of_lt h, by lia⟩
theorem strs_snoc {x : Str} {t : Tok} : ∀ {vs : List Value} {xs : List Str}, StrsAre vs xs → StrsAre (vs ++ [.str x t]) (xs ++ [x])
  | [], [], _ => ⟨⟨t, rfl⟩, trivial⟩
  | _ :: _, _ :: _, h => ⟨h.1, strs_snoc h.2⟩
theorem map_one : ∀ ls : List Nat, (ls.map fun c => [c]).flatten = ls
  | [] => rfl
  | c :: r => by simp [map_one r]
theorem len_one {xs : List Str} {ls : List Nat} (h : xs.map lst = ls.map fun c => [c]) : ∀ a ∈ xs, a.length ≤ 8 := by
  intro a ha
  have h1 : lst a ∈ xs.map lst := List.mem_map_of_mem ha
  rw [h] at h1
  obtain ⟨c, _, e⟩ := List.mem_map.mp h1
  rw [← lst_length, ← e]
  simp
theorem StrsAre.at : ∀ {vs : List Value} {xs : List Str}, StrsAre vs xs → ∀ {k : Nat} {v : Value}, vs[k]? = some v → ∃ x t, xs[k]? = some x ∧ v = .str x t
  | [], [], _, k, v, e => by simp at e
  | v :: _, x :: _, h, 0, v', e => by
    obtain ⟨t, et⟩ := h.1
    simp at e
    exact ⟨x, t, rfl, by rw [← e, et]⟩
  | _ :: _, _ :: _, h, k + 1, v', e => by
    obtain ⟨x, t, h1, h2⟩ := StrsAre.at h.2 (k := k) (v := v') (by simpa using e)
    exact ⟨x, t, by simpa using h1, h2⟩
theorem strs_app : ∀ {vs ws : List Value} {xs ys : List Str}, StrsAre vs xs → StrsAre ws ys → StrsAre (vs ++ ws) (xs ++ ys)
  | [], _, [], _, _, h => h
  | _ :: _, _, _ :: _, _, h, h' => ⟨h.1, strs_app h.2 h'⟩
section
variable {prog : Program} {w : World} {A : Around} {E : Value → Shared → Prop} {s : Shared} {h₀ : Heap} {L : Addr} {m : Str → Option Value} {news : List (Addr × Obj)}
theorem slice3_37 {value slice : Expr} {l : Addr} {vs : List Value} {ns : List Int} {vl vu vk : Value} {lo hi st : Option Int} {ops : List Value} {Q : Value → Shared → Prop}
    (F : Fr h₀ L s.heap m) (N : News h₀ L s.heap news) (hl : s.heap.IsList l vs.toArray) (pl : IsPart vl lo) (pu : IsPart vu hi) (pk : IsPart vk st) (h0 : st ≠ some 0) (hI : IntsAre vs ns) (hz : ns.length ≤ 1000)
    (h : ∀ (D : Nat) ws ms h', Fr h₀ L h' m → News h₀ L h' ((D, listOf (List.toArray ws) 0) :: news) → AllLt D news → IntsAre ws ms → ms.length ≤ ns.length → Q (.ref D) { s with heap := h' })
    (hs : subscripted slice false (.ref l) (.ref s.heap.objs.size) = operate ops (getItem (.ref l) (.ref s.heap.objs.size))) (ht : ∀ r, letTemporaryGo value (.ref l) r = pure ()) :
    wpAny (model prog w) A (subscriptTail value slice (.ref l) (.ref s.heap.objs.size)) Q E { s with heap := s.heap.push { cls := .type "slice", data := .fields #[vl, vu, vk] } } := by
  obtain ⟨ms, hm, hle⟩ := pick_ints hI lo hi st
  refine slice_list3 F N hl pl pu pk h0 (fun h' F' N' => h _ (slicePick vs.toArray lo hi st).toList ms h' F' ?_ (allLt_of fun p hp => Nat.lt_succ_of_lt (Heap.lt_size (N p hp).1)) hm hle) hs ht ?_
  · rw [Array.toArray_toList]
    exact N'
  · rw [List.size_toArray, hI.length, sizeLine_eq]
    lia
theorem code37 {value slice : Expr} {l : Addr} {vs : List Value} {cs : List Nat} {e : Nat} {x : Int} {u : Tok} {Q : Value → Shared → Prop}
    (N : News h₀ L s.heap news) (hm : (l, listOf vs.toArray e) ∈ news) (hcv : NatsAre vs cs) (hl : cs.length = 4) (h : ∀ (c : Nat) t, c ∈ cs → Q (.int (c : Int) t) s)
    (hs : subscripted slice false (.ref l) (.int (Int.fmod x 4) u) = operate [.ref l, .int (Int.fmod x 4) u] (getItem (.ref l) (.int (Int.fmod x 4) u)) := by with_unfolding_all rfl) (hg : ∀ r, letTemporaryGo value (.ref l) r = pure () := by intro _; with_unfolding_all rfl) :
    wpAny (model prog w) A (subscriptTail value slice (.ref l) (.int (Int.fmod x 4) u)) Q E s := by
  obtain ⟨c, t, hc, ec⟩ := nats_get hcv x 4 (by decide) hl
  have h1 := Int.fmod_nonneg_of_pos x (b := 4) (by decide)
  have h2 := Int.fmod_lt_of_pos x (b := 4) (by decide)
  exact item37 N hm h1 (by lia) ec (h c t hc) hs hg
theorem mem_snoc {P : Nat → Prop} {ks : List Nat} {x : Nat} (h : ∀ k ∈ ks, P k) (hx : P x) : ∀ k ∈ ks ++ [x], P k := by
  intro k hk
  rcases List.mem_append.mp hk with hk | hk
  · exact h k hk
  · rw [List.mem_singleton.mp hk]; exact hx
theorem slice_core37 {value slice : Expr} {l : Addr} {vs : List Value} {cs : List Nat} {x y : Int} {tx ty : Tok} {Q : Value → Shared → Prop}
    (F : Fr h₀ L s.heap m) (N : News h₀ L s.heap news) (hl : s.heap.IsList l vs.toArray) (hI : NatsAre vs cs) (hz : cs.length ≤ 1000) (h0 : 0 ≤ x) (hy : y = x + 1)
    (h : ∀ (D : Nat) ws core h', Fr h₀ L h' m → News h₀ L h' ((D, listOf (List.toArray ws) 0) :: news) → AllLt D news → NatsAre ws core → core.length ≤ 1 → (∀ z ∈ core, z ∈ cs) → Q (.ref D) { s with heap := h' })
    (hs : subscripted slice false (.ref l) (.ref s.heap.objs.size) = operate [.ref s.heap.objs.size, .ref l] (getItem (.ref l) (.ref s.heap.objs.size))) (ht : ∀ r, letTemporaryGo value (.ref l) r = pure ()) :
    wpAny (model prog w) A (subscriptTail value slice (.ref l) (.ref s.heap.objs.size)) Q E { s with heap := s.heap.push { cls := .type "slice", data := .fields #[.int x tx, .int y ty, .none] } } := by
  have hvl : vs.length = cs.length := by have := hI.length; rwa [List.length_map] at this
  have hr := kmk_run (x := x) (y := y) hI h0 (by lia)
  rw [← List.map_drop, ← List.map_take] at hr
  refine kmk_slice F N hl (.int _ _) (.int _ _) (fun D h' F' N' l1 => ?_) hs ht (by rw [List.size_toArray, sizeLine_eq]; lia)
  refine h D (slicePick vs.toArray (some x) (some y) none).toList _ h' F' (by rw [Array.toArray_toList]; exact N') (allLt_of l1) hr ?_ fun z hz => List.mem_of_mem_drop (List.mem_of_mem_take hz)
  rw [List.length_take]
  exact Nat.le_trans (Nat.min_le_left _ _) (by subst hy; lia)
end
theorem comp_end1 {h₀ : Heap} {L I C D T : Nat} {m : Str → Option Value} {s₁ : Shared} {oI oC oD t : Obj} {S : List (Addr × Obj) → Prop} {rest : Value → List (Addr × Obj) → Prop} {y : Value} {h' : Heap} {tk : Nat} {r : List (Addr × Obj)}
    (F : Fr h₀ L h' m) (N : News h₀ L h' ((T, t) :: (I, oI) :: (C, oC) :: (D, oD) :: r)) (off : LCg.Off3 I C D r) (hl : I < T ∧ C < T ∧ D < T) (hS : S ((T, t) :: r)) (hr : rest y ((T, t) :: r)) :
    LCg.CompEnd h₀ L m s₁ I oI C oC D oD S rest y { s₁ with heap := h', toks := tk } := by
  refine LCg.CompEnd.intro F N ((T, t) :: r) (fun p hp => ?_) ⟨⟨Nat.ne_of_gt hl.1, Nat.ne_of_gt hl.2.1, Nat.ne_of_gt hl.2.2⟩, off⟩ hS hr
  simp only [List.mem_cons] at hp ⊢
  rcases hp with h | h | h | h | h
  · exact .inr (.inl h)
  · exact .inr (.inr (.inl h))
  · exact .inr (.inr (.inr (.inl h)))
  · exact .inl h
  · exact .inr (.inr (.inr (.inr h)))
-- W6s
/-! a set of texts: what lies in it, that its order is drawn -/
theorem perm_strs {vs : List Value} {l : List Value} {xs : List Str} (h : StrsAre vs xs) (p : l.Perm vs) : ∃ ys, StrsAre l ys ∧ ys.Perm xs := by
  induction p generalizing xs with
  | nil => exact ⟨xs, h, .refl _⟩
  | cons a _ ih =>
    match xs, h with
    | x :: xs, h =>
      obtain ⟨ys, h1, h2⟩ := ih h.2
      exact ⟨x :: ys, ⟨h.1, h1⟩, h2.cons x⟩
  | swap a b l =>
    match xs, h with
    | x :: y :: xs, h => exact ⟨y :: x :: xs, ⟨h.2.1, h.1, h.2.2⟩, .swap x y xs⟩
  | trans _ _ ih1 ih2 =>
    obtain ⟨ys, h1, h2⟩ := ih2 h
    obtain ⟨zs, h3, h4⟩ := ih1 h1
    exact ⟨zs, h3, h4.trans h2⟩
theorem relay_plain {t : SetTable} (h : t.plain = false) (es : Array (Int × Value)) (n : Nat) : (relayAll t es n).2.1.plain = false := by
  unfold relayAll
  split
  · rename_i t' order hr
    have ht : t'.plain = false := by
      unfold SetTable.relaid SetTable.laid at hr
      cases hc : SetTable.layClean (SetTable.sizeAbove n - 1) (es.map (·.1)) with
      | none => rw [hc] at hr; cases hr
      | some owner =>
        rw [hc] at hr
        have := Option.some.inj hr
        rw [← (Prod.mk.inj this).1]
        exact h
    dsimp only
    split
    · exact ht
    · rfl
  · rfl
/-- the set at a holds just these texts, each once -/
def SetS (prog : Program) (w : World) (h : Heap) (a : Addr) (xs : List Str) : Prop :=
  ∃ o es ep t, h.get? a = some o ∧ o.ExactSet ∧ o.data = .set es ep t ∧ ElemsOf (PySem.strKind prog w) es.toList ∧ (∃ ks, StrsAre (es.toList.map (·.2)) ks ∧ ks.Perm xs) ∧ t.fits es.size = true ∧ es.size < scanBound ∧ (xs ≠ [] → t.plain = false)
section
variable {prog : Program} {w : World} {A : Around} {E : Value → Shared → Prop} {s : Shared}
theorem find_str {es : List (Int × Value)} {ks : List Str} {x : Str} (h : StrsAre (es.map (·.2)) ks) : (es.findIdx? (fun e => (PySem.strKind prog w).is x e.2)).isSome = true ↔ x ∈ ks := by
  induction es generalizing ks with
  | nil => match ks, h with
    | [], _ => simp
  | cons e es ih =>
    match ks, h with
    | k :: ks, h =>
      obtain ⟨⟨t, et⟩, h2⟩ := h
      have hk : (PySem.strKind prog w).is x e.2 = decide (x = k) := by
        have et' : e.2 = .str k t := et
        rw [et']
        exact KeyKind.is_eq_decide (strKind_is _ _ k t) x
      rw [List.findIdx?_cons, hk]
      by_cases hx : x = k
      · simp [hx]
      · simp only [hx, decide_false, Bool.false_eq_true, if_false, Option.isSome_map, List.mem_cons, false_or]
        exact ih h2
theorem addHashed {a : Addr} {xs : List Str} {x : Str} {tx : Tok} {Q : Bool → Shared → Prop} (hS : SetS prog w s.heap a xs) (hroom : xs.length + 1 < scanBound)
    (h : ∀ h' b, (∀ c, c ≠ a → h'.get? c = s.heap.get? c) → SetS prog w h' a (if x ∈ xs then xs else xs ++ [x]) → Q b { s with heap := h' }) :
    wpAny (model prog w) A (setAddHashed a (.str x tx) ((PySem.strKind prog w).hash x)) Q E s := by
  obtain ⟨o, es, ep, t, ho, hex, hd, hel, ⟨ks, hks, hp⟩, hf, hb, hpl⟩ := id hS
  have hkey : (PySem.strKind prog w).is x (.str x tx) = true := strKind_is _ _ _ _
  have hsz : es.size = xs.length := by
    have h1 := hks.length
    rw [List.length_map, Array.length_toList] at h1
    rw [h1, hp.length_eq]
  unfold setAddHashed setAddHashedIn
  refine wpAny_holding (wpAny_bind (wpAny_setState_of ho hd hf ?_))
  dsimp only
  rw [byScan_of rfl hb hel]
  simp only [↓reduceIte]
  unfold setAddByScan
  refine wpAny_bind (wpAny_bind (wpAny_rule (wpAny_bind (wpAny_setScan_of hkey ho hd hf hel ?_))))
  have hfs := find_str (prog := prog) (w := w) (x := x) hks
  cases hr : List.findIdx? (fun e => (PySem.strKind prog w).is x e.2) es.toList with
  | some j =>
    dsimp only
    rw [hr] at hfs
    have hx : x ∈ xs := hp.mem_iff.mp (hfs.mp rfl)
    refine wpAny_pure (wpAny_pure ?_)
    exact h s.heap false (fun _ _ => rfl) (by rw [if_pos hx]; exact hS)
  | none =>
    dsimp only
    rw [hr] at hfs
    have hx : x ∉ xs := fun hx => Bool.noConfusion (hfs.mpr (hp.mem_iff.mpr hx))
    rw [if_neg hx] at h
    have hgw : ∀ (b : Bool) {s₁ : Shared} {Q' : Unit → Shared → Prop}, Q' () s₁ → wpAny (model prog w) A (match b with | true => rule "set.scan.the-table-gave-way" | false => pure ()) Q' E s₁ :=
      fun b s₁ Q' hq => by cases b <;> first | exact wpAny_pure hq | exact wpAny_rule hq
    have hperm := layNew_perm t es ((PySem.strKind prog w).hash x) (.str x tx)
    have hfits := layNew_fits t es ((PySem.strKind prog w).hash x) (.str x tx)
    generalize layNew t es ((PySem.strKind prog w).hash x) (.str x tx) = Ly at hperm hfits ⊢
    obtain ⟨es1, t1, wasDummy, gave⟩ := Ly
    dsimp only at hperm hfits ⊢
    rw [Array.toList_push] at hperm
    have hel1 : ElemsOf (PySem.strKind prog w) es1.toList := (hel.push hkey rfl).perm hperm
    obtain ⟨ks1, hks1, hp1⟩ : ∃ ks1, StrsAre (es1.toList.map (·.2)) ks1 ∧ ks1.Perm (xs ++ [x]) := by
      have h1 : StrsAre ((es.toList ++ [((PySem.strKind prog w).hash x, Value.str x tx)]).map (·.2)) (ks ++ [x]) := by
        rw [List.map_append]
        exact strs_snoc hks
      obtain ⟨ys, h2, h3⟩ := perm_strs h1 (hperm.map _)
      exact ⟨ys, h2, h3.trans (hp.append_right [x])⟩
    have hsz1 : es1.size = xs.length + 1 := by rw [← Array.length_toList, hperm.length_eq, List.length_append, Array.length_toList, hsz]; rfl
    refine wpAny_bind (hgw _ ?_)
    -- the table, not plain
    have tail : ∀ t2 : SetTable, t2.plain = false → t2.fits es1.size = true → wpAny (model prog w) A (do
        storeSet a es1 t2
        if (!wasDummy && t2.tooFull) = true then do
            (match (relayAll t2 es1 (SetTable.grown es1.size)).2.2 with | true => rule "set.scan.the-table-gave-way" | false => pure ())
            storeSet a (relayAll t2 es1 (SetTable.grown es1.size)).1 (relayAll t2 es1 (SetTable.grown es1.size)).2.1
            pure (some true)
          else pure (some true)) (fun r s' => r = some true ∧ ∃ h', s' = { s with heap := h' } ∧ (∀ c, c ≠ a → h'.get? c = s.heap.get? c) ∧ SetS prog w h' a (xs ++ [x])) E s := by
      intro t2 hpl2 hf2
      have hz1 : es1.size ≤ sizeLine := fits_of_scanBound (by lia)
      have hg : ∀ (es' : Array (Int × Value)) (t' : SetTable) (h : Heap) (o : Obj) (es0 : Array (Int × Value)) (ep0 : Nat) (t0 : SetTable), h.get? a = some o → o.data = .set es0 ep0 t0 → (h.update a (Obj.putSet es' t')).get? a = some { o with data := .set es' (ep0 + 1) t' } := by
        intro es' t' h o es0 ep0 t0 ho hd
        have := Heap.get?_update_self (Obj.putSet es' t') ho (by rw [putSet_of es' t' hd]; rfl)
        rw [putSet_of es' t' hd] at this
        exact this
      refine wpAny_bind (wpAny_storeSet_of ho hd ?_ hz1)
      have ho1 := hg es1 t2 _ _ _ _ _ ho hd
      have sb1 := Heap.SameBut.update s.heap a (Obj.putSet es1 t2)
      split
      · have hp2 := relayAll_perm t2 es1 (SetTable.grown es1.size)
        have hfr := relayAll_fits t2 es1 (SetTable.grown es1.size)
        have hpl3 := relay_plain hpl2 es1 (SetTable.grown es1.size)
        generalize relayAll t2 es1 (SetTable.grown es1.size) = Rl at hp2 hfr hpl3 ⊢
        obtain ⟨es2, t3, gave2⟩ := Rl
        dsimp only at hp2 hfr hpl3 ⊢
        have hsz2 : es2.size = es1.size := by rw [← Array.length_toList, hp2.length_eq, Array.length_toList]
        refine wpAny_bind (hgw _ ?_)
        refine wpAny_bind (wpAny_storeSet_of ho1 rfl ?_ (by rw [hsz2]; exact hz1))
        have ho2 := hg es2 t3 _ _ _ _ _ ho1 rfl
        have sb2 := sb1.trans (Heap.SameBut.update _ a (Obj.putSet es2 t3))
        obtain ⟨ys, h2, h3⟩ := perm_strs hks1 (hp2.map _)
        exact wpAny_pure ⟨rfl, _, rfl, fun c hc => sb2.2 c hc, _, es2, _, t3, ho2, hex, rfl, hel1.perm hp2, ⟨ys, h2, h3.trans hp1⟩, hfr, by rw [hsz2]; lia, fun _ => hpl3⟩
      · exact wpAny_pure ⟨rfl, _, rfl, fun c hc => sb1.2 c hc, _, es1, _, t2, ho1, hex, rfl, hel1, ⟨ks1, hks1, hp1⟩, hf2, by lia, fun _ => hpl2⟩
    have fin : ∀ (r : Option Bool) (s' : Shared), (r = some true ∧ ∃ h', s' = { s with heap := h' } ∧ (∀ c, c ≠ a → h'.get? c = s.heap.get? c) ∧ SetS prog w h' a (xs ++ [x])) → wpAny (model prog w) A (match r with | some added => pure added | none => setAddHashedIn a (.str x tx) ((PySem.strKind prog w).hash x) 99999) Q E s' := by
      rintro r s' ⟨rfl, h', rfl, h1, h2⟩
      exact wpAny_pure (h h' true h1 h2)
    split
    · refine wpAny_bind ?_
      rw [hashByValue_scannable 8 rfl]
      refine wpAny_pure ?_
      simp only [plainKind, Bool.false_eq_true, if_false]
      refine wpAny_mono (tail { t1 with plain := false } rfl (SetTable.fits_plain_off hfits)) (fun r s' hq => ?_) fun _ _ e => e
      exact fin r s' hq
    · rename_i hnp
      refine wpAny_bind (wpAny_pure ?_)
      simp only [if_true]
      refine wpAny_mono (tail t1 (by cases hq : t1.plain <;> simp_all) hfits) (fun r s' hq => ?_) fun _ _ e => e
      exact fin r s' hq
end
def stepS (σ : List Str) (x : Str) : List Str := if x ∈ σ then σ else σ ++ [x]
def ddS (xs : List Str) : List Str := xs.foldl stepS []
theorem mem_stepS {σ : List Str} {x z : Str} : z ∈ stepS σ x ↔ z ∈ σ ∨ z = x := by
  unfold stepS
  split
  · rename_i h
    constructor
    · exact .inl
    · rintro (h' | rfl)
      · exact h'
      · exact h
  · simp
theorem nodup_stepS {σ : List Str} {x : Str} (h : σ.Nodup) : (stepS σ x).Nodup := by
  unfold stepS
  split
  · exact h
  · rename_i hx
    rw [List.nodup_append]
    refine ⟨h, by simp, fun a ha b hb e => ?_⟩
    rw [List.mem_singleton.mp hb] at e
    exact hx (e ▸ ha)
theorem mem_fold {z : Str} : ∀ {xs σ : List Str}, z ∈ xs.foldl stepS σ ↔ z ∈ σ ∨ z ∈ xs
  | [], σ => by simp
  | x :: xs, σ => by
    rw [List.foldl_cons, mem_fold, mem_stepS, List.mem_cons, or_assoc]
theorem nodup_fold : ∀ {xs σ : List Str}, σ.Nodup → (xs.foldl stepS σ).Nodup
  | [], σ, h => h
  | x :: xs, σ, h => nodup_fold (xs := xs) (nodup_stepS h)
theorem len_fold : ∀ {xs σ : List Str}, (xs.foldl stepS σ).length ≤ σ.length + xs.length
  | [], σ => by simp
  | x :: xs, σ => by
    have h1 := len_fold (xs := xs) (σ := stepS σ x)
    have h2 : (stepS σ x).length ≤ σ.length + 1 := by unfold stepS; split <;> simp
    rw [List.foldl_cons, List.length_cons]
    lia
section
variable {prog : Program} {w : World} {A : Around} {E : Value → Shared → Prop} {s : Shared}
theorem SetS.keeps {h h' : Heap} {a : Addr} {xs : List Str} (x : SetS prog w h a xs) (k : ∀ o, h.get? a = some o → h'.get? a = some o) : SetS prog w h' a xs := by
  obtain ⟨o, es, ep, t, ho, r⟩ := x
  exact ⟨o, es, ep, t, k o ho, r⟩
theorem upd_loop {I l S : Addr} {items : Array Value} {xs : List Str} {R : Result → Shared → Prop} (W : Walks prog w A.in1 I [I, l] [I] items.size (fun i v => items[i]? = some v) (fun i h => h.IsListIter I l i ∧ h.IsList l items)) (hSI : S ≠ I) (hSl : S ≠ l)
    (hxs : StrsAre items.toList xs) (hb : xs.length + 1 < scanBound) :
    ∀ (k i : Nat) (s : Shared), items.size - i = k → i ≤ items.size → s.heap.IsListIter I l i → s.heap.IsList l items → SetS prog w s.heap S (ddS (xs.take i)) →
      (∀ h' tk, (∀ b o, b ≠ S → b ≠ I → s.heap.get? b = some o → h'.get? b = some o) → SetS prog w h' S (ddS xs) → R (.ok (.ret .none)) { s with heap := h', toks := tk }) →
      codeAny (model prog w) A (.builtin "set.update.loop" ⟨[.ref S, .ref I], []⟩) R s := by
  have hxl : xs.length = items.size := by rw [← hxs.length, Array.length_toList]
  intro k
  induction k with
  | zero =>
    intro i s hk hi hst hl hS hR
    have hin : i = items.size := by lia
    subst hin
    refine codeAny_builtin PyProof.Rows.F.entry_set_update_loop ?_
    rw [Around.under_plainId PyProof.Rows.F.plain_set_update_loop _]
    show wpAny _ A.in1 (pyNext (.ref I) >>= _) _ _ s
    refine wpAny_bind (W.done s _ _ ⟨hst, hl⟩ fun h' tk hm => ?_)
    show wpAny _ A.in1 (ret Value.none) _ _ _
    refine wpAny_pure (hR h' tk (fun b o hbS hbI e => hm b o (by simpa using hbI) e) (SetS.keeps ?_ fun o e => hm _ o (by simpa using hSI) e))
    rwa [← hxl, List.take_length] at hS
  | succ k ih =>
    intro i s hk hi hst hl hS hR
    have hlt : i < items.size := by lia
    refine codeAny_builtin PyProof.Rows.F.entry_set_update_loop ?_
    rw [Around.under_plainId PyProof.Rows.F.plain_set_update_loop _]
    show wpAny _ A.in1 (pyNext (.ref I) >>= _) _ _ s
    refine wpAny_bind (W.item i s _ _ hlt ⟨hst, hl⟩ fun v h₁ tk₁ hP hst' hm => ?_)
    obtain ⟨x, tx, hx, rfl⟩ := hxs.at (k := i) (v := v) (by rw [Array.getElem?_toList]; exact hP)
    have hS₁ : SetS prog w h₁ S (ddS (xs.take i)) := hS.keeps fun o e => hm _ o (by simpa using hSI) e
    show wpAny _ A.in1 (holding [Value.str x tx] (setAdd S (.str x tx)) >>= _) _ _ _
    refine wpAny_bind (wpAny_holding ?_)
    unfold setAdd
    refine wpAny_holding ?_
    refine wpAny_bind ((PySem.strKind prog w).pyHash (k := x) (strKind_is _ _ _ _) ?_)
    have hroom : (ddS (xs.take i)).length + 1 < scanBound := by
      have h1 := len_fold (xs := xs.take i) (σ := [])
      rw [List.length_take] at h1
      simp only [List.length_nil] at h1
      show (List.foldl stepS [] (xs.take i)).length + 1 < scanBound
      lia
    refine addHashed (s := { s with heap := h₁, toks := tk₁ + 1 }) hS₁ hroom fun h₂ b hsb hS₂ => ?_
    have hte : ddS (xs.take (i + 1)) = if x ∈ ddS (xs.take i) then ddS (xs.take i) else ddS (xs.take i) ++ [x] := by
      obtain ⟨hix, rfl⟩ := List.getElem?_eq_some_iff.mp hx
      unfold ddS
      rw [List.take_succ_eq_append_getElem hix, List.foldl_append]
      rfl
    rw [← hte] at hS₂
    refine wpAny_pure ⟨plainId_quiet PyProof.Rows.F.plain_set_update_loop _, ih (i + 1) _ (by lia) hlt (hst'.1.at fun o e => ?_) (hst'.2.at fun o e => ?_) hS₂ fun h' tk hk' hS' => ?_⟩
    · exact (hsb I (Ne.symm hSI)).trans e
    · exact (hsb l (Ne.symm hSl)).trans e
    · exact hR h' tk (fun c o hcS hcI e => hk' c o hcS hcI ((hsb c hcS).trans (hm c o (by simpa using hcI) e))) hS'
end
-- W6t
section
variable {prog : Program} {w : World} {A : Around} {E : Value → Shared → Prop} {s : Shared}
theorem newSetStr {l : Addr} {items : Array Value} {xs : List Str} {Q : Value → Shared → Prop} (hh : A.handled = none) (hl : s.heap.IsList l items) (hxs : StrsAre items.toList xs) (hb : xs.length + 1 < scanBound)
    (h : ∀ h' tk, SetS prog w h' s.heap.objs.size (ddS xs) → (∀ b o, s.heap.get? b = some o → h'.get? b = some o) → Q (.ref s.heap.objs.size) { s with heap := h', toks := tk }) :
    wpAny (model prog w) A (call (.type "set") [.ref l]) Q E s := by
  obtain ⟨c, tl, hmro⟩ := PySem.F.called_set.mro
  have hmade := PySem.F.called_set.made
  have hsub := PySem.F.called_set.sub
  refine wpAny_call (codeAny_of_tree ?_)
  show wpAny _ _ (callAny (.type "set") _) _ _ _
  refine wpAny_pure ⟨Code.quiet_builtin _ (by decide +kernel), codeAny_builtin PySem.F.entry_type_call ?_⟩
  rw [Around.under_plain (weight_type_call_type "set" [.ref l] []) rfl]
  have h1 := PySem.F.called_set.notType
  have h2 := PySem.F.called_set.canCreate
  have hct := PySem.F.typeCall_set_1 (.ref l)
  repeat (any_goals (first | assumption | wp_step))
  refine codeAny_mono (code_set_new_1 (.ref l) (E := E) (Q₁ := fun obj s₁ => ∃ led : Bool, obj = .ref s.heap.objs.size ∧ s₁ = { s with heap := s.heap.push { cls := .type "set", dict := none, data := .set #[] 0 (.fresh 0 0 led) } }) fun led => ⟨led, rfl, rfl⟩) fun r s₁ hr => ?_
  cases r with
  | error e => exact hr
  | ok fl =>
    cases fl with
    | ret obj =>
      obtain ⟨led, rfl, rfl⟩ := hr
      have hS : (s.heap.push { cls := .type "set", dict := none, data := .set #[] 0 (.fresh 0 0 led) }).get? s.heap.objs.size = some { cls := .type "set", dict := none, data := .set #[] 0 (.fresh 0 0 led) } := Heap.get?_push_size _ rfl
      have hT : Shared.TypeIs { s with heap := s.heap.push { cls := .type "set", dict := none, data := .set #[] 0 (.fresh 0 0 led) } } (.ref s.heap.objs.size) "set" := ⟨_, hS, rfl⟩
      have hli := PySem.F.called_set.init.lookup
      have hbi := PySem.F.called_set.init.bind (.ref s.heap.objs.size)
      repeat (any_goals (first | assumption | wp_step))
      refine codeAny_mono (codeAny_call_builtin (R := wants (fun r s₂ => r = .none ∧ ∃ h' tk, s₂ = { s with heap := h', toks := tk } ∧ SetS prog w h' s.heap.objs.size (ddS xs) ∧ (∀ b o, s.heap.get? b = some o → h'.get? b = some o)) E) PySem.F.called_set.init.plain PySem.F.entry_set_init (check_set_init_1 hT ?_)) fun r₂ s₂ hr₂ => ?_
      · obtain ⟨ol, hol, hcl, nl, hdl⟩ := hl
        obtain ⟨ocls, odict, odata, oslots⟩ := ol
        simp only at hcl hdl
        subst hcl; subst hdl
        have hol' : (s.heap.push { cls := .type "set", dict := none, data := .set #[] 0 (.fresh 0 0 led) }).get? l = some { cls := .type "list", dict := odict, data := .seq items nl, slots := oslots } := Heap.get?_push_of_some _ hol
        have hsls := PySem.F.sub_list_set
        have hslf := PySem.F.sub_list_frozenset
        have hne : (Value.type "list" == Value.type "dict") = false := by decide
        have hl1 : (s.heap.push { cls := .type "set", dict := none, data := .set #[] 0 (.fresh 0 0 led) }).IsList l items := ⟨_, hol', rfl, nl, rfl⟩
        unfold Builtin.«set.__init__» noKeywords Builtin.Frozenset.updateFrom
        generalize hPI : pyIter = PI
        wp_walk
        subst hPI
        refine wpAny_pyIter_list hl1 ?_
        refine wpAny_bind (wpAny_runValue ?_)
        have hlS : l < s.heap.objs.size := Heap.lt_size hol
        have hh3 : A.in1.in1.in1.handled = none := by simp [hh]
        have hneI : l ≠ (s.heap.push { cls := .type "set", dict := none, data := .set #[] 0 (.fresh 0 0 led) }).objs.size := by
          rw [Heap.size_push]; exact Nat.ne_of_lt (Nat.lt_succ_of_lt hlS)
        have hSI : s.heap.objs.size ≠ (s.heap.push { cls := .type "set", dict := none, data := .set #[] 0 (.fresh 0 0 led) }).objs.size := by
          rw [Heap.size_push]; exact Nat.ne_of_lt (Nat.lt_succ_self _)
        have hgetS : ((s.heap.push { cls := .type "set", dict := none, data := .set #[] 0 (.fresh 0 0 led) }).push { cls := .type "list_iterator", data := .fields #[.ref l, .int 0 0] }).get? s.heap.objs.size = some { cls := .type "set", dict := none, data := .set #[] 0 (.fresh 0 0 led) } := Heap.get?_push_of_some _ hS
        refine upd_loop (Walks.list hh3 _ l hneI items) hSI (Nat.ne_of_gt hlS) hxs hb (items.size - 0) 0 _ (by lia) (Nat.zero_le _) ⟨_, Heap.get?_push_size _ rfl, rfl, rfl⟩ (hl1.push _) ⟨_, #[], 0, _, hgetS, ⟨rfl, rfl, rfl⟩, rfl, fun e he => by simp at he, ⟨[], trivial, .refl _⟩, by rfl, by decide, fun h => absurd rfl h⟩ ?_
        intro h' tk hk hS'
        show wpAny _ _ _ _ _ _
        refine wpAny_pure ?_
        show wpAny _ _ (ret Value.none) _ _ _
        refine wpAny_pure ⟨rfl, h', tk, rfl, hS', fun b o e => hk b o (Nat.ne_of_lt (Heap.lt_size e)) ?_ (Heap.get?_push_of_some _ (Heap.get?_push_of_some _ e))⟩
        rw [Heap.size_push]
        exact Nat.ne_of_lt (Nat.lt_succ_of_lt (Heap.lt_size e))
      · cases r₂ with
        | error e => exact hr₂
        | ok fl₂ =>
          cases fl₂ with
          | ret r =>
            obtain ⟨rfl, h', tk, rfl, hS', hk'⟩ := hr₂
            repeat (any_goals (first | assumption | wp_step))
            exact h _ _ hS' hk'
          | _ => exact hr₂.elim
    | _ => exact hr.elim
end
-- W6u
theorem choose37 {M : Model} {A : Around} {E : Value → Shared → Prop} {s : Shared} {src : Source} {n : Nat} {Q : Nat → Shared → Prop} (hn : n ≠ 0) (h : ∀ i dr, i < n → Q i { s with drawn := dr }) : wpAny M A (choose src n) Q E s :=
  fun Γ p hΓ => ⟨hn, h _ _ (Nat.mod_lt _ (Nat.pos_of_ne_zero hn))⟩
theorem erase_perm {α : Type} : ∀ {l : List α} {i : Nat} (h : i < l.length), (l[i] :: l.eraseIdx i).Perm l
  | x :: l, 0, _ => .refl _
  | x :: l, i + 1, h => (List.Perm.swap _ _ _).trans ((erase_perm (l := l) (i := i) (by simpa using h)).cons x)
theorem drawOrder37 {M : Model} {A : Around} {E : Value → Shared → Prop} {α : Type} : ∀ (n : Nat) (l : List α) (s : Shared) (Q : List α → Shared → Prop), l.length = n → (∀ l' dr, l'.Perm l → Q l' { s with drawn := dr }) → wpAny M A (drawOrder n l) Q E s
  | 0, l, s, Q, hl, h => by
    obtain rfl : l = [] := List.length_eq_zero_iff.mp hl
    unfold drawOrder
    exact wpAny_pure (h [] s.drawn (.refl _))
  | n + 1, [], s, Q, hl, h => by simp at hl
  | n + 1, x :: l, s, Q, hl, h => by
    unfold drawOrder
    refine wpAny_bind (choose37 (by simp) fun i dr hi => ?_)
    rw [List.getElem?_eq_getElem hi]
    dsimp only
    refine wpAny_bind (drawOrder37 n _ _ _ (by rw [List.length_eraseIdx_of_lt hi]; lia) fun l' dr' hp => ?_)
    exact wpAny_pure (h _ dr' ((hp.cons _).trans (erase_perm hi)))
theorem pick_go {α : Type} (next : Nat → Nat) : ∀ (fuel k : Nat) (left : List α) (out : Array α), left.length ≤ fuel → (pickOrder.go next fuel k left out).toList.Perm (out.toList ++ left)
  | 0, k, left, out, h => by
    obtain rfl : left = [] := List.length_eq_zero_iff.mp (by lia)
    unfold pickOrder.go
    simp
  | fuel + 1, k, left, out, h => by
    unfold pickOrder.go
    rcases Nat.eq_zero_or_pos left.length with h0 | h0
    · obtain rfl : left = [] := List.length_eq_zero_iff.mp h0
      simp
    · have hi : next k % left.length < left.length := Nat.mod_lt _ h0
      rw [List.getElem?_eq_getElem hi]
      dsimp only
      refine (pick_go next fuel (k + 1) _ _ (by rw [List.length_eraseIdx_of_lt hi]; lia)).trans ?_
      rw [Array.toList_push, List.append_assoc]
      exact (erase_perm hi).append_left _
theorem pick_perm {α : Type} (next : Nat → Nat) (xs : Array α) : (pickOrder next xs).toList.Perm xs.toList := by
  unfold pickOrder
  exact pick_go next _ 0 _ _ (by simp)
abbrev iterO (first : Value) (i : Nat) (S : Addr) (n ep : Nat) : Obj := { cls := .type "set_iterator", data := .fields #[first, .int (i : Int) 0, .ref S, .int (n : Int) 0, .int (ep : Int) 0] }
theorem si_next : Slot "set_iterator" "__next__" "set_iterator.__next__" :=
  .of (owner := "set_iterator") (n := "__next__") (by rw [typeLookup_type, builtinLookup_eq_fast]; kernel_rfl) (by decide +kernel) (by decide +kernel) (by decide +kernel)
    (by first | exact .inl (by decide +kernel) | exact .inr (by decide +kernel)) (by rw [isSubtype_type]; kernel_rfl)
theorem si_entry : entryFor table "set_iterator.__next__" = some Builtin.«set_iterator.__next__» := entryFor_of_tree (by kernel_rfl)
theorem si_owner : Manifest.owners.lookup (String.ofList ['r', 'o', 't', 'a', 'r', 'e', 't', 'i', '_', 't', 'e', 's'].reverse) = some Manifest.sig_set_iterator := by kernel_rfl
theorem si_args (a : Value) : argsOk "set_iterator.__next__" ⟨[a], []⟩ := by
  unfold argsOk; rw [signature?_of (id := "set_iterator.__next__") (n := ['_', '_', 't', 'x', 'e', 'n', '_', '_']) (o := ['r', 'o', 't', 'a', 'r', 'e', 't', 'i', '_', 't', 'e', 's']) (by kernel_rfl) si_owner]; kernel_rfl
theorem si_iter : Slot "set_iterator" "__iter__" "set_iterator.__iter__" :=
  .of (owner := "set_iterator") (n := "__iter__") (by rw [typeLookup_type, builtinLookup_eq_fast]; kernel_rfl) (by decide +kernel) (by decide +kernel) (by decide +kernel)
    (by first | exact .inl (by decide +kernel) | exact .inr (by decide +kernel)) (by rw [isSubtype_type]; kernel_rfl)
theorem si_iter_entry : entryFor table "set_iterator.__iter__" = some Builtin.«dict_keyiterator.__iter__» :=
  entryFor_alias (id' := "dict_keyiterator.__iter__") (by kernel_rfl) rfl (by decide +kernel) (by kernel_rfl)
theorem si_iter_args (a : Value) : argsOk "set_iterator.__iter__" ⟨[a], []⟩ := by
  unfold argsOk; rw [signature?_of (id := "set_iterator.__iter__") (n := ['_', '_', 'r', 'e', 't', 'i', '_', '_']) (o := ['r', 'o', 't', 'a', 'r', 'e', 't', 'i', '_', 't', 'e', 's']) (by kernel_rfl) si_owner]; kernel_rfl
theorem set_iter_entry : entryFor table "set.__iter__" = some Builtin.«frozenset.__iter__» :=
  entryFor_alias (id' := "frozenset.__iter__") (by kernel_rfl) rfl (by decide +kernel) (by kernel_rfl)
-- W6v
section
variable {prog : Program} {w : World} {A : Around} {E : Value → Shared → Prop} {s : Shared}
theorem si_type {I S : Addr} {first : Value} {i n ep : Nat} (h : s.heap.get? I = some (iterO first i S n ep)) : s.TypeIs (.ref I) "set_iterator" := ⟨_, h, rfl⟩
theorem si_self {I S : Addr} {first : Value} {i n ep : Nat} {Q : Value → Shared → Prop} (h : s.heap.get? I = some (iterO first i S n ep)) (hQ : Q (.ref I) s) : wpAny (model prog w) A (pyIter (.ref I)) Q E s := by
  refine wpAny_pyIter_slot (si_type h) si_iter (wpAny_call_entry si_iter (si_type h) si_iter_entry ?_ (si_iter_args _))
  show wpAny _ _ (ret (.ref I)) _ _ s
  exact wpAny_pure ⟨_, rfl, "set_iterator", _, si_type h, si_next.lookup, hQ⟩
theorem si_walkD {I S T : Addr} {o : Obj} {es : Array (Int × Value)} {ep : Nat} {t : SetTable} {pl : List Nat} (hh : A.handled = none) (hSI : S ≠ I) (hTI : T ≠ I) (hd : o.data = .set es ep t) (hf : t.fits es.size = true) (hpl : pl.length = es.size) (hin : ∀ p ∈ pl, p < es.size) :
    Walks prog w A I [I, S, T] [I] pl.length (fun i v => ∃ p e, pl[i]? = some p ∧ es[p]? = some e ∧ v = e.2)
      (fun i h => h.get? I = some (iterO (.ref T) i S es.size ep) ∧ h.get? S = some o ∧ h.get? T = some { cls := .type "tuple", data := .seq (pl.map fun (p : Nat) => rawInt p).toArray }) where
  sub := fun b hb => by rw [List.mem_singleton.mp hb]; exact .head _
  frame := fun i h h' st hk => ⟨hk I (by simp) _ st.1, hk S (by simp) _ st.2.1, hk T (by simp) _ st.2.2⟩
  self := fun i s Q E st hQ => si_self st.1 hQ
  item := fun i s Q E hi st hQ => by
    obtain ⟨hI, hS, hT⟩ := st
    unfold pyNext
    refine wpAny_bind (wpAny_attempt (wpAny_callSpecial?_slot (name := Str.ofString "__next__") (si_type hI) si_next (wpAny_call_entry si_next (si_type hI) si_entry ?_ (si_args _))))
    unfold Builtin.«set_iterator.__next__»
    refine wpAny_bind (wpAny_pure ?_)
    refine wpAny_bind (wpAny_fieldsOf hI rfl ?_)
    dsimp only
    refine wpAny_bind (wpAny_setEntries_of hS hd hf ?_)
    simp only [bne_self_eq_false, Bool.false_eq_true, if_false]
    refine wpAny_bind (wpAny_seqItems hT rfl ?_)
    have hp : pl[i]? = some pl[i] := List.getElem?_eq_getElem hi
    have hpi := hin pl[i] (List.getElem_mem hi)
    have he : es[pl[i]]? = some es[pl[i]] := Array.getElem?_eq_getElem hpi
    generalize pl[i] = p at hp hpi he
    have hm : (List.map (fun (p : Nat) => rawInt p) pl).toArray[((i : Nat) : Int).toNat]? = some (.int (p : Int) 0) := by
      rw [Int.toNat_natCast, List.getElem?_toArray, List.getElem?_map, hp]
      rfl
    dsimp only
    rw [hm]
    dsimp only
    refine wpAny_bind ?_
    unfold setNextDrawn
    refine wpAny_bind (wpAny_setState_of hS hd hf ?_)
    simp only [Int.toNat_natCast, bne_self_eq_false, Bool.false_eq_true, if_false]
    rw [he]
    dsimp only
    refine wpAny_pure ?_
    refine wpAny_bind (wpAny_setField_rec hI (by simp) fun h₂ hI₂ hs₂ => ?_)
    refine wpAny_pure ⟨_, rfl, wpAny_pure (hQ _ h₂ s.toks ⟨p, _, hp, he, rfl⟩ ⟨?_, (hs₂.2 S hSI).trans hS, (hs₂.2 T hTI).trans hT⟩ fun b o hb e => hs₂.extBut b o (fun q => hb (by simp [q])) e)⟩
    rw [hI₂]
    simp [rawInt]
  done := fun s Q E st hQ => by
    obtain ⟨hI, hS, hT⟩ := st
    unfold pyNext
    refine wpAny_bind (wpAny_attempt (wpAny_callSpecial?_slot (name := Str.ofString "__next__") (si_type hI) si_next (wpAny_call_entry si_next (si_type hI) si_entry ?_ (si_args _))))
    unfold Builtin.«set_iterator.__next__»
    refine wpAny_bind (wpAny_pure ?_)
    refine wpAny_bind (wpAny_fieldsOf hI rfl ?_)
    dsimp only
    refine wpAny_bind (wpAny_setEntries_of hS hd hf ?_)
    simp only [bne_self_eq_false, Bool.false_eq_true, if_false]
    refine wpAny_bind (wpAny_seqItems hT rfl ?_)
    have hm : (List.map (fun (p : Nat) => rawInt p) pl).toArray[((pl.length : Nat) : Int).toNat]? = none := by
      rw [Int.toNat_natCast, List.getElem?_toArray]
      exact List.getElem?_eq_none (by simp)
    dsimp only
    rw [hm]
    dsimp only
    refine wpAny_bind (wpAny_setField_rec hI (by simp) fun h₂ hI₂ hs₂ => ?_)
    refine wpAny_bind (wpAny_setField_rec hI₂ (by simp) fun h₃ hI₃ hs₃ => ?_)
    refine wpAny_bind ?_
    simp only [newExc, newTuple]
    refine wpAny_bind (wpAny_newObj_type ?_ (by size_fits))
    refine wpAny_bind (m := firstArgMember _ _) (wpAny_of_eq (a := Value.none) (by first | rfl | (simp only [firstArgMember]; rfl)) ?_)
    refine wpAny_newObj_type ?_ (by size_fits)
    simp only [raiseNew]
    refine wpAny_bind (wpAny_handled ?_)
    rw [show A.in1.handled = none from hh]
    refine wpAny_bind (wpAny_pure (wpAny_throw ?_))
    refine wpAny_bind (wpAny_isInstance (T := "StopIteration") (b := true) ⟨_, Heap.get?_push_size _ rfl, rfl⟩ isSubtype_stop ?_)
    exact wpAny_pure (hQ _ _ fun b o hb e => Heap.get?_push_of_some _ (Heap.get?_push_of_some _ (hs₃.extBut b o (fun q => hb (by simp [q])) (hs₂.extBut b o (fun q => hb (by simp [q])) e))))
theorem byText37 {Q : Bool → Shared → Prop} (h : Q (w.params.followText "set-order") s) : wpAny (model prog w) A setsByText Q E s := by
  unfold setsByText
  exact wpAny_bind (wpAny_askSetting (wpAny_pure h))
theorem si_walkT {I S : Addr} {o : Obj} {es : Array (Int × Value)} {ep : Nat} {t : SetTable} (hh : A.handled = none) (hSI : S ≠ I) (hd : o.data = .set es ep t) (hf : t.fits es.size = true) (htx : w.params.followText "set-order" = true) :
    Walks prog w A I [I, S] [I] es.size (fun i v => ∃ e, (pickOrder (w.params.setOrder S ep) es)[i]? = some e ∧ v = e.2)
      (fun i h => h.get? I = some (iterO (rawInt 0) i S es.size ep) ∧ h.get? S = some o) where
  sub := fun b hb => by rw [List.mem_singleton.mp hb]; exact .head _
  frame := fun i h h' st hk => ⟨hk I (by simp) _ st.1, hk S (by simp) _ st.2⟩
  self := fun i s Q E st hQ => si_self st.1 hQ
  item := fun i s Q E hi st hQ => by
    obtain ⟨hI, hS⟩ := st
    unfold pyNext
    refine wpAny_bind (wpAny_attempt (wpAny_callSpecial?_slot (name := Str.ofString "__next__") (si_type hI) si_next (wpAny_call_entry si_next (si_type hI) si_entry ?_ (si_args _))))
    unfold Builtin.«set_iterator.__next__»
    refine wpAny_bind (wpAny_pure ?_)
    refine wpAny_bind (wpAny_fieldsOf hI rfl ?_)
    dsimp only
    refine wpAny_bind (wpAny_setEntries_of hS hd hf ?_)
    simp only [bne_self_eq_false, Bool.false_eq_true, if_false]
    have hlen : (pickOrder (w.params.setOrder S ep) es).size = es.size := by
      rw [← Array.length_toList, (pick_perm _ _).length_eq, Array.length_toList]
    have he : (pickOrder (w.params.setOrder S ep) es)[i]? = some ((pickOrder (w.params.setOrder S ep) es)[i]'(by lia)) := Array.getElem?_eq_getElem (by lia)
    generalize (pickOrder (w.params.setOrder S ep) es)[i]'(by lia) = e at he
    show wpAny _ _ (setNext S _ _ _ >>= _) _ _ _
    refine wpAny_bind ?_
    unfold setNext
    refine wpAny_bind (wpAny_setState_of hS hd hf ?_)
    dsimp only
    refine wpAny_bind (byText37 ?_)
    rw [htx]
    simp only [Int.toNat_natCast, bne_self_eq_false, Bool.false_eq_true, if_false, if_true]
    refine wpAny_bind ?_
    unfold setWalk
    refine wpAny_bind (wpAny_setState_of hS hd hf ?_)
    dsimp only
    refine wpAny_bind (byText37 ?_)
    rw [htx]
    simp only [if_true]
    refine wpAny_bind (wpAny_askSetting (wpAny_pure ?_))
    dsimp only
    refine wpAny_pure ?_
    rw [show (pickOrder ((model prog w).w.params.setOrder S ep) es)[i]? = some e from he]
    dsimp only [Option.map]
    refine wpAny_bind (wpAny_setField_rec hI (by simp) fun h₁ hI₁ hs₁ => ?_)
    refine wpAny_bind (wpAny_setField_rec hI₁ (by simp) fun h₂ hI₂ hs₂ => ?_)
    refine wpAny_pure ⟨_, rfl, wpAny_pure (hQ _ h₂ s.toks ⟨e, he, rfl⟩ ⟨?_, (hs₂.2 S hSI).trans ((hs₁.2 S hSI).trans hS)⟩ fun b o hb e => hs₂.extBut b o (fun q => hb (by simp [q])) (hs₁.extBut b o (fun q => hb (by simp [q])) e))⟩
    rw [hI₂]
    simp [rawInt]
  done := fun s Q E st hQ => by
    obtain ⟨hI, hS⟩ := st
    unfold pyNext
    refine wpAny_bind (wpAny_attempt (wpAny_callSpecial?_slot (name := Str.ofString "__next__") (si_type hI) si_next (wpAny_call_entry si_next (si_type hI) si_entry ?_ (si_args _))))
    unfold Builtin.«set_iterator.__next__»
    refine wpAny_bind (wpAny_pure ?_)
    refine wpAny_bind (wpAny_fieldsOf hI rfl ?_)
    dsimp only
    refine wpAny_bind (wpAny_setEntries_of hS hd hf ?_)
    simp only [bne_self_eq_false, Bool.false_eq_true, if_false]
    have hlen : (pickOrder (w.params.setOrder S ep) es).size = es.size := by
      rw [← Array.length_toList, (pick_perm _ _).length_eq, Array.length_toList]
    have he : (pickOrder (w.params.setOrder S ep) es)[es.size]? = none := Array.getElem?_eq_none (by lia)
    show wpAny _ _ (setNext S _ _ _ >>= _) _ _ _
    refine wpAny_bind ?_
    unfold setNext
    refine wpAny_bind (wpAny_setState_of hS hd hf ?_)
    dsimp only
    refine wpAny_bind (byText37 ?_)
    rw [htx]
    simp only [Int.toNat_natCast, bne_self_eq_false, Bool.false_eq_true, if_false, if_true]
    refine wpAny_bind ?_
    unfold setWalk
    refine wpAny_bind (wpAny_setState_of hS hd hf ?_)
    dsimp only
    refine wpAny_bind (byText37 ?_)
    rw [htx]
    simp only [if_true]
    refine wpAny_bind (wpAny_askSetting (wpAny_pure ?_))
    dsimp only
    refine wpAny_pure ?_
    rw [show (pickOrder ((model prog w).w.params.setOrder S ep) es)[es.size]? = none from he]
    dsimp only [Option.map]
    refine wpAny_bind (wpAny_setField_rec hI (by simp) fun h₂ hI₂ hs₂ => ?_)
    refine wpAny_bind ?_
    simp only [newExc, newTuple]
    refine wpAny_bind (wpAny_newObj_type ?_ (by size_fits))
    refine wpAny_bind (m := firstArgMember _ _) (wpAny_of_eq (a := Value.none) (by first | rfl | (simp only [firstArgMember]; rfl)) ?_)
    refine wpAny_newObj_type ?_ (by size_fits)
    simp only [raiseNew]
    refine wpAny_bind (wpAny_handled ?_)
    rw [show A.in1.handled = none from hh]
    refine wpAny_bind (wpAny_pure (wpAny_throw ?_))
    refine wpAny_bind (wpAny_isInstance (T := "StopIteration") (b := true) ⟨_, Heap.get?_push_size _ rfl, rfl⟩ isSubtype_stop ?_)
    exact wpAny_pure (hQ _ _ fun b o hb e => Heap.get?_push_of_some _ (Heap.get?_push_of_some _ (hs₂.extBut b o (fun q => hb (by simp [q])) e)))
end
-- W6w
theorem items_list {P : Nat → Value → Prop} {acc : Array Value} {vs : List Value} (h : ItemsOf P acc vs.length) (hP : ∀ j v, P j v → vs[j]? = some v) : acc.toList = vs := by
  apply List.ext_getElem?
  intro j
  by_cases hj : j < vs.length
  · have hja : j < acc.size := by rw [h.1]; exact hj
    have e : acc.toList[j]? = some acc[j] := by rw [Array.getElem?_toList]; exact Array.getElem?_eq_getElem hja
    rw [e, hP j acc[j] (h.2 j _ (Array.getElem?_eq_getElem hja))]
  · rw [List.getElem?_eq_none (by rw [Array.length_toList, h.1]; lia), List.getElem?_eq_none (by lia)]
section
variable {prog : Program} {w : World} {A : Around} {E : Value → Shared → Prop} {s : Shared}
theorem iter_set {S : Addr} {xs : List Str} {Q : Value → Shared → Prop} (hS : SetS prog w s.heap S xs) (h2 : 2 ≤ xs.length)
    (h : ∀ (I : Addr) (fp : List Addr) (P : Nat → Value → Prop) (St : Nat → Heap → Prop) (h₁ : Heap) (dr : Drawn), (∀ A' : Around, A'.handled = none → Walks prog w A' I fp [I] xs.length P St) → St 0 h₁ → (∀ b ∈ fp, b = S ∨ s.heap.objs.size ≤ b) →
      (∀ b o, s.heap.get? b = some o → h₁.get? b = some o) → s.heap.objs.size ≤ I → (∀ acc, ItemsOf P acc xs.length → ∃ zs, StrsAre acc.toList zs ∧ zs.Perm xs) → Q (.ref I) { s with heap := h₁, drawn := dr }) :
    wpAny (model prog w) A (pyIter (.ref S)) Q E s := by
  obtain ⟨o, es, ep, t, ho, hex, hd, hel, ⟨ks, hks, hp⟩, hf, hb, hpl⟩ := id hS
  have hT : s.TypeIs (.ref S) "set" := ⟨o, ho, hex.1⟩
  have hsz : es.size = xs.length := by
    have h1 := hks.length
    rw [List.length_map, Array.length_toList] at h1
    rw [h1, hp.length_eq]
  have hlt : S < s.heap.objs.size := Heap.lt_size ho
  have hz : es.size ≤ sizeLine := fits_of_scanBound hb
  have hplain : t.plain = false := hpl (by intro e; rw [e] at h2; simp at h2)
  have finish : ∀ acc : Array Value, acc.toList.Perm (es.toList.map (·.2)) → ∃ zs, StrsAre acc.toList zs ∧ zs.Perm xs := by
    intro acc hpa
    obtain ⟨ys, h3, h4⟩ := perm_strs hks hpa
    exact ⟨ys, h3, h4.trans hp⟩
  refine wpAny_pyIter_slot hT PySem.F.slot_set_iter (wpAny_call_entry PySem.F.slot_set_iter hT set_iter_entry ?_ (PySem.F.args_set_iter_1 _))
  unfold Builtin.«frozenset.__iter__»
  refine wpAny_bind (wpAny_pure ?_)
  refine wpAny_bind ?_
  unfold Builtin.Frozenset.sizeOf
  refine wpAny_bind (wpAny_setEntries_of ho hd hf (wpAny_pure ?_))
  refine wpAny_bind ?_
  unfold setDrawn
  refine wpAny_bind (wpAny_setState_of ho hd hf ?_)
  dsimp only
  refine wpAny_bind (byText37 ?_)
  cases htx : w.params.followText "set-order" with
  | true =>
    simp only [Bool.not_true, Bool.false_and]
    refine wpAny_pure ?_
    simp only [Bool.false_eq_true, if_false]
    refine wpAny_bind (wpAny_pure ?_)
    refine wpAny_bind (wpAny_setEpoch_of ho hd hf ?_)
    refine wpAny_bind ?_
    unfold newFields
    refine wpAny_newObj_type ?_ (by size_fits)
    refine wpAny_pure ⟨_, rfl, "set_iterator", _, ⟨_, Heap.get?_push_size _ rfl, rfl⟩, si_next.lookup, ?_⟩
    have up : ∀ b o', s.heap.get? b = some o' → (s.heap.push (iterO (rawInt 0) 0 S es.size ep)).get? b = some o' := fun b o' e => Heap.get?_push_of_some _ e
    have hlen : (pickOrder (w.params.setOrder S ep) es).size = es.size := by
      rw [← Array.length_toList, (pick_perm _ _).length_eq, Array.length_toList]
    refine h s.heap.objs.size [s.heap.objs.size, S] (fun i v => ∃ e, (pickOrder (w.params.setOrder S ep) es)[i]? = some e ∧ v = e.2) (fun i h => h.get? s.heap.objs.size = some (iterO (rawInt 0) i S es.size ep) ∧ h.get? S = some o) _ s.drawn
      (fun A' hh => hsz ▸ si_walkT hh (Nat.ne_of_lt hlt) hd hf htx) ⟨Heap.get?_push_size _ rfl, up S o ho⟩ ?_ up (Nat.le_refl _) ?_
    · intro b hb'
      simp only [List.mem_cons, List.not_mem_nil, or_false] at hb'
      rcases hb' with rfl | rfl
      · exact .inr (Nat.le_refl _)
      · exact .inl rfl
    · intro acc hacc
      refine finish acc ?_
      have e1 : acc.toList = (pickOrder (w.params.setOrder S ep) es).toList.map (·.2) := by
        refine items_list (P := fun i v => ∃ e, (pickOrder (w.params.setOrder S ep) es)[i]? = some e ∧ v = e.2) (by rw [List.length_map, Array.length_toList, hlen, hsz]; exact hacc) fun j v hP => ?_
        obtain ⟨e, he, rfl⟩ := hP
        rw [List.getElem?_map, Array.getElem?_toList, he]
        rfl
      rw [e1]
      exact (pick_perm _ _).map _
  | false =>
    have hdr : (!t.plain && decide (es.size > 1)) = true := by
      rw [hplain]
      simp only [Bool.not_false, Bool.true_and, decide_eq_true_eq]
      lia
    simp only [Bool.not_false, Bool.true_and]
    refine wpAny_pure ?_
    split
    case isFalse hc => exact absurd hdr hc
    refine wpAny_bind ?_
    refine drawOrder37 es.size (List.range es.size) _ _ (by simp) fun pl dr hper => ?_
    have hpll : pl.length = es.size := by rw [hper.length_eq, List.length_range]
    refine wpAny_bind ?_
    refine wpAny_newTuple ?_ (by rw [List.length_map, hpll]; exact hz)
    dsimp only
    have ho₁ : (s.heap.push { cls := .type "tuple", data := .seq (pl.map fun (i : Nat) => rawInt i).toArray }).get? S = some o := Heap.get?_push_of_some _ ho
    have hT₁ : (s.heap.push { cls := .type "tuple", data := .seq (pl.map fun (i : Nat) => rawInt i).toArray }).get? s.heap.objs.size = some { cls := .type "tuple", data := .seq (pl.map fun (i : Nat) => rawInt i).toArray } := Heap.get?_push_size _ rfl
    have hs₁ : (s.heap.push { cls := .type "tuple", data := .seq (pl.map fun (i : Nat) => rawInt i).toArray }).objs.size = s.heap.objs.size + 1 := Heap.size_push ..
    have up₁ : ∀ b o', s.heap.get? b = some o' → (s.heap.push { cls := .type "tuple", data := .seq (pl.map fun (i : Nat) => rawInt i).toArray }).get? b = some o' := fun b o' e => Heap.get?_push_of_some _ e
    generalize s.heap.push { cls := .type "tuple", data := .seq (pl.map fun (i : Nat) => rawInt i).toArray } = h₁ at ho₁ hT₁ hs₁ up₁ ⊢
    refine wpAny_bind (wpAny_setEpoch_of ho₁ hd hf ?_)
    refine wpAny_bind ?_
    unfold newFields
    refine wpAny_newObj_type ?_ (by size_fits)
    refine wpAny_pure ⟨_, rfl, "set_iterator", _, ⟨_, Heap.get?_push_size _ rfl, rfl⟩, si_next.lookup, ?_⟩
    have hin : ∀ p ∈ pl, p < es.size := fun p hp' => List.mem_range.mp (hper.mem_iff.mp hp')
    have hSI : S ≠ h₁.objs.size := by rw [hs₁]; exact Nat.ne_of_lt (Nat.lt_succ_of_lt hlt)
    have hTI : s.heap.objs.size ≠ h₁.objs.size := by rw [hs₁]; exact Nat.ne_of_lt (Nat.lt_succ_self _)
    refine h h₁.objs.size [h₁.objs.size, S, s.heap.objs.size] (fun i v => ∃ p e, pl[i]? = some p ∧ es[p]? = some e ∧ v = e.2)
      (fun i h => h.get? h₁.objs.size = some (iterO (.ref s.heap.objs.size) i S es.size ep) ∧ h.get? S = some o ∧ h.get? s.heap.objs.size = some { cls := .type "tuple", data := .seq (pl.map fun (p : Nat) => rawInt p).toArray }) _ dr
      (fun A' hh => (hpll.trans hsz) ▸ si_walkD hh hSI hTI hd hf hpll hin) ⟨Heap.get?_push_size _ rfl, Heap.get?_push_of_some _ ho₁, Heap.get?_push_of_some _ hT₁⟩ ?_ (fun b o' e => Heap.get?_push_of_some _ (up₁ b o' e)) (by rw [hs₁]; exact Nat.le_succ _) ?_
    · intro b hb'
      simp only [List.mem_cons, List.not_mem_nil, or_false] at hb'
      rcases hb' with rfl | rfl | rfl
      · exact .inr (by rw [hs₁]; exact Nat.le_succ _)
      · exact .inl rfl
      · exact .inr (Nat.le_refl _)
    · intro acc hacc
      refine finish acc ?_
      have e1 : acc.toList = pl.map (fun p => (es[p]?.map (·.2)).getD .none) := by
        refine items_list (P := fun i v => ∃ p e, pl[i]? = some p ∧ es[p]? = some e ∧ v = e.2) (by rw [List.length_map, hpll, hsz]; exact hacc) fun j v hP => ?_
        obtain ⟨p, e, h5, h6, rfl⟩ := hP
        rw [List.getElem?_map, h5]
        simp [h6]
      have e2 : (List.range es.size).map (fun p => (es[p]?.map (·.2)).getD .none) = es.toList.map (·.2) := by
        apply List.ext_getElem?
        intro j
        by_cases hj : j < es.size
        · simp [hj]
        · simp [hj]
      rw [e1, ← e2]
      exact hper.map _
end
-- W6x
section
variable {prog : Program} {w : World} {A : Around} {E : Value → Shared → Prop} {s : Shared}
theorem hint_set {r : Addr} {Q : Bool → Shared → Prop} (hT : s.TypeIs (.ref r) "set") (h : Q false s) : wpAny (model prog w) A (Builtin.List.listLengthHint (.ref r)) Q E s := by
  unfold Builtin.List.listLengthHint
  refine wpAny_bind (wpAny_specialOf hT PySem.F.slot_set_len.lookup ?_)
  generalize hid : ("set.__len__" : String) = id0
  wp_delta
  rw [show splitId id0 = some ("set", "__len__") from by subst hid; decide +kernel]
  subst hid
  refine wpAny_bind (wpAny_isInstance (T := "set") (b := true) hT (by rw [isSubtype_type]; kernel_rfl) ?_)
  refine wpAny_ite_split (fun hab => absurd hab (by decide)) (fun _ => ?_)
  refine wpAny_ite_split (fun _ => ?_) (fun hab => absurd (by decide +kernel) hab)
  refine wpAny_bind (wpAny_typeOf hT ?_)
  exact wpAny_pure h
theorem set_extend {S D : Addr} {xs : List Str} {res : Value} {R : Result → Shared → Prop} (hS : SetS prog w s.heap S xs) (h2 : 2 ≤ xs.length) (hn : xs.length ≤ 1000) (hh : A.handled = none) (hD : s.heap.get? D = some { cls := .type "list", data := .seq #[] 0 }) (hDS : D ≠ S)
    (hR : ∀ h' tk dr acc c', (∀ b o, b ≠ D → s.heap.get? b = some o → h'.get? b = some o) → h'.get? D = some { cls := .type "list", dict := none, data := .seq acc c', slots := #[] } → (∃ zs, StrsAre acc.toList zs ∧ zs.Perm xs) → R (.ok (.ret res)) { s with heap := h', toks := tk, drawn := dr }) :
    wpAny (model prog w) A.in1 (Builtin.List.listExtendWith (.ref D) (.ref S) res)
      (fun fin s' => match fin with | .done f => R (.ok f) s' | .again c' => c'.quiet = true ∧ codeAny (model prog w) A c' R s') (fun e s' => R (.error e) s') s := by
  have hT : s.TypeIs (.ref S) "set" := by
    obtain ⟨o, es, ep, t, ho, hex, _⟩ := hS
    exact ⟨o, ho, hex.1⟩
  have hDlt : D < s.heap.objs.size := Heap.lt_size hD
  have hz : xs.length ≤ sizeLine := by rw [sizeLine_eq]; lia
  unfold Builtin.List.listExtendWith
  refine wpAny_bind (wpAny_typeOf hT ?_)
  have h1 : Builtin.List.listSameRef (.ref D) (.ref S) = false := by simp [Builtin.List.listSameRef, hDS]
  simp only [h1, show (Value.type "set" == Value.type "list") = false by decide, show (Value.type "set" == Value.type "tuple") = false by decide, Bool.or_false, Bool.false_eq_true, if_false]
  refine wpAny_bind (iter_set hS h2 fun I fp P St h₁ dr hW st hfp up hI hacc => ?_)
  have hDI : D ≠ I := Nat.ne_of_lt (Nat.lt_of_lt_of_le hDlt hI)
  have hDf : D ∉ fp := fun hm => by
    rcases hfp D hm with e | e
    · exact hDS e
    · exact absurd hDlt (Nat.not_lt.mpr e)
  have W := hW A.in1 (by simp [hh])
  have hD₁ : h₁.get? D = some { cls := .type "list", data := .seq #[] 0 } := up D _ hD
  have key : ∀ (h : Heap) (c₁ : Nat), St 0 h → (∀ b o, b ≠ D → s.heap.get? b = some o → h.get? b = some o) →
      h.get? D = some { cls := .type "list", data := .seq #[] c₁ } → codeAny (model prog w) A (.builtin "list.extend.loop" ⟨[.ref D, .ref I, res], []⟩) R { s with heap := h, drawn := dr } := by
    intro h c₁ hst hk hS₁
    refine codeAny_extend_loopS W.toS hz D hDf res xs.length 0 _ #[] c₁ rfl (Nat.zero_le _) hst hS₁ (ItemsOf.nil _) fun s' acc' c' hm hS' ha => ?_
    rw [Moved.eq_with hm]
    refine hR s'.heap s'.toks dr acc' c' (fun b o hb e => hm.heap b o (fun hmem => ?_) (hk b o hb e)) hS' (hacc acc' ha)
    rcases List.mem_cons.mp hmem with e' | hmem
    · exact hb e'
    · rw [List.mem_singleton.mp hmem] at e
      exact absurd (Heap.lt_size e) (Nat.not_lt.mpr hI)
  refine wpAny_bind (wpAny_holding (hint_set (by obtain ⟨o, ho, hc⟩ := hT; exact ⟨o, up _ _ ho, hc⟩) ?_))
  refine wpAny_ite_split (fun _ => ?_) (fun _ => wpAny_pure ⟨plainId_quiet PySem.F.plain_extend_loop _, key _ 0 st (fun b o _ e => up b o e) hD₁⟩)
  refine wpAny_bind (wpAny_rule ?_)
  refine wpAny_bind ?_
  show wpAny _ _ (updateSeq D (·.push .none) >>= fun _ => updateSeq D (·.pop)) _ _ _
  refine wpAny_bind (wpAny_updateSeq hD₁ rfl ?_)
  have hD₂ := Heap.get?_update_self (Obj.mapSeq (·.push Value.none)) hD₁ rfl
  refine wpAny_updateSeq (hz := by seq_fits) hD₂ rfl ?_
  have hD₃ := Heap.get?_update_self (Obj.mapSeq (·.pop)) hD₂ rfl
  refine wpAny_pure ⟨plainId_quiet PySem.F.plain_extend_loop _, key _ _ ?_ (fun b o hb e => ?_) hD₃⟩
  · refine W.frame 0 _ _ st fun b hb o e => ?_
    have hbD : b ≠ D := fun h => hDf (h ▸ hb)
    exact (Heap.get?_update_other _ _ (Ne.symm hbD)).trans ((Heap.get?_update_other _ _ (Ne.symm hbD)).trans e)
  · exact (Heap.get?_update_other _ _ (Ne.symm hb)).trans ((Heap.get?_update_other _ _ (Ne.symm hb)).trans (up b o e))
theorem collect_set {S : Addr} {xs : List Str} {R : List Value → Shared → Prop} (hS : SetS prog w s.heap S xs) (h2 : 2 ≤ xs.length) (hn : xs.length ≤ 1000) (hh : A.handled = none)
    (h : ∀ h' tk dr vs, (∀ b o, s.heap.get? b = some o → h'.get? b = some o) → (∃ zs, StrsAre vs zs ∧ zs.Perm xs) → R vs { s with heap := h', toks := tk, drawn := dr }) : wpAny (model prog w) A (collect (.ref S)) R E s := by
  have hlt : S < s.heap.objs.size := by
    obtain ⟨o, es, ep, t, ho, _⟩ := hS
    exact Heap.lt_size ho
  unfold collect
  refine wpAny_bind (wpAny_runValue (codeAny_builtin entry_proto_collect' ?_))
  rw [Around.under_plainId PySem.F.plain_proto_collect _]
  show wpAny _ A.in1 (newList [] >>= fun l => again (.builtin "list.__iadd__" ⟨[l, .ref S], []⟩)) _ _ s
  refine wpAny_bind (wpAny_newObj_type ?_)
  refine wpAny_pure ⟨plainId_quiet PySem.F.plain_list_iadd _, codeAny_builtin entry_list_iadd' ?_⟩
  rw [Around.under_plainId PySem.F.plain_list_iadd _]
  have hD : (s.heap.push { cls := .type "list", data := .seq ([] : List Value).toArray }).get? s.heap.objs.size = some { cls := .type "list", data := .seq #[] } := Heap.get?_push_size _ rfl
  show wpAny _ A.in1 (Builtin.List.listExtendWith (.ref s.heap.objs.size) (.ref S) (.ref s.heap.objs.size)) _ _ _
  have key := set_extend (A := A) (s := { s with heap := s.heap.push { cls := .type "list", data := .seq ([] : List Value).toArray } }) (res := .ref s.heap.objs.size)
    (R := fun (q : Result) (s' : Shared) => ∃ (h' : Heap) (tk : Nat) (dr : Drawn) (acc : Array Value) (c' : Nat), q = .ok (.ret (.ref s.heap.objs.size)) ∧ s' = { s with heap := h', toks := tk, drawn := dr } ∧
      (∀ b o, s.heap.get? b = some o → h'.get? b = some o) ∧ h'.get? s.heap.objs.size = some { cls := .type "list", dict := none, data := .seq acc c', slots := #[] } ∧ ∃ zs, StrsAre acc.toList zs ∧ zs.Perm xs)
    (hS.keeps fun o e => Heap.get?_push_of_some _ e) h2 hn hh hD (Nat.ne_of_gt hlt)
    (fun h' tk dr acc c' hk hS' ha => ⟨h', tk, dr, acc, c', rfl, rfl, fun b o e => hk b o (Nat.ne_of_lt (Heap.lt_size e)) (Heap.get?_push_of_some _ e), hS', ha⟩)
  refine wpAny_mono key (fun fin s' x => ?_) fun e s' x => ?_
  · cases fin with
    | done f =>
      obtain ⟨h', tk, dr, acc, c', e, rfl, hk, hS', ha⟩ := x
      cases e
      show wpAny _ A (load s.heap.objs.size >>= _) _ _ _
      refine wpAny_bind (wpAny_load hS' ?_)
      exact wpAny_pure (h h' tk dr acc.toList hk ha)
    | again c₁ =>
      refine ⟨x.1, codeAny_mono x.2 fun q s₂ y => ?_⟩
      obtain ⟨h', tk, dr, acc, c', rfl, rfl, hk, hS', ha⟩ := y
      show wpAny _ A (load s.heap.objs.size >>= _) _ _ _
      refine wpAny_bind (wpAny_load hS' ?_)
      exact wpAny_pure (h h' tk dr acc.toList hk ha)
  · obtain ⟨_, _, _, _, _, e', _⟩ := x
    cases e'
theorem rising_pair : ∀ {l : List Str} {p : Str}, risingS p l = true → (p :: l).Pairwise (fun a b => ¬ lst b < lst a)
  | [], p, _ => by simp
  | x :: r, p, h => by
    have h' : (!PySem.Spec.ltCps x.cps.toList p.cps.toList && risingS x r) = true := h
    rw [Bool.and_eq_true, ltCps_eq] at h'
    have ih := rising_pair h'.2
    have hx : ¬ lst x < lst p := by simpa [lst] using h'.1
    refine List.pairwise_cons.mpr ⟨fun b hb => ?_, ih⟩
    rcases List.mem_cons.mp hb with rfl | hb
    · exact hx
    · have h1 := (List.pairwise_cons.mp ih).1 b hb
      intro hlt
      rcases List.le_iff_lt_or_eq.mp (List.not_lt.mp hx) with h3 | h3
      · exact h1 (List.lt_trans hlt h3)
      · exact h1 (h3 ▸ hlt)
theorem sorted_pair : ∀ {l : List Str}, sortedS l = true → l.Pairwise (fun a b => ¬ lst b < lst a)
  | [], _ => .nil
  | _ :: _, h => rising_pair h
/-- sorted, and each once: rising -/
theorem srt_of {l : List Str} (h : sortedS l = true) (hn : l.Nodup) : Srt l := by
  have h1 := sorted_pair h
  refine (h1.and hn).imp ?_
  rintro a b ⟨h1, h2⟩
  exact lst_tri h1 (Ne.symm h2)
theorem sorted_set {S : Addr} {xs : List Str} {Q : Value → Shared → Prop} (hS : SetS prog w s.heap S xs) (h2 : 2 ≤ xs.length) (hn : xs.length < 64) (hh : A.handled = none)
    (h : ∀ (D : Nat) h' tk dr vs zs e, (∀ b o, s.heap.get? b = some o → h'.get? b = some o) → s.heap.get? D = none → h'.get? D = some (listOf (vs : List Value).toArray e) → StrsAre vs zs → zs.Perm xs → sortedS zs = true → Q (.ref D) { s with heap := h', toks := tk, drawn := dr }) :
    wpAny (model prog w) A (call (.builtin "sorted") [.ref S]) Q E s := by
  refine Calls.call_function_entry kind_sorted plain_sorted entry_sorted (args_sorted1 _) ?_
  unfold Builtin.«sorted»
  refine wpAny_bind (m := checkCount "sorted" 1 1 _) (wpAny_pure ?_)
  refine wpAny_bind (collect_set (A := A.in1) hS h2 (by lia) (by simp [hh]) fun h' tk dr vs hk hz => ?_)
  obtain ⟨zs, hzs, hper⟩ := hz
  have hvl : vs.length = xs.length := by rw [hzs.length, hper.length_eq]
  refine wpAny_bind (wpAny_newList ?_ (by rw [sizeLine_eq]; lia))
  have hoL : (h'.push (seqObj "list" vs.toArray 0)).get? h'.objs.size = some (seqObj "list" vs.toArray 0) := Heap.get?_push_size _ rfl
  have hzl := StrsAre.lib hzs
  refine wpAny_bind (wpAny_holding (wpAny_call_entry slot_list_sort ⟨_, hoL, rfl⟩ entry_list_sort (list_sort_treeK strKind_oneLt hoL hzl.keysOf (fun v₁ v₂ rest e => keyKind_strs (by rw [← e]; exact hzl)) (by lia) fun st' a1 a2 => ⟨_, rfl, ?_⟩) (args_list_sort _)))
  refine wpAny_pure ⟨_, rfl, ?_⟩
  obtain ⟨ss', b1, b2, b3⟩ := sorted_out_str hzl a1 a2
  obtain ⟨e, he⟩ := sortedHeap_at (out := (arrOf st').map (·.2)) hoL
  have hnone : s.heap.get? h'.objs.size = none := by
    cases q : s.heap.get? h'.objs.size with
    | none => rfl
    | some o => exact absurd (Heap.lt_size (hk _ _ q)) (Nat.lt_irrefl _)
  refine h h'.objs.size _ tk dr ((arrOf st').map (·.2)).toList ss' e (fun b o q => ?_) hnone (by rw [Array.toArray_toList]; exact he) (StrsAre.ofLib b1) (b2.trans hper) b3
  have hb : b < h'.objs.size := Heap.lt_size (hk b o q)
  rw [sortedHeap_old (Nat.ne_of_lt hb) (by rw [Heap.size_push]; exact Nat.lt_succ_of_lt hb)]
  exact Heap.get?_push_of_some _ (hk b o q)
end
-- P9
/-! the plain end: which nests are told, and at which price -/
section
variable {pairs : List (Nat × Nat)} {core : List Nat} {c c' : Nat → Nat → Nat}
theorem Nest.all {P : Nat → Prop} (hp : ∀ p ∈ pairs, P p.1 ∧ P p.2) (hc : ∀ x ∈ core, P x) {N : List Nat} {k : Nat} (h : Nest pairs core N k) : ∀ x ∈ N, P x := by
  induction h with
  | core => exact hc
  | wrap hpm _ ih =>
    intro x hx
    simp only [List.cons_append, List.mem_cons, List.mem_append, List.not_mem_nil, or_false] at hx
    rcases hx with rfl | hx | rfl
    · exact (hp _ hpm).1
    · exact ih x hx
    · exact (hp _ hpm).2
theorem Al.congr {a b : List Nat} {n : Nat} (h : Al c a b n) : (∀ x ∈ a, ∀ y ∈ b, c x y = c' x y) → Al c' a b n := by
  induction h with
  | nil => intro _; exact .nil
  | del _ ih => intro hc; exact .del (ih fun x hx y hy => hc x (.tail _ hx) y hy)
  | ins _ ih => intro hc; exact .ins (ih fun x hx y hy => hc x hx y (.tail _ hy))
  | sub _ ih =>
    intro hc
    rw [hc _ (.head _) _ (.head _)]
    exact .sub (ih fun x hx y hy => hc x (.tail _ hx) y (.tail _ hy))
theorem srt_ext : ∀ {a b : List Str}, Srt a → Srt b → (∀ x, x ∈ a ↔ x ∈ b) → a = b
  | [], [], _, _, _ => rfl
  | [], y :: b, _, _, h => absurd ((h y).mpr (.head _)) (by simp)
  | x :: a, [], _, _, h => absurd ((h x).mp (.head _)) (by simp)
  | x :: a, y :: b, ha, hb, h => by
    have ha' := List.pairwise_cons.mp ha
    have hb' := List.pairwise_cons.mp hb
    have hxy : x = y := by
      rcases List.mem_cons.mp ((h x).mp (.head _)) with e | hx
      · exact e
      · rcases List.mem_cons.mp ((h y).mpr (.head _)) with e | hy
        · exact e.symm
        · exact absurd (List.lt_trans (ha'.1 y hy) (hb'.1 x hx)) (List.lt_irrefl _)
    subst hxy
    rw [srt_ext ha'.2 hb'.2 fun z => ?_]
    constructor
    · intro hz
      rcases List.mem_cons.mp ((h z).mp (.tail _ hz)) with e | hz'
      · subst e; exact absurd (ha'.1 z hz) (List.lt_irrefl _)
      · exact hz'
    · intro hz
      rcases List.mem_cons.mp ((h z).mpr (.tail _ hz)) with e | hz'
      · subst e; exact absurd (hb'.1 z hz) (List.lt_irrefl _)
      · exact hz'
theorem turn_law {t N : List Nat} {r : Res} {k n : Nat} {z : Int} (T : Told c pairs core t r) (hN : Nest pairs core N k) (hk : k ≤ 2) (hc : ∀ x ∈ t, ∀ y ∈ N, cc x y = c x y) (hd : IsDist cc t N n) (hz : z = n ∨ ((r.1 : Int) < n ∧ (r.1 : Int) < z)) :
    (z ≤ (r.1 : Int) ↔ N ∈ r.2) ∧ (z ≤ (r.1 : Int) → z = (r.1 : Int)) := by
  obtain ⟨h1, h2⟩ := T.low N k n hN (hd.1.congr hc)
  have h3 : N ∈ r.2 → n ≤ r.1 := fun h => hd.2 _ ((T.sound N h).2.congr fun x hx y hy => (hc x hx y hy).symm)
  constructor
  · constructor
    · intro h
      exact h2 (by lia) hk
    · intro h
      have := h3 h
      lia
  · intro h
    lia
end
theorem lower_letters : ∀ f, f < 26 → Txt.lower ⟨#[65 + f]⟩ = ⟨#[97 + f]⟩ ∧ Txt.lower ⟨#[97 + f]⟩ = ⟨#[97 + f]⟩ := by decide +kernel
theorem letter_shape {x f g : Nat} (hf : f < 26) (hg : g < 26) (hx : x ∈ [65 + f, 97 + f, 65 + g, 97 + g]) : ∃ e, e < 26 ∧ (x = 65 + e ∨ x = 97 + e) ∧ Txt.lower ⟨#[x]⟩ = ⟨#[97 + e]⟩ := by
  simp only [List.mem_cons, List.not_mem_nil, or_false] at hx
  rcases hx with rfl | rfl | rfl | rfl
  · exact ⟨f, hf, .inl rfl, (lower_letters f hf).1⟩
  · exact ⟨f, hf, .inr rfl, (lower_letters f hf).2⟩
  · exact ⟨g, hg, .inl rfl, (lower_letters g hg).1⟩
  · exact ⟨g, hg, .inr rfl, (lower_letters g hg).2⟩
theorem cc_cst {x y f g : Nat} (hf : f < 26) (hg : g < 26) (hx : x ∈ [65 + f, 97 + f, 65 + g, 97 + g]) (hy : y ∈ [65 + f, 97 + f, 65 + g, 97 + g]) : cc x y = cst x y := by
  obtain ⟨e, he, hx1, hx2⟩ := letter_shape hf hg hx
  obtain ⟨e', he', hy1, hy2⟩ := letter_shape hf hg hy
  have hl : Txt.lower ⟨#[x]⟩ = Txt.lower ⟨#[y]⟩ ↔ e = e' := by
    rw [hx2, hy2]
    constructor
    · intro h
      have := congrArg lst h
      simp [lst] at this
      lia
    · rintro rfl; rfl
  unfold cc cst costF
  by_cases h1 : x = y
  · simp [h1]
  · have h1' : ¬ (x : Int) = (y : Int) := by lia
    rw [if_neg h1, if_neg h1']
    by_cases h2 : e = e'
    · have h3 : (x : Int) - (y : Int) = 32 ∨ (y : Int) - (x : Int) = 32 := by lia
      rw [if_pos (hl.mpr h2), if_pos h3]
      rfl
    · have h3 : ¬ ((x : Int) - (y : Int) = 32 ∨ (y : Int) - (x : Int) = 32) := by lia
      rw [if_neg (fun h => h2 (hl.mp h)), if_neg h3]
      rfl
theorem strOk_lst {x : Str} (h : ∀ c ∈ lst x, c < 256) : PyData.strOk x = true := by
  rw [← mkS_lst x]
  exact mkS_ok h
theorem two_mem {α : Type} {x y : α} : ∀ {l : List α}, x ∈ l → y ∈ l → x ≠ y → 2 ≤ l.length
  | [], hx, _, _ => nomatch hx
  | [a], hx, hy, h => absurd ((List.mem_singleton.mp hx).trans (List.mem_singleton.mp hy).symm) h
  | _ :: _ :: _, _, _, _ => by simp
-- W6y
/-- a pair of the found: the nest and its price -/
def FoundX (price : Nat) (X : Led) (v : Value) (x : Str) : Prop := ∃ T t u, v = .ref T ∧ (T, tupL [.str x t, .int (price : Int) u]) ∈ X
theorem FoundX.mono {price : Nat} {X X' : Led} (h : ∀ p ∈ X, p ∈ X') {v : Value} {x : Str} (c : FoundX price X v x) : FoundX price X' v x := by
  obtain ⟨T, t, u, h1, h2⟩ := c
  exact ⟨T, t, u, h1, h _ h2⟩
def isNear (near : List (List Nat)) (x : Str) : Bool := decide (lst x ∈ near)
theorem filter_next {xs : List Str} {i : Nat} {x : Str} {p : Str → Bool} (h : xs[i]? = some x) : (xs.take (i + 1)).filter p = (xs.take i).filter p ++ (if p x then [x] else []) := by
  obtain ⟨hi, rfl⟩ := List.getElem?_eq_some_iff.mp h
  rw [List.take_succ_eq_append_getElem hi, List.filter_append]
  cases hp : p xs[i] <;> simp [hp]
section
variable {prog : Program} {w : World} {A : Around} {E : Value → Shared → Prop} {s : Shared} {env : Env} {h₀ : Heap} {L : Addr} {Q : Flow → Shared → Prop}
/-- as EndL; the draws may have been bumped -/
def EndD (h₀ : Heap) (L : Addr) (s : Shared) (J : (Str → Option Value) → List (Addr × Obj) → Prop) (s₂ : Shared) : Prop := ∃ dr, EndL h₀ L { s with drawn := dr } J s₂
theorem stopD {s s₂ : Shared} {J : (Str → Option Value) → List (Addr × Obj) → Prop} (h : EndD h₀ L s J s₂) : EndD h₀ L s J s₂ := h
theorem EndD.intro {h' : Heap} {s : Shared} {J : (Str → Option Value) → List (Addr × Obj) → Prop} {tk : Nat} {dr : Drawn} {m' : Str → Option Value} {nx' : List (Addr × Obj)}
  (F : Fr h₀ L h' m') (N : News h₀ L h' nx') (hJ : J m' nx') : EndD h₀ L s J { s with heap := h', toks := tk, drawn := dr } := ⟨dr, h', tk, m', nx', rfl, F, N, hJ⟩
theorem cut1d {a : Stmt} {rest : List Stmt} (D : (Str → Option Value) → List (Addr × Obj) → Prop)
    (h : wpAny (model prog w) A (execs [a] env) (fun f s' => match f with | .next => EndD h₀ L s D s' | f => Q f s') E s)
    (k : ∀ h tk dr m nx, Fr h₀ L h m → News h₀ L h nx → D m nx → wpAny (model prog w) A (execs rest env) Q E { s with heap := h, toks := tk, drawn := dr }) :
    wpAny (model prog w) A (execs (a :: rest) env) Q E s := by
  refine execs_app (pre := [a]) (wpAny_mono h (fun f s' q => ?_) fun _ _ x => x)
  cases f with
  | next =>
    obtain ⟨dr, h', tk, m', nx', rfl, F', N', d⟩ := q
    exact k h' tk dr m' nx' F' N' d
  | brk => exact q
  | cont => exact q
  | ret v => exact q
theorem FTurn.next {J : (Str → Option Value) → List (Addr × Obj) → Prop} {I : Addr} {io : Obj} {s₃ : Shared} (h : EndL h₀ L s (fun m nx => ∃ nx₂, nx = (I, io) :: nx₂ ∧ (∀ p ∈ nx₂, p.1 ≠ I) ∧ J m nx₂) s₃) : FTurn h₀ L s J I io Q .next s₃ := h
theorem newSet37 {m : Str → Option Value} {nx : List (Addr × Obj)} {l : Addr} {vs : List Value} {xs : List Str} {n : Nat} {Q : Value → Shared → Prop} (hh : A.handled = none) (F : Fr h₀ L s.heap m) (N : News h₀ L s.heap nx) (hm : (l, listOf vs.toArray n) ∈ nx) (hxs : StrsAre vs xs) (hb : xs.length ≤ 1000)
    (h : ∀ S h' tk, Fr h₀ L h' m → News h₀ L h' nx → SetS prog w h' S (ddS xs) → Q (.ref S) { s with heap := h', toks := tk }) : wpAny (model prog w) A (call (.type "set") [.ref l]) Q E s :=
  newSetStr hh (News.isList N hm) (by simpa using hxs) (by show xs.length + 1 < 4096; lia) fun h' tk hS hk => h _ h' tk (F.kept hk) (News.kept (new := []) F N hk (fun p hp => nomatch hp)) hS
theorem sortedSet37 {m : Str → Option Value} {nx : List (Addr × Obj)} {S : Addr} {xs : List Str} {Q : Value → Shared → Prop} (hh : A.handled = none) (F : Fr h₀ L s.heap m) (N : News h₀ L s.heap nx) (hS : SetS prog w s.heap S xs) (h2 : 2 ≤ xs.length) (hn : xs.length < 64) (hnd : xs.Nodup)
    (h : ∀ (D : Nat) h' tk dr vs zs e, Fr h₀ L h' m → News h₀ L h' ((D, listOf (vs : List Value).toArray e) :: nx) → StrsAre vs zs → (∀ x, x ∈ zs ↔ x ∈ xs) → Srt zs → zs.length < 64 → Q (.ref D) { s with heap := h', toks := tk, drawn := dr }) :
    wpAny (model prog w) A (call (.builtin "sorted") [.ref S]) Q E s :=
  sorted_set hS h2 hn hh fun D h' tk dr vs zs e hk hno hD hz hp hso => h D h' tk dr vs zs e (F.kept hk) (News.kept (new := [_]) F N hk (fun p hq => by rw [List.mem_singleton.mp hq]; exact ⟨hD, hno⟩)) hz (fun x => hp.mem_iff) (srt_of hso (hp.nodup_iff.mpr hnd)) (by rw [hp.length_eq]; exact hn)
end
/-! the found, compared -/
abbrev foundD (price : Nat) (xs : List Str) : List PyData := xs.map fun x => PyData.tuple [.str x, .int (price : Int)]
theorem found_reads {price : Nat} {h₀ h : Heap} {L : Addr} {X nx : Led} (N : News h₀ L h nx) (hX : ∀ p ∈ X, p ∈ nx) : ∀ {vs : List Value} {xs : List Str}, All2 (FoundX price X) vs xs → ReadsAll h vs (foundD price xs) []
  | _, _, .nil => .nil
  | _, _, .cons hv r => by
    obtain ⟨T, t, u, rfl, hm⟩ := hv
    have h1 : Reads h (.ref T) (.tuple [.str _, .int (price : Int)]) ([] ++ ([] ++ [])) := .tuple (N _ (hX _ hm)).1 rfl rfl (.cons (.str _ t) (.cons (.int _ u) .nil))
    exact .cons (as := []) h1 (found_reads N hX r)
theorem found_lay {price : Nat} : ∀ xs : List Str, xs.all PyData.strOk = true → PyData.canLayAll0 (foundD price xs) = true
  | [], _ => rfl
  | x :: r, h => by
    simp only [List.all_cons, Bool.and_eq_true] at h
    have ih := found_lay (price := price) r h.2
    simp only [foundD, List.map_cons, PyData.canLayAll0, PyData.canLay0, h.1, Bool.and_true, Bool.true_and]
    exact ih
theorem found_depth {price : Nat} : ∀ xs : List Str, PyData.depthAll (foundD price xs) ≤ 1
  | [] => by simp [foundD, PyData.depthAll]
  | x :: r => by
    have ih := found_depth (price := price) r
    simp only [foundD, List.map_cons, PyData.depthAll, PyData.depth] at ih ⊢
    lia
theorem found_mix {price : Nat} : ∀ xs : List Str, PySem.SeqAt.noMixAll (foundD price xs) (foundD price xs) = true
  | [] => rfl
  | x :: r => by
    have ih := found_mix (price := price) r
    simp only [foundD, List.map_cons, PySem.SeqAt.noMixAll, PySem.SeqAt.noMix, Bool.and_true, Bool.true_and]
    exact ih
section
variable {prog : Program} {w : World} {A : Around} {E : Value → Shared → Prop} {s : Shared} {h₀ : Heap} {L : Addr}
theorem eq_found37 {price : Nat} {a b : Addr} {va vb : List Value} {na nb : Nat} {xs : List Str} {X Y nx : Led} {Q : Value → Shared → Prop} (N : News h₀ L s.heap nx) (hma : (a, listOf va.toArray na) ∈ nx) (hmb : (b, listOf vb.toArray nb) ∈ nx) (hX : ∀ p ∈ X, p ∈ nx) (hY : ∀ p ∈ Y, p ∈ nx)
    (ra : All2 (FoundX price X) va xs) (rb : All2 (FoundX price Y) vb xs) (ok : xs.all PyData.strOk = true) (hu : A.units + 64 < cLine) (h : Q (.bool true) s) : wpAny (model prog w) A (compareOp .Eq (.ref a) (.ref b)) Q E s := by
  have hs : SeqAt.shaped (.list (foundD price xs)) = true := by
    have h1 := found_depth (price := price) xs
    simp only [SeqAt.shaped, PyData.canLay0, PyData.depth, found_lay xs ok, Bool.true_and]
    exact decide_eq_true (by lia)
  refine eq_dataH_same (.list (N _ hma).1 rfl rfl (found_reads N hX ra)) (.list (N _ hmb).1 rfl rfl (found_reads N hY rb)) hs hs hu ?_ ?_
  · show PySem.SeqAt.noMixAll _ _ = true
    exact found_mix xs
  · rw [PySem.Spec.same_self]
    exact h
end
theorem sortedList37 {prog : Program} {w : World} {A : Around} {E : Value → Shared → Prop} {s : Shared} {h₀ : Heap} {L : Addr} {m : Str → Option Value} {nx : List (Addr × Obj)} {l : Addr} {vs : List Value} {xs : List Str} {n : Nat} {Q : Value → Shared → Prop} (F : Fr h₀ L s.heap m) (N : News h₀ L s.heap nx) (hm : (l, listOf vs.toArray n) ∈ nx) (hS : StrsAre vs xs) (h64 : xs.length < 64)
    (h : ∀ (D : Nat) h' vs' zs e, Fr h₀ L h' m → News h₀ L h' ((D, listOf (vs' : List Value).toArray e) :: nx) → StrsAre vs' zs → zs.Perm xs → sortedS zs = true → Q (.ref D) { s with heap := h' }) :
    wpAny (model prog w) A (call (.builtin "sorted") [.ref l]) Q E s :=
  sorted_N_str F N (News.isList N hm) (StrsAre.lib hS) (by have := hS.length; lia) fun h' vs' ss' e F' N' h1 h2 h3 => h _ h' vs' ss' e F' N' (StrsAre.ofLib h1) h2 h3
theorem nodup_len {α : Type} [DecidableEq α] : ∀ {a b : List α}, a.Nodup → (∀ x ∈ a, x ∈ b) → a.length ≤ b.length
  | [], b, _, _ => Nat.zero_le _
  | x :: a, b, hn, hs => by
    have hn' := List.nodup_cons.mp hn
    have hx := hs x (.head _)
    have ih := nodup_len (a := a) (b := b.erase x) hn'.2 fun y hy => (List.mem_erase_of_ne (fun e : y = x => hn'.1 (by rw [← e]; exact hy))).mpr (hs y (.tail _ hy))
    rw [List.length_erase_of_mem hx] at ih
    have hp : 0 < b.length := List.length_pos_of_mem hx
    rw [List.length_cons]
    lia
theorem srt_filter {xs : List Str} {p : Str → Bool} (h : Srt xs) : Srt (xs.filter p) := List.Pairwise.filter p h
-- T6
theorem pow437 {prog : Program} {w : World} {A : Around} {E Q : Value → Shared → Prop} {s : Shared} {n : Int} {t u : Tok} (h0 : 0 ≤ n) (h8 : n < 8) (h : ∀ p : Int, 0 < p → p < 100000 → Q (.int p s.toks) { s with toks := s.toks + 1 }) : wpAny (model prog w) A (binaryOp .Pow (.int 4 t) (.int n u)) Q E s :=
  have k : ∀ k < 8, (0 : Int) < 4 ^ k ∧ (4 : Int) ^ k < 100000 := by decide
  have k' := k n.toNat (by lia)
  pow_int h0 (by have e : Builtin.Int.intBits 4 = 3 := by decide
                 rw [e]; lia) (h _ k'.1 k'.2)
inductive LawJ1 (L : Nat) (o3 : Obj) (o4 : Obj) (o5 : Obj) (m : Str → Option Value) (nx : List (Addr × Obj)) : Prop
  | mk (o2 : Obj) (S : Nat) (sv : List Value) (se : Nat) (n0 n1 n2 n3 : Nat) (j0 : nx = [(L + 1 + 1 + 1 + 1 + 1, o5), (L + 1 + 1 + 1 + 1, o4), (L + 1 + 1 + 1, o3), (L + 1 + 1, o2), (S, listOf sv.toArray se)]) (j1 : o2.data = .cell (some (.ref S))) (j2 : NatsAre sv [n0, n1, n2, n3]) (j3 : (n0 < 2 ^ 40 ∧ n1 < 2 ^ 40 ∧ n2 < 2 ^ 40 ∧ n3 < 2 ^ 40)) (j4 : (@Ne Nat (L + 1 + 1 + 1 + 1 + 1) S ∧ @Ne Nat (L + 1 + 1 + 1 + 1) S ∧ @Ne Nat (L + 1 + 1 + 1) S ∧ @Ne Nat (L + 1 + 1) S)) : LawJ1 L o3 o4 o5 m nx
inductive LawJ2 (L : Nat) (S : Nat) (se : Nat) (n0 : Nat) (n1 : Nat) (n2 : Nat) (n3 : Nat) (o2 : Obj) (o4 : Obj) (o5 : Obj) (t0 : Tok) (t1 : Tok) (t2 : Tok) (t3 : Tok) (m : Str → Option Value) (nx : List (Addr × Obj)) : Prop
  | mk (o3 : Obj) (Cd : Nat) (cv : List Value) (ce : Nat) (f g : Nat) (j0 : nx = [(L + 1 + 1 + 1 + 1 + 1, o5), (L + 1 + 1 + 1 + 1, o4), (L + 1 + 1 + 1, o3), (L + 1 + 1, o2), (S, sumsO n0 n1 n2 n3 t0 t1 t2 t3 se), (Cd, listOf cv.toArray ce)]) (j1 : o3.data = .cell (some (.ref Cd))) (j2 : NatsAre cv [65 + f, 97 + f, 65 + g, 97 + g]) (j3 : f < 26) (j4 : g < 26) (j5 : (L + 1 + 1 + 1 + 1 + 1 < Cd ∧ L + 1 + 1 + 1 + 1 < Cd ∧ L + 1 + 1 + 1 < Cd ∧ L + 1 + 1 < Cd ∧ @LT.lt Nat _ S Cd)) : LawJ2 L S se n0 n1 n2 n3 o2 o4 o5 t0 t1 t2 t3 m nx
inductive LawJ3 (L : Nat) (S : Nat) (se : Nat) (n0 : Nat) (n1 : Nat) (n2 : Nat) (n3 : Nat) (Cd : Nat) (ce : Nat) (o2 : Obj) (o3 : Obj) (o4 : Obj) (o5 : Obj) (cv : List Value) (t0 : Tok) (t1 : Tok) (t2 : Tok) (t3 : Tok) (cs : List Nat) (m : Str → Option Value) (nx : List (Addr × Obj)) : Prop
  | mk (Fg : Nat) (fv : List Value) (fe : Nat) (p0 p1 p2 p3 : Nat) (j0 : Agree m [("figures", .ref Fg)]) (j1 : nx = [(L + 1 + 1 + 1 + 1 + 1, o5), (L + 1 + 1 + 1 + 1, o4), (L + 1 + 1 + 1, o3), (L + 1 + 1, o2), (S, sumsO n0 n1 n2 n3 t0 t1 t2 t3 se), (Cd, listOf cv.toArray ce), (Fg, listOf fv.toArray fe)]) (j2 : NatsAre fv [p0, p1, p2, p3]) (j3 : (p0 ∈ cs ∧ p1 ∈ cs ∧ p2 ∈ cs ∧ p3 ∈ cs)) : LawJ3 L S se n0 n1 n2 n3 Cd ce o2 o3 o4 o5 cv t0 t1 t2 t3 cs m nx
inductive LawJ4 (L : Nat) (S : Nat) (se : Nat) (n0 : Nat) (n1 : Nat) (n2 : Nat) (n3 : Nat) (Cd : Nat) (ce : Nat) (p0 : Nat) (p1 : Nat) (p2 : Nat) (p3 : Nat) (o2 : Obj) (o3 : Obj) (o4 : Obj) (o5 : Obj) (cv : List Value) (t0 : Tok) (t1 : Tok) (t2 : Tok) (t3 : Tok) (m : Str → Option Value) (nx : List (Addr × Obj)) : Prop
  | mk (P T1 T2 : Nat) (v0 v1 v2 v3 : Tok) (j0 : Agree m [("pairs", .ref P)]) (j1 : nx = [(L + 1 + 1 + 1 + 1 + 1, o5), (L + 1 + 1 + 1 + 1, o4), (L + 1 + 1 + 1, o3), (L + 1 + 1, o2), (S, sumsO n0 n1 n2 n3 t0 t1 t2 t3 se), (Cd, listOf cv.toArray ce), (P, listOf [Value.ref T1, .ref T2].toArray 0), (T1, tupI p0 p1 v0 v1), (T2, tupI p2 p3 v2 v3)]) (j2 : Far L P) (j3 : Far L T1) (j4 : Far L T2) : LawJ4 L S se n0 n1 n2 n3 Cd ce p0 p1 p2 p3 o2 o3 o4 o5 cv t0 t1 t2 t3 m nx
inductive LawJ5 (L : Nat) (S : Nat) (se : Nat) (n0 : Nat) (n1 : Nat) (n2 : Nat) (n3 : Nat) (Cd : Nat) (ce : Nat) (p0 : Nat) (p1 : Nat) (p2 : Nat) (p3 : Nat) (P : Nat) (T1 : Nat) (T2 : Nat) (o2 : Obj) (o3 : Obj) (o4 : Obj) (o5 : Obj) (cv : List Value) (t0 : Tok) (t1 : Tok) (t2 : Tok) (t3 : Tok) (v0 : Tok) (v1 : Tok) (v2 : Tok) (v3 : Tok) (cs : List Nat) (m : Str → Option Value) (nx : List (Addr × Obj)) : Prop
  | mk (M : Nat) (mv : List Value) (me : Nat) (core : List Nat) (j0 : Agree m [("pairs", .ref P), ("middle", .ref M)]) (j1 : nx = [(L + 1 + 1 + 1 + 1 + 1, o5), (L + 1 + 1 + 1 + 1, o4), (L + 1 + 1 + 1, o3), (L + 1 + 1, o2), (S, sumsO n0 n1 n2 n3 t0 t1 t2 t3 se), (Cd, listOf cv.toArray ce), (P, listOf [Value.ref T1, .ref T2].toArray 0), (T1, tupI p0 p1 v0 v1), (T2, tupI p2 p3 v2 v3), (M, listOf mv.toArray me)]) (j2 : NatsAre mv core) (j3 : core.length ≤ 1) (j4 : (∀ x ∈ core, x ∈ cs)) (j5 : Far L M) : LawJ5 L S se n0 n1 n2 n3 Cd ce p0 p1 p2 p3 P T1 T2 o2 o3 o4 o5 cv t0 t1 t2 t3 v0 v1 v2 v3 cs m nx
inductive LawJ6 (L : Nat) (p0 : Nat) (p1 : Nat) (p2 : Nat) (p3 : Nat) (P : Nat) (T1 : Nat) (T2 : Nat) (M : Nat) (me : Nat) (o4 : Obj) (o5 : Obj) (mv : List Value) (v0 : Tok) (v1 : Tok) (v2 : Tok) (v3 : Tok) (cs : List Nat) (m : Str → Option Value) (nx : List (Addr × Obj)) : Prop
  | mk (Lt : Nat) (lv : List Value) (le : Nat) (letters : List Nat) (j0 : Agree m [("pairs", .ref P), ("middle", .ref M), ("letters", .ref Lt)]) (j1 : nx = [(L + 1 + 1 + 1 + 1 + 1, o5), (L + 1 + 1 + 1 + 1, o4), (P, listOf [Value.ref T1, .ref T2].toArray 0), (T1, tupI p0 p1 v0 v1), (T2, tupI p2 p3 v2 v3), (M, listOf mv.toArray me), (Lt, listOf lv.toArray le)]) (j2 : NatsAre lv letters) (j3 : 1 ≤ letters.length) (j4 : letters.length ≤ 5) (j5 : (∀ x ∈ letters, x ∈ cs)) (j6 : Far L Lt) : LawJ6 L p0 p1 p2 p3 P T1 T2 M me o4 o5 mv v0 v1 v2 v3 cs m nx
inductive LawJ7 (L : Nat) (p0 : Nat) (p1 : Nat) (p2 : Nat) (p3 : Nat) (P : Nat) (T1 : Nat) (T2 : Nat) (M : Nat) (me : Nat) (Lt : Nat) (le : Nat) (o4 : Obj) (o5 : Obj) (mv : List Value) (lv : List Value) (v0 : Tok) (v1 : Tok) (v2 : Tok) (v3 : Tok) (letters : List Nat) (m : Str → Option Value) (nx : List (Addr × Obj)) : Prop
  | mk (tx : Str) (tt : Tok) (j0 : Agree m [("pairs", .ref P), ("middle", .ref M), ("letters", .ref Lt), ("text", .str tx tt)]) (j1 : nx = [(L + 1 + 1 + 1 + 1 + 1, o5), (L + 1 + 1 + 1 + 1, o4), (P, listOf [Value.ref T1, .ref T2].toArray 0), (T1, tupI p0 p1 v0 v1), (T2, tupI p2 p3 v2 v3), (M, listOf mv.toArray me), (Lt, listOf lv.toArray le)]) (j2 : lst tx = letters) : LawJ7 L p0 p1 p2 p3 P T1 T2 M me Lt le o4 o5 mv lv v0 v1 v2 v3 letters m nx
inductive LawJ8 (L : Nat) (p0 : Nat) (p1 : Nat) (p2 : Nat) (p3 : Nat) (P : Nat) (T1 : Nat) (T2 : Nat) (M : Nat) (me : Nat) (Lt : Nat) (le : Nat) (o4 : Obj) (o5 : Obj) (mv : List Value) (lv : List Value) (v0 : Tok) (v1 : Tok) (v2 : Tok) (v3 : Tok) (tt : Tok) (tx : Str) (fin : List Str) (m : Str → Option Value) (nx : List (Addr × Obj)) : Prop
  | mk (R : Nat) (rv : List Value) (re : Nat) (j0 : Agree m [("pairs", .ref P), ("middle", .ref M), ("letters", .ref Lt), ("text", .str tx tt), ("row", .ref R)]) (j1 : nx = [(L + 1 + 1 + 1 + 1 + 1, o5), (L + 1 + 1 + 1 + 1, o4), (P, listOf [Value.ref T1, .ref T2].toArray 0), (T1, tupI p0 p1 v0 v1), (T2, tupI p2 p3 v2 v3), (M, listOf mv.toArray me), (Lt, listOf lv.toArray le), (R, listOf rv.toArray re)]) (j2 : StrsAre rv fin) (j3 : Far L R) : LawJ8 L p0 p1 p2 p3 P T1 T2 M me Lt le o4 o5 mv lv v0 v1 v2 v3 tt tx fin m nx
inductive LawJ9 (L : Nat) (p0 : Nat) (p1 : Nat) (p2 : Nat) (p3 : Nat) (P : Nat) (T1 : Nat) (T2 : Nat) (M : Nat) (me : Nat) (Lt : Nat) (le : Nat) (R : Nat) (re : Nat) (o5 : Obj) (mv : List Value) (lv : List Value) (rv : List Value) (v0 : Tok) (v1 : Tok) (v2 : Tok) (v3 : Tok) (tt : Tok) (core : List Nat) (tx : Str) (m : Str → Option Value) (nx : List (Addr × Obj)) : Prop
  | mk (o4 : Obj) (Ly NS : Nat) (cx : Str) (tc tc2 : Tok) (e1 e2 : Nat) (j0 : Agree m [("pairs", .ref P), ("middle", .ref M), ("letters", .ref Lt), ("text", .str tx tt), ("row", .ref R), ("nests", .ref NS)]) (j1 : nx = [(L + 1 + 1 + 1 + 1 + 1, o5), (L + 1 + 1 + 1 + 1, o4), (P, listOf [Value.ref T1, .ref T2].toArray 0), (T1, tupI p0 p1 v0 v1), (T2, tupI p2 p3 v2 v3), (M, listOf mv.toArray me), (Lt, listOf lv.toArray le), (R, listOf rv.toArray re), (Ly, listOf [Value.str cx tc].toArray e1), (NS, listOf [Value.str cx tc2].toArray e2)]) (j2 : o4.data = .cell (some (.ref Ly))) (j3 : lst cx = core) (j4 : Far L Ly) (j5 : Far L NS) (j6 : @Ne Nat Ly NS) (j7 : (@Ne Nat P NS ∧ @Ne Nat T1 NS ∧ @Ne Nat T2 NS ∧ @Ne Nat M NS ∧ @Ne Nat Lt NS ∧ @Ne Nat R NS)) : LawJ9 L p0 p1 p2 p3 P T1 T2 M me Lt le R re o5 mv lv rv v0 v1 v2 v3 tt core tx m nx
inductive LawJ10 (L : Nat) (p0 : Nat) (p1 : Nat) (p2 : Nat) (p3 : Nat) (P : Nat) (T1 : Nat) (T2 : Nat) (M : Nat) (me : Nat) (Lt : Nat) (le : Nat) (R : Nat) (re : Nat) (NS : Nat) (o5 : Obj) (mv : List Value) (lv : List Value) (rv : List Value) (v0 : Tok) (v1 : Tok) (v2 : Tok) (v3 : Tok) (tt : Tok) (core : List Nat) (tx : Str) (prs : List (Nat × Nat)) (m : Str → Option Value) (nx : List (Addr × Obj)) : Prop
  | mk (nvs : List Value) (e2 : Nat) (nxs : List Str) (j0 : Agree m [("pairs", .ref P), ("middle", .ref M), ("letters", .ref Lt), ("text", .str tx tt), ("row", .ref R), ("nests", .ref NS)]) (j1 : nx = [(L + 1 + 1 + 1 + 1 + 1, o5), (P, listOf [Value.ref T1, .ref T2].toArray 0), (T1, tupI p0 p1 v0 v1), (T2, tupI p2 p3 v2 v3), (M, listOf mv.toArray me), (Lt, listOf lv.toArray le), (R, listOf rv.toArray re), (NS, listOf nvs.toArray e2)]) (j2 : StrsAre nvs nxs) (j3 : nxs.map lst = NW prs core 2) : LawJ10 L p0 p1 p2 p3 P T1 T2 M me Lt le R re NS o5 mv lv rv v0 v1 v2 v3 tt core tx prs m nx
inductive LawJ11 (L : Nat) (p0 : Nat) (p1 : Nat) (p2 : Nat) (p3 : Nat) (P : Nat) (T1 : Nat) (T2 : Nat) (M : Nat) (me : Nat) (Lt : Nat) (le : Nat) (R : Nat) (re : Nat) (NS : Nat) (o5 : Obj) (mv : List Value) (lv : List Value) (rv : List Value) (v0 : Tok) (v1 : Tok) (v2 : Tok) (v3 : Tok) (tt : Tok) (core : List Nat) (tx : Str) (prs : List (Nat × Nat)) (i : Nat) (m : Str → Option Value) (nx : List (Addr × Obj)) : Prop
  | mk (o4 : Obj) (Ly : Nat) (lvs : List Value) (e1 : Nat) (lxs : List Str) (nvs : List Value) (e2 : Nat) (nxs : List Str) (j0 : Agree m [("pairs", .ref P), ("middle", .ref M), ("letters", .ref Lt), ("text", .str tx tt), ("row", .ref R), ("nests", .ref NS)]) (j1 : nx = [(L + 1 + 1 + 1 + 1 + 1, o5), (L + 1 + 1 + 1 + 1, o4), (P, listOf [Value.ref T1, .ref T2].toArray 0), (T1, tupI p0 p1 v0 v1), (T2, tupI p2 p3 v2 v3), (M, listOf mv.toArray me), (Lt, listOf lv.toArray le), (R, listOf rv.toArray re), (Ly, listOf lvs.toArray e1), (NS, listOf nvs.toArray e2)]) (j2 : o4.data = .cell (some (.ref Ly))) (j3 : Far L Ly) (j4 : @Ne Nat Ly NS) (j5 : StrsAre lvs lxs) (j6 : lxs.map lst = LW prs core i) (j7 : StrsAre nvs nxs) (j8 : nxs.map lst = NW prs core i) : LawJ11 L p0 p1 p2 p3 P T1 T2 M me Lt le R re NS o5 mv lv rv v0 v1 v2 v3 tt core tx prs i m nx
inductive LawJ12 (L : Nat) (R : Nat) (re : Nat) (rv : List Value) (tt : Tok) (tx : Str) (res : Res) (m : Str → Option Value) (nx : List (Addr × Obj)) : Prop
  | mk (o5 : Obj) (tp : Tok) (Nn : Nat) (nvs : List Value) (ne : Nat) (near : List Str) (j0 : Agree m [("text", .str tx tt), ("row", .ref R), ("near", .ref Nn)]) (j1 : nx = [(L + 1 + 1 + 1 + 1 + 1, o5), (R, listOf rv.toArray re), (Nn, listOf nvs.toArray ne)]) (j2 : o5.data = .cell (some (.int (res.1 : Int) tp))) (j3 : StrsAre nvs near) (j4 : near.map lst = res.2) (j5 : @Ne Nat (L + 1 + 1 + 1 + 1 + 1) Nn) : LawJ12 L R re rv tt tx res m nx
inductive LawJ13 (L : Nat) (Nn : Nat) (ne : Nat) (o5 : Obj) (nvs : List Value) (res : Res) (fin : List Str) (m : Str → Option Value) (nx : List (Addr × Obj)) : Prop
  | mk (Fd : Nat) (fvs : List Value) (fe : Nat) (X : Led) (j0 : Agree m [("near", .ref Nn), ("found", .ref Fd)]) (j1 : nx = (L + 1 + 1 + 1 + 1 + 1, o5) :: (Nn, listOf nvs.toArray ne) :: (Fd, listOf fvs.toArray fe) :: X) (j2 : All2 (FoundX res.1 X) fvs (fin.filter (isNear res.2))) : LawJ13 L Nn ne o5 nvs res fin m nx
inductive LawJ14 (L : Nat) (R : Nat) (re : Nat) (Nn : Nat) (ne : Nat) (Fd : Nat) (o5 : Obj) (rv : List Value) (nvs : List Value) (tt : Tok) (tx : Str) (res : Res) (fin : List Str) (i : Nat) (m : Str → Option Value) (nx : List (Addr × Obj)) : Prop
  | mk (fvs : List Value) (fe : Nat) (X : Led) (j0 : Agree m [("text", .str tx tt), ("row", .ref R), ("near", .ref Nn), ("found", .ref Fd)]) (j1 : nx = (L + 1 + 1 + 1 + 1 + 1, o5) :: (R, listOf rv.toArray re) :: (Nn, listOf nvs.toArray ne) :: (Fd, listOf fvs.toArray fe) :: X) (j2 : All2 (FoundX res.1 X) fvs ((fin.take i).filter (isNear res.2))) (j3 : (∀ p ∈ X, p.1 ≠ Fd)) : LawJ14 L R re Nn ne Fd o5 rv nvs tt tx res fin i m nx
section PartT6
set_option hygiene false in
local macro_rules | `(tactic| walk_at "mSt") => `(tactic| with_reducible first | refine stopD ?_ | refine stopTE ?_ | show wpAny _ _ (call (Value.ref _) _) _ _ _ | show wpAny _ _ (call (Value.type "enumerate") _) _ _ _ | show wpAny _ _ (call (Value.builtin "list.extend") _) _ _ _ | show wpAny _ _ (call (Value.type "set") _) _ _ _ | show wpAny _ _ (call (Value.builtin "sorted") _) _ _ _ | show wpAny _ _ (eval (Expr.ListComp _ _ _ _) _) _ _ _ | show wpAny _ _ (exec (Stmt.Assign _ (Expr.ListComp _ _ _ _) _) _) _ _ _ | show wpAny _ _ (subscriptTail _ (Expr.Slice _ _ _ _) _ _) _ _ _ | show PyProof.Rows.LCg.CompSrc _ _ _ _ _ _ _ _ _ _ _ _ _ _ | show PyProof.Rows.LCg.CompEnd _ _ _ _ _ _ _ _ _ _ _ _ _ _ | show PyProof.Rows.LCg.CompRest _ _ _ _ _ _ _ _ _ _ _ _ _ _ _ _ _ _ _)
local macro_rules | `(tactic| walk_at "mTop") => `(tactic| (k_fill; intro w s₀ s₁ mg mb G Y fa o pm cd doc dV kV ho hd hcd hD hmg hg args vals as hpre hlay hrd hwl hlo; have KX := kIn_of Y; have X := (Ground.X G).1; refine Ground.open G ?_; intro T B D TE TW; refine guard_noD D (by decide +kernel) ?_; clear D; obtain ⟨_, _, M⟩ := bmod_of_top T; have TA := at_of_top T; obtain ⟨_, _, he, B0⟩ := based_of_top T rfl hmg ho hd; have he' : cd = _ := he; subst he'; clear he hmg; wrow_args hpre hlay hrd hwl hlo; refine enter_call ?_; w_top on; refine codeAny_mono ?_ (fun _ _ g => GoodW.toG g); have K0 := below_caller (Top.heap T); w_call any ho hd hcd hD T F; clear hd TA; k_drop))
theorem law_all : PySem.Challenge.rw_rl0037_01.Holds := by
  w_on
  refine holds_law said fun ok => ?_
  refine holds_open (q := vw) (loose := [Str.ofString "bisect_left"]) (Xt := fun s => xlAt vw [] s && recOk (RowW.records PySem.Challenge.rw_rl0037_01.row.toRowW) s) (XP := XL vw []) (Yf := hook.obs) (Ya := hook.val) (YP := hook.says) (N := 924)
    left hook.of hook.keeps (fun s e => xl_of s (Bool.and_eq_true_iff.mp e).1) XL.keeps (by rfl) (by rfl) (by rfl) (fun s e => recFacts_of (Bool.and_eq_true_iff.mp e).2) (by rfl) ok (by decide +kernel) ⟨rfl, rfl, rfl, rfl, rfl, by decide +kernel⟩ ?hw ?hc
  case hw => w_witness2
  clear ok
  walk_at "mTop"
  rename Fr _ _ _ _ => F₁
  rename News _ _ _ _ => N₁
  rename Obj.data _ = Data.cell (bindC _ _ _ (Str.ofString "script")) => d1
  rename Obj.data _ = Data.cell (bindC _ _ _ (Str.ofString "sums")) => d2
  rename Obj.data _ = Data.cell (bindC _ _ _ (Str.ofString "codes")) => d3
  rename Obj.data _ = Data.cell (bindC _ _ _ (Str.ofString "layer")) => d4
  rename Obj.data _ = Data.cell (bindC _ _ _ (Str.ofString "price")) => d5
  rename Below _ _ _ _ => B₁
  rename Frag.In _ _ => X₁
  rename Top _ _ _ _ _ _ => T₁
  rename Heap.IsList _ _ _ => hL
  rename IntsAre _ _ => hI
  rename ¬ _ < _ => hlen
  ( (try (rename Ground _ _ _ _ _ _ _ _ _ => z; clear z)); (try (rename Flt.MathXP _ _ _ => z; clear z)); (try (rename LooseAre _ _ _ => z; clear z)); (try (rename Glob _ _ _ _ _ _ _ _ => z; clear z)); (try (rename Tables _ _ _ _ => z; clear z)); (try (rename TopE _ _ _ _ => z; clear z)); (try (rename TopW _ _ _ => z; clear z)); (try (rename BMod _ _ _ _ _ => z; clear z)); (try (rename Heap.CodeRec _ _ _ => z; clear z)); (try (rename ReadsAllW _ _ _ _ _ _ => z; clear z)); (try (rename Reads _ _ _ _ => z; clear z)); (try (rename Well _ _ _ _ => z; clear z)); (try (rename ReadsAll _ _ _ _ => z; clear z)); (try (rename Dflts _ _ _ _ _ _ => z; clear z)); (try (rename CellsAre _ _ _ => z; clear z)); (try (rename PyData.layableAll0 _ = _ => z; clear z)); (try (rename PyData.layable0 _ = _ => z; clear z)); (try (rename WShape.hasAll _ _ _ = _ => z; clear z)); (try (rename WData.layableAll _ = _ => z; clear z)); (try (rename Spec.Shape.has _ _ = _ => z; clear z)); (try (rename Hook.says _ _ _ => z; clear z)); (try (rename Heap.get? _ _ = some _ => z; clear z)))
  rename_i w s₀ s₁ mg mb fa o pm doc hg z1 z2 cd z4 ns z5 z6 la vs z7 z8 h₁ tk₁ o5 o4 o3 o2 o1
  replace B₁ : Below callerA s₁.heap [] s₁.heap := B₁
  generalize hLL : s₁.heap.objs.size = L at *
  clear hLL
  show wpAny _ _ _ _ _ _
  k_fold
  replace d1 : o1.data = .cell (some (.ref la)) := d1
  replace d2 : ∃ v, o2.data = .cell v := ⟨_, d2⟩
  replace d3 : ∃ v, o3.data = .cell v := ⟨_, d3⟩
  replace d4 : ∃ v, o4.data = .cell v := ⟨_, d4⟩
  replace d5 : ∃ v, o5.data = .cell v := ⟨_, d5⟩
  obtain ⟨m₀, F₁⟩ : ∃ m, Fr s₁.heap L h₁ m := ⟨_, F₁⟩
  have hgood : ∀ h tk dr m, Fr s₁.heap L h m → qk (Flow.ret (.bool true)) { s₁ with heap := h, toks := tk, drawn := dr } := by
    intro h tk dr m F
    k_unfold
    dsimp only
    clear F₁ N₁
    wrow_close
  clear_value qk ek
  try walk_at "mGo"
  refine cut1 (h₀ := s₁.heap) (L := L) (LawJ1 L o3 o4 o5) ?_ ?_
  · --BEGIN
    k_fold
    try walk_at "mGo"
    refine execs_cons_gen ?_
    intro tk
    refine wpAny_Assign_Name ?_ (by with_unfolding_all rfl)
    refine comp_enter (h₀ := s₁.heap) (L := L) (m := m₀) (by k_asm) (by with_unfolding_all rfl) (by decide) (by rfl) (by decide) ?_
    (repeat' (first | walk_at "mGo" | ((try with_reducible show wpAny _ _ _ _ _ _); (fail_if_success (walk_at "mSt")); first | ((with_reducible show wpAny _ _ (binaryOp Operator.Pow (Value.int 4 _) (Value.int _ _)) _ _ _); ((refine pow437 (by lia) (by lia) ?_; intro _ _ _))) | ((with_reducible show wpAny _ _ (subscriptTail _ _ _ _) _ _ _); first | ((with_reducible show wpAny _ _ (subscriptTail (Expr.Name (Str.ofString "codes") _) _ (Value.ref _) (Value.int _ _)) _ _ _); (refine' code37 ?N2 ?m2 ?v2 ?l2 ?_; (case N2 => with_reducible assumption); (case m2 => walk_at "mMem"); (case v2 => with_reducible assumption); (case l2 => with_reducible assumption)); intro _ _ _; (try dsimp only)) | ((with_reducible show wpAny _ _ (subscriptTail _ _ (Value.ref _) (Value.int _ _)) _ _ _); walk_at "subscriptTail")) | ((with_reducible show wpAny _ _ (call _ _) _ _ _); first | ((with_reducible show wpAny _ _ (call (Value.builtin "str.join") _) _ _ _); ((refine' join37 (News.isList ?N3 ?m3) ?S3 ?b3 ?n3 ?_; (case N3 => with_reducible assumption); (case m3 => exact .head _); (case S3 => first | exact (trivial : StrsAre [] []) | exact StrsAre.one _ _ | with_reducible assumption); (case b3 => first | with_reducible assumption | (intro a ha; cases ha; done) | (intro a ha; rw [List.mem_singleton.mp ha]; exact Nat.le_of_ble_eq_true rfl)); (case n3 => first | exact Nat.le_of_ble_eq_true rfl | lia)); intro _ _ _ _)) | ((with_reducible show wpAny _ _ (call (Value.builtin "chr") _) _ _ _); (refine chr_of_range (by lia) (by lia) ?_)) | ((with_reducible show wpAny _ _ (call (Value.builtin "list.append") [Value.ref _, _]) _ _ _); (k_dflt (refine' append_K ?F7 ?N7 ?U7 ?_ ?z7; (case F7 => with_reducible assumption); (case N7 => with_reducible assumption); (case U7 => walk_at "mUpd"); (case z7 => (simp only [sizeLine_eq, List.size_toArray, List.length_append, List.length_cons, List.length_nil]; lia))); intro h' F' N'; (try simp only [List.push_toArray] at N')))) | ((with_reducible show wpAny _ _ (assign _ _ _) _ _ _); first | ((with_reducible show wpAny _ _ (assign (Expr.Tuple _ _ _) _ (Value.ref _)) _ _ _); ((refine' unpack37 ?F4 ?N4 ?m4 ?h4 ?n4 ?s4 ?_; (case F4 => with_reducible assumption); (case N4 => with_reducible assumption); (case m4 => walk_at "mMem"); (case h4 => exact rfl); (case n4 => exact rfl); (case s4 => exact rfl)); intro _ _ _)) | ((with_reducible show wpAny _ _ (assign (Expr.Tuple _ _ _) _ (Value.ref _)) _ _ _); ((refine' unpackB37 ?F5 ?N5 ?m5 ?h5 ?n5 ?s5 ?_; (case F5 => with_reducible assumption); (case N5 => with_reducible assumption); (case m5 => with_reducible assumption); (case h5 => exact rfl); (case n5 => exact rfl); (case s5 => exact rfl)); intro _ _ _))) | walk1 | (dsimp only; walk1))))
    rename Fr _ _ _ _ => Fz
    rename News _ _ _ _ => Nz
    rename (_ ∧ _) => l1
    rename_i lE hE
    refine enum_core (fun i ys nx => nx = [(lE, _), (L + 1 + 1 + 1 + 1 + 1, o5), (L + 1 + 1 + 1 + 1, o4), (L + 1 + 1 + 1, o3), (L + 1 + 1, o2), (L + 1, o1)] ∧ ∃ ks : List Nat, NatsAre ys ks ∧ ks.length = i ∧ i ≤ 4 ∧ ∀ x ∈ ks, x < 2 ^ 40) rfl rfl (by rfl) (by rfl) (by decide) Fz Nz (.head _) ⟨rfl, [], .nil, rfl, Nat.zero_le _, fun _ h => nomatch h⟩ ?_ ?_ ?_ ?_
    · rintro i ys nx ⟨rfl, _⟩
      exact .head _
    · rintro i ys nx ⟨_, ks, h1, h2, h3, _⟩
      have := h1.length
      rw [List.length_map] at this
      lia
    · clear Fz Nz
      rintro i ys mc nx h₂ tk₂ C oC D e it oe oi t x E' hx ma mb ⟨rfl, ks, hks, hkl, -, hkb⟩ hns F₂ N₂ off ne
      have hi4 : i < 4 := by
        have := (List.getElem?_eq_some_iff.mp hx).1
        simpa using this
      refine hideG ?_; intro Gh kGh
      obtain ⟨c, tx, rfl, hc⟩ : ∃ (c : Nat) (tx : Tok), x = .int (c : Int) tx ∧ c ≤ 173 := by
        match i, hx with
        | 0, hx => exact ⟨0, _, (by simpa using hx.symm), by decide⟩
        | 1, hx => exact ⟨173, _, (by simpa using hx.symm), by decide⟩
        | 2, hx => exact ⟨4, _, (by simpa using hx.symm), by decide⟩
        | 3, hx => exact ⟨53, _, (by simpa using hx.symm), by decide⟩
        | n + 4, hx => lia
      refine kGh ?_; clear kGh Gh
      clear hx
      (repeat' (first | walk_at "mGo" | ((try with_reducible show wpAny _ _ _ _ _ _); (fail_if_success (walk_at "mSt")); first | ((with_reducible show wpAny _ _ (binaryOp Operator.Pow (Value.int 4 _) (Value.int _ _)) _ _ _); ((refine pow437 (by lia) (by lia) ?_; intro _ _ _))) | ((with_reducible show wpAny _ _ (subscriptTail _ _ _ _) _ _ _); first | ((with_reducible show wpAny _ _ (subscriptTail (Expr.Name (Str.ofString "codes") _) _ (Value.ref _) (Value.int _ _)) _ _ _); (refine' code37 ?N2 ?m2 ?v2 ?l2 ?_; (case N2 => with_reducible assumption); (case m2 => walk_at "mMem"); (case v2 => with_reducible assumption); (case l2 => with_reducible assumption)); intro _ _ _; (try dsimp only)) | ((with_reducible show wpAny _ _ (subscriptTail _ _ (Value.ref _) (Value.int _ _)) _ _ _); walk_at "subscriptTail")) | ((with_reducible show wpAny _ _ (call _ _) _ _ _); first | ((with_reducible show wpAny _ _ (call (Value.builtin "str.join") _) _ _ _); ((refine' join37 (News.isList ?N3 ?m3) ?S3 ?b3 ?n3 ?_; (case N3 => with_reducible assumption); (case m3 => exact .head _); (case S3 => first | exact (trivial : StrsAre [] []) | exact StrsAre.one _ _ | with_reducible assumption); (case b3 => first | with_reducible assumption | (intro a ha; cases ha; done) | (intro a ha; rw [List.mem_singleton.mp ha]; exact Nat.le_of_ble_eq_true rfl)); (case n3 => first | exact Nat.le_of_ble_eq_true rfl | lia)); intro _ _ _ _)) | ((with_reducible show wpAny _ _ (call (Value.builtin "chr") _) _ _ _); (refine chr_of_range (by lia) (by lia) ?_)) | ((with_reducible show wpAny _ _ (call (Value.builtin "list.append") [Value.ref _, _]) _ _ _); (k_dflt (refine' append_K ?F7 ?N7 ?U7 ?_ ?z7; (case F7 => with_reducible assumption); (case N7 => with_reducible assumption); (case U7 => walk_at "mUpd"); (case z7 => (simp only [sizeLine_eq, List.size_toArray, List.length_append, List.length_cons, List.length_nil]; lia))); intro h' F' N'; (try simp only [List.push_toArray] at N')))) | ((with_reducible show wpAny _ _ (assign _ _ _) _ _ _); first | ((with_reducible show wpAny _ _ (assign (Expr.Tuple _ _ _) _ (Value.ref _)) _ _ _); ((refine' unpack37 ?F4 ?N4 ?m4 ?h4 ?n4 ?s4 ?_; (case F4 => with_reducible assumption); (case N4 => with_reducible assumption); (case m4 => walk_at "mMem"); (case h4 => exact rfl); (case n4 => exact rfl); (case s4 => exact rfl)); intro _ _ _)) | ((with_reducible show wpAny _ _ (assign (Expr.Tuple _ _ _) _ (Value.ref _)) _ _ _); ((refine' unpackB37 ?F5 ?N5 ?m5 ?h5 ?n5 ?s5 ?_; (case F5 => with_reducible assumption); (case N5 => with_reducible assumption); (case m5 => with_reducible assumption); (case h5 => exact rfl); (case n5 => exact rfl); (case s5 => exact rfl)); intro _ _ _))) | walk1 | (dsimp only; walk1))))
      refine LCg.ListComp_U (F₀ := by k_asm) (by with_unfolding_all rfl) (by decide) (by rfl) (by decide) (by rfl) ?_
      (repeat' (first | walk_at "mGo" | ((try with_reducible show wpAny _ _ _ _ _ _); (fail_if_success (walk_at "mSt")); first | ((with_reducible show wpAny _ _ (binaryOp Operator.Pow (Value.int 4 _) (Value.int _ _)) _ _ _); ((refine pow437 (by lia) (by lia) ?_; intro _ _ _))) | ((with_reducible show wpAny _ _ (subscriptTail _ _ _ _) _ _ _); first | ((with_reducible show wpAny _ _ (subscriptTail (Expr.Name (Str.ofString "codes") _) _ (Value.ref _) (Value.int _ _)) _ _ _); (refine' code37 ?N2 ?m2 ?v2 ?l2 ?_; (case N2 => with_reducible assumption); (case m2 => walk_at "mMem"); (case v2 => with_reducible assumption); (case l2 => with_reducible assumption)); intro _ _ _; (try dsimp only)) | ((with_reducible show wpAny _ _ (subscriptTail _ _ (Value.ref _) (Value.int _ _)) _ _ _); walk_at "subscriptTail")) | ((with_reducible show wpAny _ _ (call _ _) _ _ _); first | ((with_reducible show wpAny _ _ (call (Value.builtin "str.join") _) _ _ _); ((refine' join37 (News.isList ?N3 ?m3) ?S3 ?b3 ?n3 ?_; (case N3 => with_reducible assumption); (case m3 => exact .head _); (case S3 => first | exact (trivial : StrsAre [] []) | exact StrsAre.one _ _ | with_reducible assumption); (case b3 => first | with_reducible assumption | (intro a ha; cases ha; done) | (intro a ha; rw [List.mem_singleton.mp ha]; exact Nat.le_of_ble_eq_true rfl)); (case n3 => first | exact Nat.le_of_ble_eq_true rfl | lia)); intro _ _ _ _)) | ((with_reducible show wpAny _ _ (call (Value.builtin "chr") _) _ _ _); (refine chr_of_range (by lia) (by lia) ?_)) | ((with_reducible show wpAny _ _ (call (Value.builtin "list.append") [Value.ref _, _]) _ _ _); (k_dflt (refine' append_K ?F7 ?N7 ?U7 ?_ ?z7; (case F7 => with_reducible assumption); (case N7 => with_reducible assumption); (case U7 => walk_at "mUpd"); (case z7 => (simp only [sizeLine_eq, List.size_toArray, List.length_append, List.length_cons, List.length_nil]; lia))); intro h' F' N'; (try simp only [List.push_toArray] at N')))) | ((with_reducible show wpAny _ _ (assign _ _ _) _ _ _); first | ((with_reducible show wpAny _ _ (assign (Expr.Tuple _ _ _) _ (Value.ref _)) _ _ _); ((refine' unpack37 ?F4 ?N4 ?m4 ?h4 ?n4 ?s4 ?_; (case F4 => with_reducible assumption); (case N4 => with_reducible assumption); (case m4 => walk_at "mMem"); (case h4 => exact rfl); (case n4 => exact rfl); (case s4 => exact rfl)); intro _ _ _)) | ((with_reducible show wpAny _ _ (assign (Expr.Tuple _ _ _) _ (Value.ref _)) _ _ _); ((refine' unpackB37 ?F5 ?N5 ?m5 ?h5 ?n5 ?s5 ?_; (case F5 => with_reducible assumption); (case N5 => with_reducible assumption); (case m5 => with_reducible assumption); (case h5 => exact rfl); (case n5 => exact rfl); (case s5 => exact rfl)); intro _ _ _))) | walk1 | (dsimp only; walk1))))
      rename Fr _ _ _ _ => Fz
      rename News _ _ _ _ => Nz
      refine slice3_37 Fz Nz (Fr.lst Fz hL) (.int _ _) (.int _ _) (.int _ _) (by decide) hI (by lia) ?_ (by with_unfolding_all rfl) (by intro _; with_unfolding_all rfl)
      intro D2 ws ms h3 F3 N3 l3 hms hmle
      have hwl : ws.length = ms.length := hms.length
      refine LCg.CompSrc.ledger (by rfl) F3 N3 (.head _) (by rw [List.size_toArray, sizeLine_eq]; lia) ?_
      intro g
      refine comp_led (fun j zs nx => nx = (D2, listOf (List.toArray ws) 0) :: (e, oe) :: (it, oi) :: (C, oC) :: (D, LCg.lst ys) :: [(lE, _), (L + 1 + 1 + 1 + 1 + 1, o5), (L + 1 + 1 + 1 + 1, o4), (L + 1 + 1 + 1, o3), (L + 1 + 1, o2), (L + 1, o1)] ∧ ∃ qs : List Int, IntsAre zs qs ∧ qs.length = j ∧ ∀ q ∈ qs, 0 ≤ q ∧ q < 10 ^ 6) ⟨rfl, [], .nil, rfl, fun _ h => nomatch h⟩ ?_ ?_
      · clear Fz Nz F3 N3
        ((repeat (with_reducible rename News _ _ _ _ => Nq; clear Nq)); (repeat (with_reducible rename Fr _ _ _ _ => Fq; clear Fq)); (repeat (with_reducible rename IsRange _ _ _ _ _ _ _ _ => Rq; clear Rq)))
        rintro j zs nx v I oI C2 oC2 D3 m₂ h4 tk4 E4 hj ⟨rfl, qs, hqs, hql, hqb⟩ hv hns2 hm2 F4 N4 off4 ne4
        have hv' : ws[j]? = some v := by simpa using hv
        obtain ⟨q, tq, rfl⟩ : ∃ q tq, v = .int q tq := all_of_ints hms v (List.mem_of_getElem? hv')
        clear hv hv'
        (repeat' (first | walk_at "mGo" | ((try with_reducible show wpAny _ _ _ _ _ _); (fail_if_success (walk_at "mSt")); first | ((with_reducible show wpAny _ _ (binaryOp Operator.Pow (Value.int 4 _) (Value.int _ _)) _ _ _); ((refine pow437 (by lia) (by lia) ?_; intro _ _ _))) | ((with_reducible show wpAny _ _ (subscriptTail _ _ _ _) _ _ _); first | ((with_reducible show wpAny _ _ (subscriptTail (Expr.Name (Str.ofString "codes") _) _ (Value.ref _) (Value.int _ _)) _ _ _); (refine' code37 ?N2 ?m2 ?v2 ?l2 ?_; (case N2 => with_reducible assumption); (case m2 => walk_at "mMem"); (case v2 => with_reducible assumption); (case l2 => with_reducible assumption)); intro _ _ _; (try dsimp only)) | ((with_reducible show wpAny _ _ (subscriptTail _ _ (Value.ref _) (Value.int _ _)) _ _ _); walk_at "subscriptTail")) | ((with_reducible show wpAny _ _ (call _ _) _ _ _); first | ((with_reducible show wpAny _ _ (call (Value.builtin "str.join") _) _ _ _); ((refine' join37 (News.isList ?N3 ?m3) ?S3 ?b3 ?n3 ?_; (case N3 => with_reducible assumption); (case m3 => exact .head _); (case S3 => first | exact (trivial : StrsAre [] []) | exact StrsAre.one _ _ | with_reducible assumption); (case b3 => first | with_reducible assumption | (intro a ha; cases ha; done) | (intro a ha; rw [List.mem_singleton.mp ha]; exact Nat.le_of_ble_eq_true rfl)); (case n3 => first | exact Nat.le_of_ble_eq_true rfl | lia)); intro _ _ _ _)) | ((with_reducible show wpAny _ _ (call (Value.builtin "chr") _) _ _ _); (refine chr_of_range (by lia) (by lia) ?_)) | ((with_reducible show wpAny _ _ (call (Value.builtin "list.append") [Value.ref _, _]) _ _ _); (k_dflt (refine' append_K ?F7 ?N7 ?U7 ?_ ?z7; (case F7 => with_reducible assumption); (case N7 => with_reducible assumption); (case U7 => walk_at "mUpd"); (case z7 => (simp only [sizeLine_eq, List.size_toArray, List.length_append, List.length_cons, List.length_nil]; lia))); intro h' F' N'; (try simp only [List.push_toArray] at N')))) | ((with_reducible show wpAny _ _ (assign _ _ _) _ _ _); first | ((with_reducible show wpAny _ _ (assign (Expr.Tuple _ _ _) _ (Value.ref _)) _ _ _); ((refine' unpack37 ?F4 ?N4 ?m4 ?h4 ?n4 ?s4 ?_; (case F4 => with_reducible assumption); (case N4 => with_reducible assumption); (case m4 => walk_at "mMem"); (case h4 => exact rfl); (case n4 => exact rfl); (case s4 => exact rfl)); intro _ _ _)) | ((with_reducible show wpAny _ _ (assign (Expr.Tuple _ _ _) _ (Value.ref _)) _ _ _); ((refine' unpackB37 ?F5 ?N5 ?m5 ?h5 ?n5 ?s5 ?_; (case F5 => with_reducible assumption); (case N5 => with_reducible assumption); (case m5 => with_reducible assumption); (case h5 => exact rfl); (case n5 => exact rfl); (case s5 => exact rfl)); intro _ _ _))) | walk1 | (dsimp only; walk1))))
        refine LCg.CompEnd.intro F4 N4 _ (fun _ h => h) off4 (.inr ⟨_, .head _, rfl, _, rfl⟩) ⟨rfl, qs ++ [q.fmod (10 ^ Int.toNat 6)], ints_app hqs (.cons _ _ .nil), by simp [hql], ?_⟩
        intro z hz
        rcases List.mem_append.mp hz with hz | hz
        · exact hqb z hz
        · rw [List.mem_singleton.mp hz]
          have e6 : (10 : Int) ^ Int.toNat 6 = 1000000 := by decide
          rw [e6]
          exact ⟨Int.fmod_nonneg_of_pos _ (by decide), Int.fmod_lt_of_pos _ (by decide)⟩
      · rintro zs nx ⟨rfl, qs, hqs, hql, hqb⟩
        clear Fz Nz F3 N3
        ((repeat (with_reducible rename News _ _ _ _ => Nq; clear Nq)); (repeat (with_reducible rename Fr _ _ _ _ => Fq; clear Fq)); (repeat (with_reducible rename IsRange _ _ _ _ _ _ _ _ => Rq; clear Rq)))
        intro D4 h5 tk5 F5 N5 o5'
        have hzl : zs.length = qs.length := hqs.length
        rw [List.size_toArray] at hql
        (repeat' (first | walk_at "mGo" | ((try with_reducible show wpAny _ _ _ _ _ _); (fail_if_success (walk_at "mSt")); first | ((with_reducible show wpAny _ _ (binaryOp Operator.Pow (Value.int 4 _) (Value.int _ _)) _ _ _); ((refine pow437 (by lia) (by lia) ?_; intro _ _ _))) | ((with_reducible show wpAny _ _ (subscriptTail _ _ _ _) _ _ _); first | ((with_reducible show wpAny _ _ (subscriptTail (Expr.Name (Str.ofString "codes") _) _ (Value.ref _) (Value.int _ _)) _ _ _); (refine' code37 ?N2 ?m2 ?v2 ?l2 ?_; (case N2 => with_reducible assumption); (case m2 => walk_at "mMem"); (case v2 => with_reducible assumption); (case l2 => with_reducible assumption)); intro _ _ _; (try dsimp only)) | ((with_reducible show wpAny _ _ (subscriptTail _ _ (Value.ref _) (Value.int _ _)) _ _ _); walk_at "subscriptTail")) | ((with_reducible show wpAny _ _ (call _ _) _ _ _); first | ((with_reducible show wpAny _ _ (call (Value.builtin "str.join") _) _ _ _); ((refine' join37 (News.isList ?N3 ?m3) ?S3 ?b3 ?n3 ?_; (case N3 => with_reducible assumption); (case m3 => exact .head _); (case S3 => first | exact (trivial : StrsAre [] []) | exact StrsAre.one _ _ | with_reducible assumption); (case b3 => first | with_reducible assumption | (intro a ha; cases ha; done) | (intro a ha; rw [List.mem_singleton.mp ha]; exact Nat.le_of_ble_eq_true rfl)); (case n3 => first | exact Nat.le_of_ble_eq_true rfl | lia)); intro _ _ _ _)) | ((with_reducible show wpAny _ _ (call (Value.builtin "chr") _) _ _ _); (refine chr_of_range (by lia) (by lia) ?_)) | ((with_reducible show wpAny _ _ (call (Value.builtin "list.append") [Value.ref _, _]) _ _ _); (k_dflt (refine' append_K ?F7 ?N7 ?U7 ?_ ?z7; (case F7 => with_reducible assumption); (case N7 => with_reducible assumption); (case U7 => walk_at "mUpd"); (case z7 => (simp only [sizeLine_eq, List.size_toArray, List.length_append, List.length_cons, List.length_nil]; lia))); intro h' F' N'; (try simp only [List.push_toArray] at N')))) | ((with_reducible show wpAny _ _ (assign _ _ _) _ _ _); first | ((with_reducible show wpAny _ _ (assign (Expr.Tuple _ _ _) _ (Value.ref _)) _ _ _); ((refine' unpack37 ?F4 ?N4 ?m4 ?h4 ?n4 ?s4 ?_; (case F4 => with_reducible assumption); (case N4 => with_reducible assumption); (case m4 => walk_at "mMem"); (case h4 => exact rfl); (case n4 => exact rfl); (case s4 => exact rfl)); intro _ _ _)) | ((with_reducible show wpAny _ _ (assign (Expr.Tuple _ _ _) _ (Value.ref _)) _ _ _); ((refine' unpackB37 ?F5 ?N5 ?m5 ?h5 ?n5 ?s5 ?_; (case F5 => with_reducible assumption); (case N5 => with_reducible assumption); (case m5 => with_reducible assumption); (case h5 => exact rfl); (case n5 => exact rfl); (case s5 => exact rfl)); intro _ _ _))) | walk1 | (dsimp only; walk1))))
        rename Fr _ _ _ _ => Fz
        rename News _ _ _ _ => Nz
        obtain ⟨q1, q2⟩ := sum_bound hqb
        have hN : ((c : Int) + qs.sum) = ((c + qs.sum.toNat : Nat) : Int) := by lia
        rw [hN]
        refine TurnEnd.intro Fz Nz _ (fun p hp => .tail _ (.tail _ hp)) off ⟨rfl, ks ++ [c + qs.sum.toNat], ?_, by simp [hkl], hi4, ?_⟩
        · unfold NatsAre at hks ⊢
          rw [List.map_append]
          exact ints_app hks (.cons _ _ .nil)
        · intro z hz
          rcases List.mem_append.mp hz with hz | hz
          · exact hkb z hz
          · rw [List.mem_singleton.mp hz]
            lia
    · clear Fz Nz
      ((repeat (with_reducible rename News _ _ _ _ => Nq; clear Nq)); (repeat (with_reducible rename Fr _ _ _ _ => Fq; clear Fq)); (repeat (with_reducible rename IsRange _ _ _ _ _ _ _ _ => Rq; clear Rq)))
      rintro ys nx s₂ D h2 tk2 ⟨rfl, ks, hks, hkl, -, hkb⟩ ⟨_, _, rfl⟩ F2 N2 off2
      refine hideG ?_; intro Gh kGh
      obtain ⟨n0, n1, n2, n3, rfl⟩ : ∃ n0 n1 n2 n3, ks = [n0, n1, n2, n3] := by
        rcases ks with _ | ⟨n0, _ | ⟨n1, _ | ⟨n2, _ | ⟨n3, _ | ⟨n4, r⟩⟩⟩⟩⟩ <;> simp at hkl
        exact ⟨_, _, _, _, rfl⟩
      refine kGh ?_; clear kGh Gh
      simp only [List.forall_mem_cons] at off2 hkb
      refine hideG ?_; intro Gh kGh
      refine and7 off2 ?_; intro x1 x2 x3 x4 x5 x6 _; clear off2
      refine and5 hkb ?_; intro y1 y2 y3 y4 _; clear hkb
      obtain ⟨v2, d2⟩ := d2
      refine and5 l1 ?_; intro z1 z2 z3 z4 z5; clear l1
      refine kGh ?_; clear kGh Gh
      (repeat' (first | walk_at "mGo" | ((try with_reducible show wpAny _ _ _ _ _ _); (fail_if_success (walk_at "mSt")); first | ((with_reducible show wpAny _ _ (binaryOp Operator.Pow (Value.int 4 _) (Value.int _ _)) _ _ _); ((refine pow437 (by lia) (by lia) ?_; intro _ _ _))) | ((with_reducible show wpAny _ _ (subscriptTail _ _ _ _) _ _ _); first | ((with_reducible show wpAny _ _ (subscriptTail (Expr.Name (Str.ofString "codes") _) _ (Value.ref _) (Value.int _ _)) _ _ _); (refine' code37 ?N2 ?m2 ?v2 ?l2 ?_; (case N2 => with_reducible assumption); (case m2 => walk_at "mMem"); (case v2 => with_reducible assumption); (case l2 => with_reducible assumption)); intro _ _ _; (try dsimp only)) | ((with_reducible show wpAny _ _ (subscriptTail _ _ (Value.ref _) (Value.int _ _)) _ _ _); walk_at "subscriptTail")) | ((with_reducible show wpAny _ _ (call _ _) _ _ _); first | ((with_reducible show wpAny _ _ (call (Value.builtin "str.join") _) _ _ _); ((refine' join37 (News.isList ?N3 ?m3) ?S3 ?b3 ?n3 ?_; (case N3 => with_reducible assumption); (case m3 => exact .head _); (case S3 => first | exact (trivial : StrsAre [] []) | exact StrsAre.one _ _ | with_reducible assumption); (case b3 => first | with_reducible assumption | (intro a ha; cases ha; done) | (intro a ha; rw [List.mem_singleton.mp ha]; exact Nat.le_of_ble_eq_true rfl)); (case n3 => first | exact Nat.le_of_ble_eq_true rfl | lia)); intro _ _ _ _)) | ((with_reducible show wpAny _ _ (call (Value.builtin "chr") _) _ _ _); (refine chr_of_range (by lia) (by lia) ?_)) | ((with_reducible show wpAny _ _ (call (Value.builtin "list.append") [Value.ref _, _]) _ _ _); (k_dflt (refine' append_K ?F7 ?N7 ?U7 ?_ ?z7; (case F7 => with_reducible assumption); (case N7 => with_reducible assumption); (case U7 => walk_at "mUpd"); (case z7 => (simp only [sizeLine_eq, List.size_toArray, List.length_append, List.length_cons, List.length_nil]; lia))); intro h' F' N'; (try simp only [List.push_toArray] at N')))) | ((with_reducible show wpAny _ _ (assign _ _ _) _ _ _); first | ((with_reducible show wpAny _ _ (assign (Expr.Tuple _ _ _) _ (Value.ref _)) _ _ _); ((refine' unpack37 ?F4 ?N4 ?m4 ?h4 ?n4 ?s4 ?_; (case F4 => with_reducible assumption); (case N4 => with_reducible assumption); (case m4 => walk_at "mMem"); (case h4 => exact rfl); (case n4 => exact rfl); (case s4 => exact rfl)); intro _ _ _)) | ((with_reducible show wpAny _ _ (assign (Expr.Tuple _ _ _) _ (Value.ref _)) _ _ _); ((refine' unpackB37 ?F5 ?N5 ?m5 ?h5 ?n5 ?s5 ?_; (case F5 => with_reducible assumption); (case N5 => with_reducible assumption); (case m5 => with_reducible assumption); (case h5 => exact rfl); (case n5 => exact rfl); (case s5 => exact rfl)); intro _ _ _))) | walk1 | (dsimp only; walk1))))
      rename Fr _ _ _ _ => Fz
      rename News _ _ _ _ => Nz
      rename Obj.data _ = Data.cell _ => dz
      refine EndL.intro Fz (News.sub Nz (nx' := [(L + 1 + 1 + 1 + 1 + 1, o5), (L + 1 + 1 + 1 + 1, o4), (L + 1 + 1 + 1, o3), (L + 1 + 1, _), (D, LCg.lst ys)]) (by walk_at "mSub")) ?_
      exact ⟨_, D, ys, _, n0, n1, n2, n3, rfl, dz, hks, ⟨y1, y2, y3, y4⟩, x2, x3, x4, x5⟩
    --END
  clear d1 hI hL hlen d2
  ((repeat (with_reducible rename News _ _ _ _ => Nq; clear Nq)); (repeat (with_reducible rename Fr _ _ _ _ => Fq; clear Fq)); (repeat (with_reducible rename IsRange _ _ _ _ _ _ _ _ => Rq; clear Rq)))
  clear o1 o2 la vs
  rintro h₂ tk₂ m₂ nx F₂ N₂ ⟨o2, S, sv, se, n0, n1, n2, n3, rfl, d2, hsv, ⟨b0, b1, b2, b3⟩, s1, s2, s3, s4⟩
  show wpAny _ _ _ _ _ { s₁ with heap := h₂, toks := tk₂ }
  refine hideG ?_; intro Gh kGh
  refine ex4 (nats4 hsv) ?_; intro t0 t1 t2 t3 hx_; subst hx_
  refine kGh ?_; clear kGh Gh
  clear hsv
  try walk_at "mGo"
  refine cut3 (h₀ := s₁.heap) (L := L) (LawJ2 L S se n0 n1 n2 n3 o2 o4 o5 t0 t1 t2 t3) ?_ ?_
  · --BEGIN
    k_fold
    obtain ⟨v3, d3⟩ := d3
    (repeat' (first | walk_at "mGo" | ((try with_reducible show wpAny _ _ _ _ _ _); (fail_if_success (walk_at "mSt")); first | ((with_reducible show wpAny _ _ (binaryOp Operator.Pow (Value.int 4 _) (Value.int _ _)) _ _ _); ((refine pow437 (by lia) (by lia) ?_; intro _ _ _))) | ((with_reducible show wpAny _ _ (subscriptTail _ _ _ _) _ _ _); first | ((with_reducible show wpAny _ _ (subscriptTail (Expr.Name (Str.ofString "codes") _) _ (Value.ref _) (Value.int _ _)) _ _ _); (refine' code37 ?N2 ?m2 ?v2 ?l2 ?_; (case N2 => with_reducible assumption); (case m2 => walk_at "mMem"); (case v2 => with_reducible assumption); (case l2 => with_reducible assumption)); intro _ _ _; (try dsimp only)) | ((with_reducible show wpAny _ _ (subscriptTail _ _ (Value.ref _) (Value.int _ _)) _ _ _); walk_at "subscriptTail")) | ((with_reducible show wpAny _ _ (call _ _) _ _ _); first | ((with_reducible show wpAny _ _ (call (Value.builtin "str.join") _) _ _ _); ((refine' join37 (News.isList ?N3 ?m3) ?S3 ?b3 ?n3 ?_; (case N3 => with_reducible assumption); (case m3 => exact .head _); (case S3 => first | exact (trivial : StrsAre [] []) | exact StrsAre.one _ _ | with_reducible assumption); (case b3 => first | with_reducible assumption | (intro a ha; cases ha; done) | (intro a ha; rw [List.mem_singleton.mp ha]; exact Nat.le_of_ble_eq_true rfl)); (case n3 => first | exact Nat.le_of_ble_eq_true rfl | lia)); intro _ _ _ _)) | ((with_reducible show wpAny _ _ (call (Value.builtin "chr") _) _ _ _); (refine chr_of_range (by lia) (by lia) ?_)) | ((with_reducible show wpAny _ _ (call (Value.builtin "list.append") [Value.ref _, _]) _ _ _); (k_dflt (refine' append_K ?F7 ?N7 ?U7 ?_ ?z7; (case F7 => with_reducible assumption); (case N7 => with_reducible assumption); (case U7 => walk_at "mUpd"); (case z7 => (simp only [sizeLine_eq, List.size_toArray, List.length_append, List.length_cons, List.length_nil]; lia))); intro h' F' N'; (try simp only [List.push_toArray] at N')))) | ((with_reducible show wpAny _ _ (assign _ _ _) _ _ _); first | ((with_reducible show wpAny _ _ (assign (Expr.Tuple _ _ _) _ (Value.ref _)) _ _ _); ((refine' unpack37 ?F4 ?N4 ?m4 ?h4 ?n4 ?s4 ?_; (case F4 => with_reducible assumption); (case N4 => with_reducible assumption); (case m4 => walk_at "mMem"); (case h4 => exact rfl); (case n4 => exact rfl); (case s4 => exact rfl)); intro _ _ _)) | ((with_reducible show wpAny _ _ (assign (Expr.Tuple _ _ _) _ (Value.ref _)) _ _ _); ((refine' unpackB37 ?F5 ?N5 ?m5 ?h5 ?n5 ?s5 ?_; (case F5 => with_reducible assumption); (case N5 => with_reducible assumption); (case m5 => with_reducible assumption); (case h5 => exact rfl); (case n5 => exact rfl); (case s5 => exact rfl)); intro _ _ _))) | walk1 | (dsimp only; walk1))))
    rename Fr _ _ _ _ => Fz
    rename News _ _ _ _ => Nz
    rename Obj.data _ = Data.cell _ => dz
    rename (_ ∧ _) => lz
    refine hideG ?_; intro Gh kGh
    obtain ⟨f, hf, ef⟩ := fm_lt (n0 : Int) 26 (by decide)
    obtain ⟨g, hg, eg⟩ := fm_lt ((n0 : Int).fmod 26 + 1 + ((n0 : Int).fdiv 26).fmod 25) 26 (by decide)
    refine kGh ?_; clear kGh Gh
    have ef' : Int.fmod (n0 : Int) 26 = (f : Int) := ef
    have eg' : Int.fmod ((n0 : Int).fmod 26 + 1 + ((n0 : Int).fdiv 26).fmod 25) 26 = (g : Int) := eg
    refine EndL.intro Fz (News.sub Nz (nx' := [(L + 1 + 1 + 1 + 1 + 1, o5), (L + 1 + 1 + 1 + 1, o4), (L + 1 + 1 + 1, _), (L + 1 + 1, o2), (S, _), (_, _)]) (by walk_at "mSub")) ?_
    have k1 : (65 : Int) + (n0 : Int).fmod 26 = ((65 + f : Nat) : Int) := by lia
    have k2 : (97 : Int) + (n0 : Int).fmod 26 = ((97 + f : Nat) : Int) := by lia
    have k3 : (65 : Int) + ((n0 : Int).fmod 26 + 1 + ((n0 : Int).fdiv 26).fmod 25).fmod 26 = ((65 + g : Nat) : Int) := by lia
    have k4 : (97 : Int) + ((n0 : Int).fmod 26 + 1 + ((n0 : Int).fdiv 26).fmod 25).fmod 26 = ((97 + g : Nat) : Int) := by lia
    exact ⟨_, _, _, _, f, g, rfl, dz, nat_cons k1 (nat_cons k2 (nat_cons k3 (nat_cons k4 .nil))), hf, hg, lz⟩
    --END
  clear d3 F₂ N₂
  ((repeat (with_reducible rename News _ _ _ _ => Nq; clear Nq)); (repeat (with_reducible rename Fr _ _ _ _ => Fq; clear Fq)); (repeat (with_reducible rename IsRange _ _ _ _ _ _ _ _ => Rq; clear Rq)))
  rintro h₂ tk₂ m₂ nx F₂ N₂ ⟨o3, Cd, cv, ce, f, g, rfl, d3, hcv, hf, hg, c1, c2, c3, c4, c5⟩
  show wpAny _ _ _ _ _ { s₁ with heap := h₂, toks := tk₂ }
  generalize hcs : [65 + f, 97 + f, 65 + g, 97 + g] = cs at hcv
  have hcl : cs.length = 4 := by subst hcs; rfl
  try walk_at "mGo"
  refine cut1 (h₀ := s₁.heap) (L := L) (LawJ3 L S se n0 n1 n2 n3 Cd ce o2 o3 o4 o5 cv t0 t1 t2 t3 cs) ?_ ?_
  · --BEGIN
    k_fold
    try walk_at "mGo"
    refine execs_cons_gen ?_
    intro tk
    refine LCg.Assign_ListComp_U (F₀ := by k_asm) (by rfl) (by with_unfolding_all rfl) (by with_unfolding_all rfl) (by decide) (by rfl) (by decide) (by rfl) (by rfl) (by rfl) ?_
    (repeat' (first | walk_at "mGo" | ((try with_reducible show wpAny _ _ _ _ _ _); (fail_if_success (walk_at "mSt")); first | ((with_reducible show wpAny _ _ (binaryOp Operator.Pow (Value.int 4 _) (Value.int _ _)) _ _ _); ((refine pow437 (by lia) (by lia) ?_; intro _ _ _))) | ((with_reducible show wpAny _ _ (subscriptTail _ _ _ _) _ _ _); first | ((with_reducible show wpAny _ _ (subscriptTail (Expr.Name (Str.ofString "codes") _) _ (Value.ref _) (Value.int _ _)) _ _ _); (refine' code37 ?N2 ?m2 ?v2 ?l2 ?_; (case N2 => with_reducible assumption); (case m2 => walk_at "mMem"); (case v2 => with_reducible assumption); (case l2 => with_reducible assumption)); intro _ _ _; (try dsimp only)) | ((with_reducible show wpAny _ _ (subscriptTail _ _ (Value.ref _) (Value.int _ _)) _ _ _); walk_at "subscriptTail")) | ((with_reducible show wpAny _ _ (call _ _) _ _ _); first | ((with_reducible show wpAny _ _ (call (Value.builtin "str.join") _) _ _ _); ((refine' join37 (News.isList ?N3 ?m3) ?S3 ?b3 ?n3 ?_; (case N3 => with_reducible assumption); (case m3 => exact .head _); (case S3 => first | exact (trivial : StrsAre [] []) | exact StrsAre.one _ _ | with_reducible assumption); (case b3 => first | with_reducible assumption | (intro a ha; cases ha; done) | (intro a ha; rw [List.mem_singleton.mp ha]; exact Nat.le_of_ble_eq_true rfl)); (case n3 => first | exact Nat.le_of_ble_eq_true rfl | lia)); intro _ _ _ _)) | ((with_reducible show wpAny _ _ (call (Value.builtin "chr") _) _ _ _); (refine chr_of_range (by lia) (by lia) ?_)) | ((with_reducible show wpAny _ _ (call (Value.builtin "list.append") [Value.ref _, _]) _ _ _); (k_dflt (refine' append_K ?F7 ?N7 ?U7 ?_ ?z7; (case F7 => with_reducible assumption); (case N7 => with_reducible assumption); (case U7 => walk_at "mUpd"); (case z7 => (simp only [sizeLine_eq, List.size_toArray, List.length_append, List.length_cons, List.length_nil]; lia))); intro h' F' N'; (try simp only [List.push_toArray] at N')))) | ((with_reducible show wpAny _ _ (assign _ _ _) _ _ _); first | ((with_reducible show wpAny _ _ (assign (Expr.Tuple _ _ _) _ (Value.ref _)) _ _ _); ((refine' unpack37 ?F4 ?N4 ?m4 ?h4 ?n4 ?s4 ?_; (case F4 => with_reducible assumption); (case N4 => with_reducible assumption); (case m4 => walk_at "mMem"); (case h4 => exact rfl); (case n4 => exact rfl); (case s4 => exact rfl)); intro _ _ _)) | ((with_reducible show wpAny _ _ (assign (Expr.Tuple _ _ _) _ (Value.ref _)) _ _ _); ((refine' unpackB37 ?F5 ?N5 ?m5 ?h5 ?n5 ?s5 ?_; (case F5 => with_reducible assumption); (case N5 => with_reducible assumption); (case m5 => with_reducible assumption); (case h5 => exact rfl); (case n5 => exact rfl); (case s5 => exact rfl)); intro _ _ _))) | walk1 | (dsimp only; walk1))))
    rename IsRange _ _ _ _ _ _ _ _ => Rz
    rename Fr _ _ _ _ => Fz
    rename News _ _ _ _ => Nz
    refine LCg.CompSrc.range (n := 4) (by rfl) Fz Nz Rz (by decide) (by decide) (by rw [sizeLine_eq]; decide) ?_
    intro gz
    refine comp_led (fun i ys nx => nx = [(L + 1 + 1 + 1 + 1 + 1, o5), (L + 1 + 1 + 1 + 1, o4), (L + 1 + 1 + 1, o3), (L + 1 + 1, o2), (S, sumsO n0 n1 n2 n3 t0 t1 t2 t3 se), (Cd, listOf cv.toArray ce)] ∧ ∃ ks : List Nat, NatsAre ys ks ∧ ks.length = i ∧ ∀ x ∈ ks, x ∈ cs) ⟨rfl, [], .nil, rfl, fun _ h => nomatch h⟩ ?_ ?_
    · clear Fz Nz Rz
      ((repeat (with_reducible rename News _ _ _ _ => Nq; clear Nq)); (repeat (with_reducible rename Fr _ _ _ _ => Fq; clear Fq)); (repeat (with_reducible rename IsRange _ _ _ _ _ _ _ _ => Rq; clear Rq)))
      rintro j zs nx v I oI C2 oC2 D3 m₃ h4 tk4 E4 hj ⟨rfl, ks, hks, hkl, hkb⟩ ⟨tv, rfl⟩ hns2 hm2 F4 N4 off4 ne4
      ((repeat' (first | walk_at "mGo" | ((try with_reducible show wpAny _ _ _ _ _ _); (fail_if_success (walk_at "mSt")); first | ((with_reducible show wpAny _ _ (binaryOp Operator.Pow (Value.int 4 _) (Value.int _ _)) _ _ _); ((refine pow437 (by lia) (by lia) ?_; intro _ _ _))) | ((with_reducible show wpAny _ _ (subscriptTail _ _ _ _) _ _ _); first | ((with_reducible show wpAny _ _ (subscriptTail (Expr.Name (Str.ofString "codes") _) _ (Value.ref _) (Value.int _ _)) _ _ _); (refine' code37 ?N2 ?m2 ?v2 ?l2 ?_; (case N2 => with_reducible assumption); (case m2 => walk_at "mMem"); (case v2 => with_reducible assumption); (case l2 => with_reducible assumption)); intro _ _ _; (try dsimp only)) | ((with_reducible show wpAny _ _ (subscriptTail _ _ (Value.ref _) (Value.int _ _)) _ _ _); walk_at "subscriptTail")) | ((with_reducible show wpAny _ _ (call _ _) _ _ _); first | ((with_reducible show wpAny _ _ (call (Value.builtin "str.join") _) _ _ _); ((refine' join37 (News.isList ?N3 ?m3) ?S3 ?b3 ?n3 ?_; (case N3 => with_reducible assumption); (case m3 => exact .head _); (case S3 => first | exact (trivial : StrsAre [] []) | exact StrsAre.one _ _ | with_reducible assumption); (case b3 => first | with_reducible assumption | (intro a ha; cases ha; done) | (intro a ha; rw [List.mem_singleton.mp ha]; exact Nat.le_of_ble_eq_true rfl)); (case n3 => first | exact Nat.le_of_ble_eq_true rfl | lia)); intro _ _ _ _)) | ((with_reducible show wpAny _ _ (call (Value.builtin "chr") _) _ _ _); (refine chr_of_range (by lia) (by lia) ?_)) | ((with_reducible show wpAny _ _ (call (Value.builtin "list.append") [Value.ref _, _]) _ _ _); (k_dflt (refine' append_K ?F7 ?N7 ?U7 ?_ ?z7; (case F7 => with_reducible assumption); (case N7 => with_reducible assumption); (case U7 => walk_at "mUpd"); (case z7 => (simp only [sizeLine_eq, List.size_toArray, List.length_append, List.length_cons, List.length_nil]; lia))); intro h' F' N'; (try simp only [List.push_toArray] at N')))) | ((with_reducible show wpAny _ _ (assign _ _ _) _ _ _); first | ((with_reducible show wpAny _ _ (assign (Expr.Tuple _ _ _) _ (Value.ref _)) _ _ _); ((refine' unpack37 ?F4 ?N4 ?m4 ?h4 ?n4 ?s4 ?_; (case F4 => with_reducible assumption); (case N4 => with_reducible assumption); (case m4 => walk_at "mMem"); (case h4 => exact rfl); (case n4 => exact rfl); (case s4 => exact rfl)); intro _ _ _)) | ((with_reducible show wpAny _ _ (assign (Expr.Tuple _ _ _) _ (Value.ref _)) _ _ _); ((refine' unpackB37 ?F5 ?N5 ?m5 ?h5 ?n5 ?s5 ?_; (case F5 => with_reducible assumption); (case N5 => with_reducible assumption); (case m5 => with_reducible assumption); (case h5 => exact rfl); (case n5 => exact rfl); (case s5 => exact rfl)); intro _ _ _))) | walk1 | (dsimp only; walk1)))); (rename Fr _ _ _ _ => Fz); (rename News _ _ _ _ => Nz); (rename (_ ∈ _) => hcz); refine LCg.CompEnd.intro Fz Nz _ (fun _ h => h) (by with_reducible assumption) trivial ⟨rfl, _, nats_snoc (by with_reducible assumption), by simp [*], mem_snoc (by with_reducible assumption) hcz⟩)
    · clear Fz Nz Rz
      ((repeat (with_reducible rename News _ _ _ _ => Nq; clear Nq)); (repeat (with_reducible rename Fr _ _ _ _ => Fq; clear Fq)); (repeat (with_reducible rename IsRange _ _ _ _ _ _ _ _ => Rq; clear Rq)))
      rintro zs nx ⟨rfl, ks, hks, hkl, hkb⟩
      intro D4 h5 tk5 F5 N5 o5'
      refine hideG ?_; intro Gh kGh
      obtain ⟨p0, p1, p2, p3, rfl⟩ : ∃ n0 n1 n2 n3, ks = [n0, n1, n2, n3] := by
        rcases ks with _ | ⟨n0, _ | ⟨n1, _ | ⟨n2, _ | ⟨n3, _ | ⟨n4, r⟩⟩⟩⟩⟩ <;> simp at hkl
        exact ⟨_, _, _, _, rfl⟩
      refine kGh ?_; clear kGh Gh
      simp only [List.forall_mem_cons] at hkb
      refine hideG ?_; intro Gh kGh
      refine and5 hkb ?_; intro k1 k2 k3 k4 _; clear hkb
      refine kGh ?_; clear kGh Gh
      (repeat' (first | walk_at "mGo" | ((try with_reducible show wpAny _ _ _ _ _ _); (fail_if_success (walk_at "mSt")); first | ((with_reducible show wpAny _ _ (binaryOp Operator.Pow (Value.int 4 _) (Value.int _ _)) _ _ _); ((refine pow437 (by lia) (by lia) ?_; intro _ _ _))) | ((with_reducible show wpAny _ _ (subscriptTail _ _ _ _) _ _ _); first | ((with_reducible show wpAny _ _ (subscriptTail (Expr.Name (Str.ofString "codes") _) _ (Value.ref _) (Value.int _ _)) _ _ _); (refine' code37 ?N2 ?m2 ?v2 ?l2 ?_; (case N2 => with_reducible assumption); (case m2 => walk_at "mMem"); (case v2 => with_reducible assumption); (case l2 => with_reducible assumption)); intro _ _ _; (try dsimp only)) | ((with_reducible show wpAny _ _ (subscriptTail _ _ (Value.ref _) (Value.int _ _)) _ _ _); walk_at "subscriptTail")) | ((with_reducible show wpAny _ _ (call _ _) _ _ _); first | ((with_reducible show wpAny _ _ (call (Value.builtin "str.join") _) _ _ _); ((refine' join37 (News.isList ?N3 ?m3) ?S3 ?b3 ?n3 ?_; (case N3 => with_reducible assumption); (case m3 => exact .head _); (case S3 => first | exact (trivial : StrsAre [] []) | exact StrsAre.one _ _ | with_reducible assumption); (case b3 => first | with_reducible assumption | (intro a ha; cases ha; done) | (intro a ha; rw [List.mem_singleton.mp ha]; exact Nat.le_of_ble_eq_true rfl)); (case n3 => first | exact Nat.le_of_ble_eq_true rfl | lia)); intro _ _ _ _)) | ((with_reducible show wpAny _ _ (call (Value.builtin "chr") _) _ _ _); (refine chr_of_range (by lia) (by lia) ?_)) | ((with_reducible show wpAny _ _ (call (Value.builtin "list.append") [Value.ref _, _]) _ _ _); (k_dflt (refine' append_K ?F7 ?N7 ?U7 ?_ ?z7; (case F7 => with_reducible assumption); (case N7 => with_reducible assumption); (case U7 => walk_at "mUpd"); (case z7 => (simp only [sizeLine_eq, List.size_toArray, List.length_append, List.length_cons, List.length_nil]; lia))); intro h' F' N'; (try simp only [List.push_toArray] at N')))) | ((with_reducible show wpAny _ _ (assign _ _ _) _ _ _); first | ((with_reducible show wpAny _ _ (assign (Expr.Tuple _ _ _) _ (Value.ref _)) _ _ _); ((refine' unpack37 ?F4 ?N4 ?m4 ?h4 ?n4 ?s4 ?_; (case F4 => with_reducible assumption); (case N4 => with_reducible assumption); (case m4 => walk_at "mMem"); (case h4 => exact rfl); (case n4 => exact rfl); (case s4 => exact rfl)); intro _ _ _)) | ((with_reducible show wpAny _ _ (assign (Expr.Tuple _ _ _) _ (Value.ref _)) _ _ _); ((refine' unpackB37 ?F5 ?N5 ?m5 ?h5 ?n5 ?s5 ?_; (case F5 => with_reducible assumption); (case N5 => with_reducible assumption); (case m5 => with_reducible assumption); (case h5 => exact rfl); (case n5 => exact rfl); (case s5 => exact rfl)); intro _ _ _))) | walk1 | (dsimp only; walk1))))
      rename Fr _ _ _ _ => Fz
      rename News _ _ _ _ => Nz
      refine EndL.intro Fz (News.sub Nz (nx' := [(L + 1 + 1 + 1 + 1 + 1, o5), (L + 1 + 1 + 1 + 1, o4), (L + 1 + 1 + 1, o3), (L + 1 + 1, o2), (S, _), (Cd, _), (D4, _)]) (by walk_at "mSub")) ?_
      exact ⟨D4, zs, _, p0, p1, p2, p3, .cons rfl .nil, rfl, hks, k1, k2, k3, k4⟩
    --END
  clear F₂ N₂
  ((repeat (with_reducible rename News _ _ _ _ => Nq; clear Nq)); (repeat (with_reducible rename Fr _ _ _ _ => Fq; clear Fq)); (repeat (with_reducible rename IsRange _ _ _ _ _ _ _ _ => Rq; clear Rq)))
  rintro h₃ tk₃ m₃ nx F₃ N₃ ⟨Fg, fv, fe, p0, p1, p2, p3, hag, rfl, hfv, hp0, hp1, hp2, hp3⟩
  replace F₃ := hag.fr F₃
  clear hag
  show wpAny _ _ _ _ _ { s₁ with heap := h₃, toks := tk₃ }
  refine hideG ?_; intro Gh kGh
  refine ex4 (nats4 hfv) ?_; intro u0 u1 u2 u3 hx_; subst hx_
  refine kGh ?_; clear kGh Gh
  clear hfv
  try walk_at "mGo"
  refine cut1 (h₀ := s₁.heap) (L := L) (LawJ4 L S se n0 n1 n2 n3 Cd ce p0 p1 p2 p3 o2 o3 o4 o5 cv t0 t1 t2 t3) ?_ ?_
  · --BEGIN
    k_fold
    (repeat' (first | walk_at "mGo" | ((try with_reducible show wpAny _ _ _ _ _ _); (fail_if_success (walk_at "mSt")); first | ((with_reducible show wpAny _ _ (binaryOp Operator.Pow (Value.int 4 _) (Value.int _ _)) _ _ _); ((refine pow437 (by lia) (by lia) ?_; intro _ _ _))) | ((with_reducible show wpAny _ _ (subscriptTail _ _ _ _) _ _ _); first | ((with_reducible show wpAny _ _ (subscriptTail (Expr.Name (Str.ofString "codes") _) _ (Value.ref _) (Value.int _ _)) _ _ _); (refine' code37 ?N2 ?m2 ?v2 ?l2 ?_; (case N2 => with_reducible assumption); (case m2 => walk_at "mMem"); (case v2 => with_reducible assumption); (case l2 => with_reducible assumption)); intro _ _ _; (try dsimp only)) | ((with_reducible show wpAny _ _ (subscriptTail _ _ (Value.ref _) (Value.int _ _)) _ _ _); walk_at "subscriptTail")) | ((with_reducible show wpAny _ _ (call _ _) _ _ _); first | ((with_reducible show wpAny _ _ (call (Value.builtin "str.join") _) _ _ _); ((refine' join37 (News.isList ?N3 ?m3) ?S3 ?b3 ?n3 ?_; (case N3 => with_reducible assumption); (case m3 => exact .head _); (case S3 => first | exact (trivial : StrsAre [] []) | exact StrsAre.one _ _ | with_reducible assumption); (case b3 => first | with_reducible assumption | (intro a ha; cases ha; done) | (intro a ha; rw [List.mem_singleton.mp ha]; exact Nat.le_of_ble_eq_true rfl)); (case n3 => first | exact Nat.le_of_ble_eq_true rfl | lia)); intro _ _ _ _)) | ((with_reducible show wpAny _ _ (call (Value.builtin "chr") _) _ _ _); (refine chr_of_range (by lia) (by lia) ?_)) | ((with_reducible show wpAny _ _ (call (Value.builtin "list.append") [Value.ref _, _]) _ _ _); (k_dflt (refine' append_K ?F7 ?N7 ?U7 ?_ ?z7; (case F7 => with_reducible assumption); (case N7 => with_reducible assumption); (case U7 => walk_at "mUpd"); (case z7 => (simp only [sizeLine_eq, List.size_toArray, List.length_append, List.length_cons, List.length_nil]; lia))); intro h' F' N'; (try simp only [List.push_toArray] at N')))) | ((with_reducible show wpAny _ _ (assign _ _ _) _ _ _); first | ((with_reducible show wpAny _ _ (assign (Expr.Tuple _ _ _) _ (Value.ref _)) _ _ _); ((refine' unpack37 ?F4 ?N4 ?m4 ?h4 ?n4 ?s4 ?_; (case F4 => with_reducible assumption); (case N4 => with_reducible assumption); (case m4 => walk_at "mMem"); (case h4 => exact rfl); (case n4 => exact rfl); (case s4 => exact rfl)); intro _ _ _)) | ((with_reducible show wpAny _ _ (assign (Expr.Tuple _ _ _) _ (Value.ref _)) _ _ _); ((refine' unpackB37 ?F5 ?N5 ?m5 ?h5 ?n5 ?s5 ?_; (case F5 => with_reducible assumption); (case N5 => with_reducible assumption); (case m5 => with_reducible assumption); (case h5 => exact rfl); (case n5 => exact rfl); (case s5 => exact rfl)); intro _ _ _))) | walk1 | (dsimp only; walk1))))
    rename_i T1 ha l1 T2 hb l2 P hc l3 hd Fz Nz tke
    refine EndL.intro Fz (News.sub Nz (nx' := [(L + 1 + 1 + 1 + 1 + 1, o5), (L + 1 + 1 + 1 + 1, o4), (L + 1 + 1 + 1, o3), (L + 1 + 1, o2), (S, _), (Cd, _), (P, _), (T1, _), (T2, _)]) (by walk_at "mSub")) ?_
    exact ⟨P, T1, T2, _, _, _, _, .cons rfl .nil, rfl, .lt l3.2.2.1, .lt l1.1, .lt l2.2.1⟩
    --END
  clear F₃ N₃
  ((repeat (with_reducible rename News _ _ _ _ => Nq; clear Nq)); (repeat (with_reducible rename Fr _ _ _ _ => Fq; clear Fq)); (repeat (with_reducible rename IsRange _ _ _ _ _ _ _ _ => Rq; clear Rq)))
  rintro h₄ tk₄ m₄ nx F₄ N₄ ⟨P, T1, T2, v0, v1, v2, v3, hag, rfl, fP, fT1, fT2⟩
  replace F₄ := hag.fr F₄
  clear hag
  show wpAny _ _ _ _ _ { s₁ with heap := h₄, toks := tk₄ }
  try walk_at "mGo"
  refine cut1 (h₀ := s₁.heap) (L := L) (LawJ5 L S se n0 n1 n2 n3 Cd ce p0 p1 p2 p3 P T1 T2 o2 o3 o4 o5 cv t0 t1 t2 t3 v0 v1 v2 v3 cs) ?_ ?_
  · --BEGIN
    k_fold
    (repeat' (first | walk_at "mGo" | ((try with_reducible show wpAny _ _ _ _ _ _); (fail_if_success (walk_at "mSt")); first | ((with_reducible show wpAny _ _ (binaryOp Operator.Pow (Value.int 4 _) (Value.int _ _)) _ _ _); ((refine pow437 (by lia) (by lia) ?_; intro _ _ _))) | ((with_reducible show wpAny _ _ (subscriptTail _ _ _ _) _ _ _); first | ((with_reducible show wpAny _ _ (subscriptTail (Expr.Name (Str.ofString "codes") _) _ (Value.ref _) (Value.int _ _)) _ _ _); (refine' code37 ?N2 ?m2 ?v2 ?l2 ?_; (case N2 => with_reducible assumption); (case m2 => walk_at "mMem"); (case v2 => with_reducible assumption); (case l2 => with_reducible assumption)); intro _ _ _; (try dsimp only)) | ((with_reducible show wpAny _ _ (subscriptTail _ _ (Value.ref _) (Value.int _ _)) _ _ _); walk_at "subscriptTail")) | ((with_reducible show wpAny _ _ (call _ _) _ _ _); first | ((with_reducible show wpAny _ _ (call (Value.builtin "str.join") _) _ _ _); ((refine' join37 (News.isList ?N3 ?m3) ?S3 ?b3 ?n3 ?_; (case N3 => with_reducible assumption); (case m3 => exact .head _); (case S3 => first | exact (trivial : StrsAre [] []) | exact StrsAre.one _ _ | with_reducible assumption); (case b3 => first | with_reducible assumption | (intro a ha; cases ha; done) | (intro a ha; rw [List.mem_singleton.mp ha]; exact Nat.le_of_ble_eq_true rfl)); (case n3 => first | exact Nat.le_of_ble_eq_true rfl | lia)); intro _ _ _ _)) | ((with_reducible show wpAny _ _ (call (Value.builtin "chr") _) _ _ _); (refine chr_of_range (by lia) (by lia) ?_)) | ((with_reducible show wpAny _ _ (call (Value.builtin "list.append") [Value.ref _, _]) _ _ _); (k_dflt (refine' append_K ?F7 ?N7 ?U7 ?_ ?z7; (case F7 => with_reducible assumption); (case N7 => with_reducible assumption); (case U7 => walk_at "mUpd"); (case z7 => (simp only [sizeLine_eq, List.size_toArray, List.length_append, List.length_cons, List.length_nil]; lia))); intro h' F' N'; (try simp only [List.push_toArray] at N')))) | ((with_reducible show wpAny _ _ (assign _ _ _) _ _ _); first | ((with_reducible show wpAny _ _ (assign (Expr.Tuple _ _ _) _ (Value.ref _)) _ _ _); ((refine' unpack37 ?F4 ?N4 ?m4 ?h4 ?n4 ?s4 ?_; (case F4 => with_reducible assumption); (case N4 => with_reducible assumption); (case m4 => walk_at "mMem"); (case h4 => exact rfl); (case n4 => exact rfl); (case s4 => exact rfl)); intro _ _ _)) | ((with_reducible show wpAny _ _ (assign (Expr.Tuple _ _ _) _ (Value.ref _)) _ _ _); ((refine' unpackB37 ?F5 ?N5 ?m5 ?h5 ?n5 ?s5 ?_; (case F5 => with_reducible assumption); (case N5 => with_reducible assumption); (case m5 => with_reducible assumption); (case h5 => exact rfl); (case n5 => exact rfl); (case s5 => exact rfl)); intro _ _ _))) | walk1 | (dsimp only; walk1))))
    have q0 := Int.fmod_nonneg_of_pos (n2 : Int) (b := 5) (by decide)
    rename Fr _ _ _ _ => Fz
    rename News _ _ _ _ => Nz
    refine slice_core37 Fz Nz (News.isList Nz (by walk_at "mMem")) hcv (by lia) q0 rfl ?_ (by with_unfolding_all rfl) (by intro _; with_unfolding_all rfl)
    clear Fz Nz
    ((repeat (with_reducible rename News _ _ _ _ => Nq; clear Nq)); (repeat (with_reducible rename Fr _ _ _ _ => Fq; clear Fq)); (repeat (with_reducible rename IsRange _ _ _ _ _ _ _ _ => Rq; clear Rq)))
    intro D ws core h3 F3 N3 l3 hws hcl1 hcin
    simp only [AllLt, and_true] at l3
    (repeat' (first | walk_at "mGo" | ((try with_reducible show wpAny _ _ _ _ _ _); (fail_if_success (walk_at "mSt")); first | ((with_reducible show wpAny _ _ (binaryOp Operator.Pow (Value.int 4 _) (Value.int _ _)) _ _ _); ((refine pow437 (by lia) (by lia) ?_; intro _ _ _))) | ((with_reducible show wpAny _ _ (subscriptTail _ _ _ _) _ _ _); first | ((with_reducible show wpAny _ _ (subscriptTail (Expr.Name (Str.ofString "codes") _) _ (Value.ref _) (Value.int _ _)) _ _ _); (refine' code37 ?N2 ?m2 ?v2 ?l2 ?_; (case N2 => with_reducible assumption); (case m2 => walk_at "mMem"); (case v2 => with_reducible assumption); (case l2 => with_reducible assumption)); intro _ _ _; (try dsimp only)) | ((with_reducible show wpAny _ _ (subscriptTail _ _ (Value.ref _) (Value.int _ _)) _ _ _); walk_at "subscriptTail")) | ((with_reducible show wpAny _ _ (call _ _) _ _ _); first | ((with_reducible show wpAny _ _ (call (Value.builtin "str.join") _) _ _ _); ((refine' join37 (News.isList ?N3 ?m3) ?S3 ?b3 ?n3 ?_; (case N3 => with_reducible assumption); (case m3 => exact .head _); (case S3 => first | exact (trivial : StrsAre [] []) | exact StrsAre.one _ _ | with_reducible assumption); (case b3 => first | with_reducible assumption | (intro a ha; cases ha; done) | (intro a ha; rw [List.mem_singleton.mp ha]; exact Nat.le_of_ble_eq_true rfl)); (case n3 => first | exact Nat.le_of_ble_eq_true rfl | lia)); intro _ _ _ _)) | ((with_reducible show wpAny _ _ (call (Value.builtin "chr") _) _ _ _); (refine chr_of_range (by lia) (by lia) ?_)) | ((with_reducible show wpAny _ _ (call (Value.builtin "list.append") [Value.ref _, _]) _ _ _); (k_dflt (refine' append_K ?F7 ?N7 ?U7 ?_ ?z7; (case F7 => with_reducible assumption); (case N7 => with_reducible assumption); (case U7 => walk_at "mUpd"); (case z7 => (simp only [sizeLine_eq, List.size_toArray, List.length_append, List.length_cons, List.length_nil]; lia))); intro h' F' N'; (try simp only [List.push_toArray] at N')))) | ((with_reducible show wpAny _ _ (assign _ _ _) _ _ _); first | ((with_reducible show wpAny _ _ (assign (Expr.Tuple _ _ _) _ (Value.ref _)) _ _ _); ((refine' unpack37 ?F4 ?N4 ?m4 ?h4 ?n4 ?s4 ?_; (case F4 => with_reducible assumption); (case N4 => with_reducible assumption); (case m4 => walk_at "mMem"); (case h4 => exact rfl); (case n4 => exact rfl); (case s4 => exact rfl)); intro _ _ _)) | ((with_reducible show wpAny _ _ (assign (Expr.Tuple _ _ _) _ (Value.ref _)) _ _ _); ((refine' unpackB37 ?F5 ?N5 ?m5 ?h5 ?n5 ?s5 ?_; (case F5 => with_reducible assumption); (case N5 => with_reducible assumption); (case m5 => with_reducible assumption); (case h5 => exact rfl); (case n5 => exact rfl); (case s5 => exact rfl)); intro _ _ _))) | walk1 | (dsimp only; walk1))))
    rename Fr _ _ _ _ => Fz
    rename News _ _ _ _ => Nz
    refine EndL.intro Fz (News.sub Nz (nx' := [(L + 1 + 1 + 1 + 1 + 1, o5), (L + 1 + 1 + 1 + 1, o4), (L + 1 + 1 + 1, o3), (L + 1 + 1, o2), (S, _), (Cd, _), (P, _), (T1, _), (T2, _), (D, _)]) (by walk_at "mSub")) ?_
    exact ⟨D, ws, _, core, .cons rfl (.cons rfl .nil), rfl, hws, hcl1, hcin, .lt l3.1⟩
    --END
  clear F₄ N₄
  ((repeat (with_reducible rename News _ _ _ _ => Nq; clear Nq)); (repeat (with_reducible rename Fr _ _ _ _ => Fq; clear Fq)); (repeat (with_reducible rename IsRange _ _ _ _ _ _ _ _ => Rq; clear Rq)))
  rintro h₅ tk₅ m₅ nx F₅ N₅ ⟨M, mv, me, core, hag, rfl, hmv, hcl1, hcin, fM⟩
  replace F₅ := hag.fr F₅
  clear hag
  show wpAny _ _ _ _ _ { s₁ with heap := h₅, toks := tk₅ }
  try walk_at "mGo"
  refine cut1 (h₀ := s₁.heap) (L := L) (LawJ6 L p0 p1 p2 p3 P T1 T2 M me o4 o5 mv v0 v1 v2 v3 cs) ?_ ?_
  · --BEGIN
    k_fold
    try walk_at "mGo"
    refine execs_cons_gen ?_
    intro tk
    refine LCg.Assign_ListComp_U (F₀ := by k_asm) (by rfl) (by with_unfolding_all rfl) (by with_unfolding_all rfl) (by decide) (by rfl) (by decide) (by rfl) (by rfl) (by rfl) ?_
    (repeat' (first | walk_at "mGo" | ((try with_reducible show wpAny _ _ _ _ _ _); (fail_if_success (walk_at "mSt")); first | ((with_reducible show wpAny _ _ (binaryOp Operator.Pow (Value.int 4 _) (Value.int _ _)) _ _ _); ((refine pow437 (by lia) (by lia) ?_; intro _ _ _))) | ((with_reducible show wpAny _ _ (subscriptTail _ _ _ _) _ _ _); first | ((with_reducible show wpAny _ _ (subscriptTail (Expr.Name (Str.ofString "codes") _) _ (Value.ref _) (Value.int _ _)) _ _ _); (refine' code37 ?N2 ?m2 ?v2 ?l2 ?_; (case N2 => with_reducible assumption); (case m2 => walk_at "mMem"); (case v2 => with_reducible assumption); (case l2 => with_reducible assumption)); intro _ _ _; (try dsimp only)) | ((with_reducible show wpAny _ _ (subscriptTail _ _ (Value.ref _) (Value.int _ _)) _ _ _); walk_at "subscriptTail")) | ((with_reducible show wpAny _ _ (call _ _) _ _ _); first | ((with_reducible show wpAny _ _ (call (Value.builtin "str.join") _) _ _ _); ((refine' join37 (News.isList ?N3 ?m3) ?S3 ?b3 ?n3 ?_; (case N3 => with_reducible assumption); (case m3 => exact .head _); (case S3 => first | exact (trivial : StrsAre [] []) | exact StrsAre.one _ _ | with_reducible assumption); (case b3 => first | with_reducible assumption | (intro a ha; cases ha; done) | (intro a ha; rw [List.mem_singleton.mp ha]; exact Nat.le_of_ble_eq_true rfl)); (case n3 => first | exact Nat.le_of_ble_eq_true rfl | lia)); intro _ _ _ _)) | ((with_reducible show wpAny _ _ (call (Value.builtin "chr") _) _ _ _); (refine chr_of_range (by lia) (by lia) ?_)) | ((with_reducible show wpAny _ _ (call (Value.builtin "list.append") [Value.ref _, _]) _ _ _); (k_dflt (refine' append_K ?F7 ?N7 ?U7 ?_ ?z7; (case F7 => with_reducible assumption); (case N7 => with_reducible assumption); (case U7 => walk_at "mUpd"); (case z7 => (simp only [sizeLine_eq, List.size_toArray, List.length_append, List.length_cons, List.length_nil]; lia))); intro h' F' N'; (try simp only [List.push_toArray] at N')))) | ((with_reducible show wpAny _ _ (assign _ _ _) _ _ _); first | ((with_reducible show wpAny _ _ (assign (Expr.Tuple _ _ _) _ (Value.ref _)) _ _ _); ((refine' unpack37 ?F4 ?N4 ?m4 ?h4 ?n4 ?s4 ?_; (case F4 => with_reducible assumption); (case N4 => with_reducible assumption); (case m4 => walk_at "mMem"); (case h4 => exact rfl); (case n4 => exact rfl); (case s4 => exact rfl)); intro _ _ _)) | ((with_reducible show wpAny _ _ (assign (Expr.Tuple _ _ _) _ (Value.ref _)) _ _ _); ((refine' unpackB37 ?F5 ?N5 ?m5 ?h5 ?n5 ?s5 ?_; (case F5 => with_reducible assumption); (case N5 => with_reducible assumption); (case m5 => with_reducible assumption); (case h5 => exact rfl); (case n5 => exact rfl); (case s5 => exact rfl)); intro _ _ _))) | walk1 | (dsimp only; walk1))))
    rename IsRange _ _ _ _ _ _ _ _ => Rz
    rename Fr _ _ _ _ => Fz
    rename News _ _ _ _ => Nz
    obtain ⟨q, hq, eq⟩ := fm_lt ((n2 : Int).fdiv 5) 3 (by decide)
    have eq' : ((n2 : Int).fdiv 5).fmod 3 = (q : Int) := eq
    change IsRange _ _ _ (3 + ((n2 : Int).fdiv 5).fmod 3) _ _ _ _ at Rz
    rw [eq'] at Rz
    refine LCg.CompSrc.range (n := 3 + q) (by rfl) Fz Nz Rz (rng_small (by lia) (by lia) (by lia)) (by simp [Builtin.Range.rangeSize]; lia) (by rw [sizeLine_eq]; lia) ?_
    intro gz
    refine comp_led (fun i ys nx => nx = [(L + 1 + 1 + 1 + 1 + 1, o5), (L + 1 + 1 + 1 + 1, o4), (L + 1 + 1 + 1, o3), (L + 1 + 1, o2), (S, sumsO n0 n1 n2 n3 t0 t1 t2 t3 se), (Cd, listOf cv.toArray ce), (P, listOf [Value.ref T1, .ref T2].toArray 0), (T1, tupI p0 p1 v0 v1), (T2, tupI p2 p3 v2 v3), (M, listOf mv.toArray me)] ∧ ∃ ks : List Nat, NatsAre ys ks ∧ ks.length = i ∧ ∀ x ∈ ks, x ∈ cs) ⟨rfl, [], .nil, rfl, fun _ h => nomatch h⟩ ?_ ?_
    · clear Fz Nz Rz
      ((repeat (with_reducible rename News _ _ _ _ => Nq; clear Nq)); (repeat (with_reducible rename Fr _ _ _ _ => Fq; clear Fq)); (repeat (with_reducible rename IsRange _ _ _ _ _ _ _ _ => Rq; clear Rq)))
      rintro j zs nx v I oI C2 oC2 D3 m₃ h4 tk4 E4 hj ⟨rfl, ks, hks, hkl, hkb⟩ ⟨tv, rfl⟩ hns2 hm2 F4 N4 off4 ne4
      ((repeat' (first | walk_at "mGo" | ((try with_reducible show wpAny _ _ _ _ _ _); (fail_if_success (walk_at "mSt")); first | ((with_reducible show wpAny _ _ (binaryOp Operator.Pow (Value.int 4 _) (Value.int _ _)) _ _ _); ((refine pow437 (by lia) (by lia) ?_; intro _ _ _))) | ((with_reducible show wpAny _ _ (subscriptTail _ _ _ _) _ _ _); first | ((with_reducible show wpAny _ _ (subscriptTail (Expr.Name (Str.ofString "codes") _) _ (Value.ref _) (Value.int _ _)) _ _ _); (refine' code37 ?N2 ?m2 ?v2 ?l2 ?_; (case N2 => with_reducible assumption); (case m2 => walk_at "mMem"); (case v2 => with_reducible assumption); (case l2 => with_reducible assumption)); intro _ _ _; (try dsimp only)) | ((with_reducible show wpAny _ _ (subscriptTail _ _ (Value.ref _) (Value.int _ _)) _ _ _); walk_at "subscriptTail")) | ((with_reducible show wpAny _ _ (call _ _) _ _ _); first | ((with_reducible show wpAny _ _ (call (Value.builtin "str.join") _) _ _ _); ((refine' join37 (News.isList ?N3 ?m3) ?S3 ?b3 ?n3 ?_; (case N3 => with_reducible assumption); (case m3 => exact .head _); (case S3 => first | exact (trivial : StrsAre [] []) | exact StrsAre.one _ _ | with_reducible assumption); (case b3 => first | with_reducible assumption | (intro a ha; cases ha; done) | (intro a ha; rw [List.mem_singleton.mp ha]; exact Nat.le_of_ble_eq_true rfl)); (case n3 => first | exact Nat.le_of_ble_eq_true rfl | lia)); intro _ _ _ _)) | ((with_reducible show wpAny _ _ (call (Value.builtin "chr") _) _ _ _); (refine chr_of_range (by lia) (by lia) ?_)) | ((with_reducible show wpAny _ _ (call (Value.builtin "list.append") [Value.ref _, _]) _ _ _); (k_dflt (refine' append_K ?F7 ?N7 ?U7 ?_ ?z7; (case F7 => with_reducible assumption); (case N7 => with_reducible assumption); (case U7 => walk_at "mUpd"); (case z7 => (simp only [sizeLine_eq, List.size_toArray, List.length_append, List.length_cons, List.length_nil]; lia))); intro h' F' N'; (try simp only [List.push_toArray] at N')))) | ((with_reducible show wpAny _ _ (assign _ _ _) _ _ _); first | ((with_reducible show wpAny _ _ (assign (Expr.Tuple _ _ _) _ (Value.ref _)) _ _ _); ((refine' unpack37 ?F4 ?N4 ?m4 ?h4 ?n4 ?s4 ?_; (case F4 => with_reducible assumption); (case N4 => with_reducible assumption); (case m4 => walk_at "mMem"); (case h4 => exact rfl); (case n4 => exact rfl); (case s4 => exact rfl)); intro _ _ _)) | ((with_reducible show wpAny _ _ (assign (Expr.Tuple _ _ _) _ (Value.ref _)) _ _ _); ((refine' unpackB37 ?F5 ?N5 ?m5 ?h5 ?n5 ?s5 ?_; (case F5 => with_reducible assumption); (case N5 => with_reducible assumption); (case m5 => with_reducible assumption); (case h5 => exact rfl); (case n5 => exact rfl); (case s5 => exact rfl)); intro _ _ _))) | walk1 | (dsimp only; walk1)))); (rename Fr _ _ _ _ => Fz); (rename News _ _ _ _ => Nz); (rename (_ ∈ _) => hcz); refine LCg.CompEnd.intro Fz Nz _ (fun _ h => h) (by with_reducible assumption) trivial ⟨rfl, _, nats_snoc (by with_reducible assumption), by simp [*], mem_snoc (by with_reducible assumption) hcz⟩)
    · clear Fz Nz Rz
      ((repeat (with_reducible rename News _ _ _ _ => Nq; clear Nq)); (repeat (with_reducible rename Fr _ _ _ _ => Fq; clear Fq)); (repeat (with_reducible rename IsRange _ _ _ _ _ _ _ _ => Rq; clear Rq)))
      rintro zs nx ⟨rfl, ks, hks, hkl, hkb⟩
      intro D4 h5 tk5 F5 N5 o5'
      simp only [LCg.Off1, and_true] at o5'
      (repeat' (first | walk_at "mGo" | ((try with_reducible show wpAny _ _ _ _ _ _); (fail_if_success (walk_at "mSt")); first | ((with_reducible show wpAny _ _ (binaryOp Operator.Pow (Value.int 4 _) (Value.int _ _)) _ _ _); ((refine pow437 (by lia) (by lia) ?_; intro _ _ _))) | ((with_reducible show wpAny _ _ (subscriptTail _ _ _ _) _ _ _); first | ((with_reducible show wpAny _ _ (subscriptTail (Expr.Name (Str.ofString "codes") _) _ (Value.ref _) (Value.int _ _)) _ _ _); (refine' code37 ?N2 ?m2 ?v2 ?l2 ?_; (case N2 => with_reducible assumption); (case m2 => walk_at "mMem"); (case v2 => with_reducible assumption); (case l2 => with_reducible assumption)); intro _ _ _; (try dsimp only)) | ((with_reducible show wpAny _ _ (subscriptTail _ _ (Value.ref _) (Value.int _ _)) _ _ _); walk_at "subscriptTail")) | ((with_reducible show wpAny _ _ (call _ _) _ _ _); first | ((with_reducible show wpAny _ _ (call (Value.builtin "str.join") _) _ _ _); ((refine' join37 (News.isList ?N3 ?m3) ?S3 ?b3 ?n3 ?_; (case N3 => with_reducible assumption); (case m3 => exact .head _); (case S3 => first | exact (trivial : StrsAre [] []) | exact StrsAre.one _ _ | with_reducible assumption); (case b3 => first | with_reducible assumption | (intro a ha; cases ha; done) | (intro a ha; rw [List.mem_singleton.mp ha]; exact Nat.le_of_ble_eq_true rfl)); (case n3 => first | exact Nat.le_of_ble_eq_true rfl | lia)); intro _ _ _ _)) | ((with_reducible show wpAny _ _ (call (Value.builtin "chr") _) _ _ _); (refine chr_of_range (by lia) (by lia) ?_)) | ((with_reducible show wpAny _ _ (call (Value.builtin "list.append") [Value.ref _, _]) _ _ _); (k_dflt (refine' append_K ?F7 ?N7 ?U7 ?_ ?z7; (case F7 => with_reducible assumption); (case N7 => with_reducible assumption); (case U7 => walk_at "mUpd"); (case z7 => (simp only [sizeLine_eq, List.size_toArray, List.length_append, List.length_cons, List.length_nil]; lia))); intro h' F' N'; (try simp only [List.push_toArray] at N')))) | ((with_reducible show wpAny _ _ (assign _ _ _) _ _ _); first | ((with_reducible show wpAny _ _ (assign (Expr.Tuple _ _ _) _ (Value.ref _)) _ _ _); ((refine' unpack37 ?F4 ?N4 ?m4 ?h4 ?n4 ?s4 ?_; (case F4 => with_reducible assumption); (case N4 => with_reducible assumption); (case m4 => walk_at "mMem"); (case h4 => exact rfl); (case n4 => exact rfl); (case s4 => exact rfl)); intro _ _ _)) | ((with_reducible show wpAny _ _ (assign (Expr.Tuple _ _ _) _ (Value.ref _)) _ _ _); ((refine' unpackB37 ?F5 ?N5 ?m5 ?h5 ?n5 ?s5 ?_; (case F5 => with_reducible assumption); (case N5 => with_reducible assumption); (case m5 => with_reducible assumption); (case h5 => exact rfl); (case n5 => exact rfl); (case s5 => exact rfl)); intro _ _ _))) | walk1 | (dsimp only; walk1))))
      rename Fr _ _ _ _ => Fz
      rename News _ _ _ _ => Nz
      refine EndL.intro Fz (News.sub Nz (nx' := [(L + 1 + 1 + 1 + 1 + 1, o5), (L + 1 + 1 + 1 + 1, o4), (P, _), (T1, _), (T2, _), (M, _), (D4, _)]) (by walk_at "mSub")) ?_
      exact ⟨D4, zs, _, ks, .cons rfl (.cons rfl (.cons rfl .nil)), rfl, hks, by lia, by lia, hkb, o5'.1, o5'.2.1⟩
    --END
  clear F₅ N₅
  ((repeat (with_reducible rename News _ _ _ _ => Nq; clear Nq)); (repeat (with_reducible rename Fr _ _ _ _ => Fq; clear Fq)); (repeat (with_reducible rename IsRange _ _ _ _ _ _ _ _ => Rq; clear Rq)))
  rintro h₆ tk₆ m₆ nx F₆ N₆ ⟨Lt, lv, le, letters, hag, rfl, hlv, hl1, hl5, hlin, fLt⟩
  replace F₆ := hag.fr F₆
  clear hag d2 d3 hcv s1 s2 s3 s4 c1 c2 c3 c4 c5
  show wpAny _ _ _ _ _ { s₁ with heap := h₆, toks := tk₆ }
  have cs256 : ∀ x ∈ cs, 0 < x ∧ x < 256 := by
    subst hcs
    intro x hx
    simp only [List.mem_cons, List.not_mem_nil, or_false] at hx
    lia
  have l256 : ∀ x ∈ letters, 0 < x ∧ x < 256 := fun x hx => cs256 x (hlin x hx)
  try walk_at "mGo"
  refine cut1 (h₀ := s₁.heap) (L := L) (LawJ7 L p0 p1 p2 p3 P T1 T2 M me Lt le o4 o5 mv lv v0 v1 v2 v3 letters) ?_ ?_
  · --BEGIN
    k_fold
    have hlvl : lv.length = letters.length := by have := hlv.length; rwa [List.length_map] at this
    (repeat' (first | walk_at "mGo" | ((try with_reducible show wpAny _ _ _ _ _ _); (fail_if_success (walk_at "mSt")); first | ((with_reducible show wpAny _ _ (binaryOp Operator.Pow (Value.int 4 _) (Value.int _ _)) _ _ _); ((refine pow437 (by lia) (by lia) ?_; intro _ _ _))) | ((with_reducible show wpAny _ _ (subscriptTail _ _ _ _) _ _ _); first | ((with_reducible show wpAny _ _ (subscriptTail (Expr.Name (Str.ofString "codes") _) _ (Value.ref _) (Value.int _ _)) _ _ _); (refine' code37 ?N2 ?m2 ?v2 ?l2 ?_; (case N2 => with_reducible assumption); (case m2 => walk_at "mMem"); (case v2 => with_reducible assumption); (case l2 => with_reducible assumption)); intro _ _ _; (try dsimp only)) | ((with_reducible show wpAny _ _ (subscriptTail _ _ (Value.ref _) (Value.int _ _)) _ _ _); walk_at "subscriptTail")) | ((with_reducible show wpAny _ _ (call _ _) _ _ _); first | ((with_reducible show wpAny _ _ (call (Value.builtin "str.join") _) _ _ _); ((refine' join37 (News.isList ?N3 ?m3) ?S3 ?b3 ?n3 ?_; (case N3 => with_reducible assumption); (case m3 => exact .head _); (case S3 => first | exact (trivial : StrsAre [] []) | exact StrsAre.one _ _ | with_reducible assumption); (case b3 => first | with_reducible assumption | (intro a ha; cases ha; done) | (intro a ha; rw [List.mem_singleton.mp ha]; exact Nat.le_of_ble_eq_true rfl)); (case n3 => first | exact Nat.le_of_ble_eq_true rfl | lia)); intro _ _ _ _)) | ((with_reducible show wpAny _ _ (call (Value.builtin "chr") _) _ _ _); (refine chr_of_range (by lia) (by lia) ?_)) | ((with_reducible show wpAny _ _ (call (Value.builtin "list.append") [Value.ref _, _]) _ _ _); (k_dflt (refine' append_K ?F7 ?N7 ?U7 ?_ ?z7; (case F7 => with_reducible assumption); (case N7 => with_reducible assumption); (case U7 => walk_at "mUpd"); (case z7 => (simp only [sizeLine_eq, List.size_toArray, List.length_append, List.length_cons, List.length_nil]; lia))); intro h' F' N'; (try simp only [List.push_toArray] at N')))) | ((with_reducible show wpAny _ _ (assign _ _ _) _ _ _); first | ((with_reducible show wpAny _ _ (assign (Expr.Tuple _ _ _) _ (Value.ref _)) _ _ _); ((refine' unpack37 ?F4 ?N4 ?m4 ?h4 ?n4 ?s4 ?_; (case F4 => with_reducible assumption); (case N4 => with_reducible assumption); (case m4 => walk_at "mMem"); (case h4 => exact rfl); (case n4 => exact rfl); (case s4 => exact rfl)); intro _ _ _)) | ((with_reducible show wpAny _ _ (assign (Expr.Tuple _ _ _) _ (Value.ref _)) _ _ _); ((refine' unpackB37 ?F5 ?N5 ?m5 ?h5 ?n5 ?s5 ?_; (case F5 => with_reducible assumption); (case N5 => with_reducible assumption); (case m5 => with_reducible assumption); (case h5 => exact rfl); (case n5 => exact rfl); (case s5 => exact rfl)); intro _ _ _))) | walk1 | (dsimp only; walk1))))
    refine LCg.ListComp_U (F₀ := by k_asm) (by with_unfolding_all rfl) (by decide) (by rfl) (by decide) (by rfl) ?_
    (repeat' (first | walk_at "mGo" | ((try with_reducible show wpAny _ _ _ _ _ _); (fail_if_success (walk_at "mSt")); first | ((with_reducible show wpAny _ _ (binaryOp Operator.Pow (Value.int 4 _) (Value.int _ _)) _ _ _); ((refine pow437 (by lia) (by lia) ?_; intro _ _ _))) | ((with_reducible show wpAny _ _ (subscriptTail _ _ _ _) _ _ _); first | ((with_reducible show wpAny _ _ (subscriptTail (Expr.Name (Str.ofString "codes") _) _ (Value.ref _) (Value.int _ _)) _ _ _); (refine' code37 ?N2 ?m2 ?v2 ?l2 ?_; (case N2 => with_reducible assumption); (case m2 => walk_at "mMem"); (case v2 => with_reducible assumption); (case l2 => with_reducible assumption)); intro _ _ _; (try dsimp only)) | ((with_reducible show wpAny _ _ (subscriptTail _ _ (Value.ref _) (Value.int _ _)) _ _ _); walk_at "subscriptTail")) | ((with_reducible show wpAny _ _ (call _ _) _ _ _); first | ((with_reducible show wpAny _ _ (call (Value.builtin "str.join") _) _ _ _); ((refine' join37 (News.isList ?N3 ?m3) ?S3 ?b3 ?n3 ?_; (case N3 => with_reducible assumption); (case m3 => exact .head _); (case S3 => first | exact (trivial : StrsAre [] []) | exact StrsAre.one _ _ | with_reducible assumption); (case b3 => first | with_reducible assumption | (intro a ha; cases ha; done) | (intro a ha; rw [List.mem_singleton.mp ha]; exact Nat.le_of_ble_eq_true rfl)); (case n3 => first | exact Nat.le_of_ble_eq_true rfl | lia)); intro _ _ _ _)) | ((with_reducible show wpAny _ _ (call (Value.builtin "chr") _) _ _ _); (refine chr_of_range (by lia) (by lia) ?_)) | ((with_reducible show wpAny _ _ (call (Value.builtin "list.append") [Value.ref _, _]) _ _ _); (k_dflt (refine' append_K ?F7 ?N7 ?U7 ?_ ?z7; (case F7 => with_reducible assumption); (case N7 => with_reducible assumption); (case U7 => walk_at "mUpd"); (case z7 => (simp only [sizeLine_eq, List.size_toArray, List.length_append, List.length_cons, List.length_nil]; lia))); intro h' F' N'; (try simp only [List.push_toArray] at N')))) | ((with_reducible show wpAny _ _ (assign _ _ _) _ _ _); first | ((with_reducible show wpAny _ _ (assign (Expr.Tuple _ _ _) _ (Value.ref _)) _ _ _); ((refine' unpack37 ?F4 ?N4 ?m4 ?h4 ?n4 ?s4 ?_; (case F4 => with_reducible assumption); (case N4 => with_reducible assumption); (case m4 => walk_at "mMem"); (case h4 => exact rfl); (case n4 => exact rfl); (case s4 => exact rfl)); intro _ _ _)) | ((with_reducible show wpAny _ _ (assign (Expr.Tuple _ _ _) _ (Value.ref _)) _ _ _); ((refine' unpackB37 ?F5 ?N5 ?m5 ?h5 ?n5 ?s5 ?_; (case F5 => with_reducible assumption); (case N5 => with_reducible assumption); (case m5 => with_reducible assumption); (case h5 => exact rfl); (case n5 => exact rfl); (case s5 => exact rfl)); intro _ _ _))) | walk1 | (dsimp only; walk1))))
    rename Fr _ _ _ _ => Fz
    rename News _ _ _ _ => Nz
    refine LCg.CompSrc.ledger (by rfl) Fz Nz (by walk_at "mMem") (by rw [List.size_toArray, sizeLine_eq]; lia) ?_
    intro g
    refine comp_led (fun i ys nx => nx = [(L + 1 + 1 + 1 + 1 + 1, o5), (L + 1 + 1 + 1 + 1, o4), (P, listOf [Value.ref T1, .ref T2].toArray 0), (T1, tupI p0 p1 v0 v1), (T2, tupI p2 p3 v2 v3), (M, listOf mv.toArray me), (Lt, listOf lv.toArray le)] ∧ ∃ xs : List Str, StrsAre ys xs ∧ xs.map lst = (letters.take i).map fun c => [c]) ⟨rfl, [], trivial, rfl⟩ ?_ ?_
    · clear Fz Nz
      ((repeat (with_reducible rename News _ _ _ _ => Nq; clear Nq)); (repeat (with_reducible rename Fr _ _ _ _ => Fq; clear Fq)); (repeat (with_reducible rename IsRange _ _ _ _ _ _ _ _ => Rq; clear Rq)))
      rintro j zs nx v I oI C2 oC2 D3 m₃ h4 tk4 E4 hj ⟨rfl, xs, hxs, hxl⟩ hv hns2 hm2 F4 N4 off4 ne4
      have hv' : lv[j]? = some v := by simpa using hv
      have hj' : j < letters.length := by rw [List.size_toArray] at hj; lia
      obtain ⟨tv, ev⟩ := hlv.get j ((letters[j] : Nat) : Int) (by simp [hj'])
      rw [hv'] at ev
      obtain rfl := Option.some.inj ev
      have hlj := l256 letters[j] (List.getElem_mem hj')
      have hte := List.take_succ_eq_append_getElem hj'
      generalize letters[j] = c at *
      (repeat' (first | walk_at "mGo" | ((try with_reducible show wpAny _ _ _ _ _ _); (fail_if_success (walk_at "mSt")); first | ((with_reducible show wpAny _ _ (binaryOp Operator.Pow (Value.int 4 _) (Value.int _ _)) _ _ _); ((refine pow437 (by lia) (by lia) ?_; intro _ _ _))) | ((with_reducible show wpAny _ _ (subscriptTail _ _ _ _) _ _ _); first | ((with_reducible show wpAny _ _ (subscriptTail (Expr.Name (Str.ofString "codes") _) _ (Value.ref _) (Value.int _ _)) _ _ _); (refine' code37 ?N2 ?m2 ?v2 ?l2 ?_; (case N2 => with_reducible assumption); (case m2 => walk_at "mMem"); (case v2 => with_reducible assumption); (case l2 => with_reducible assumption)); intro _ _ _; (try dsimp only)) | ((with_reducible show wpAny _ _ (subscriptTail _ _ (Value.ref _) (Value.int _ _)) _ _ _); walk_at "subscriptTail")) | ((with_reducible show wpAny _ _ (call _ _) _ _ _); first | ((with_reducible show wpAny _ _ (call (Value.builtin "str.join") _) _ _ _); ((refine' join37 (News.isList ?N3 ?m3) ?S3 ?b3 ?n3 ?_; (case N3 => with_reducible assumption); (case m3 => exact .head _); (case S3 => first | exact (trivial : StrsAre [] []) | exact StrsAre.one _ _ | with_reducible assumption); (case b3 => first | with_reducible assumption | (intro a ha; cases ha; done) | (intro a ha; rw [List.mem_singleton.mp ha]; exact Nat.le_of_ble_eq_true rfl)); (case n3 => first | exact Nat.le_of_ble_eq_true rfl | lia)); intro _ _ _ _)) | ((with_reducible show wpAny _ _ (call (Value.builtin "chr") _) _ _ _); (refine chr_of_range (by lia) (by lia) ?_)) | ((with_reducible show wpAny _ _ (call (Value.builtin "list.append") [Value.ref _, _]) _ _ _); (k_dflt (refine' append_K ?F7 ?N7 ?U7 ?_ ?z7; (case F7 => with_reducible assumption); (case N7 => with_reducible assumption); (case U7 => walk_at "mUpd"); (case z7 => (simp only [sizeLine_eq, List.size_toArray, List.length_append, List.length_cons, List.length_nil]; lia))); intro h' F' N'; (try simp only [List.push_toArray] at N')))) | ((with_reducible show wpAny _ _ (assign _ _ _) _ _ _); first | ((with_reducible show wpAny _ _ (assign (Expr.Tuple _ _ _) _ (Value.ref _)) _ _ _); ((refine' unpack37 ?F4 ?N4 ?m4 ?h4 ?n4 ?s4 ?_; (case F4 => with_reducible assumption); (case N4 => with_reducible assumption); (case m4 => walk_at "mMem"); (case h4 => exact rfl); (case n4 => exact rfl); (case s4 => exact rfl)); intro _ _ _)) | ((with_reducible show wpAny _ _ (assign (Expr.Tuple _ _ _) _ (Value.ref _)) _ _ _); ((refine' unpackB37 ?F5 ?N5 ?m5 ?h5 ?n5 ?s5 ?_; (case F5 => with_reducible assumption); (case N5 => with_reducible assumption); (case m5 => with_reducible assumption); (case h5 => exact rfl); (case n5 => exact rfl); (case s5 => exact rfl)); intro _ _ _))) | walk1 | (dsimp only; walk1))))
      rename Fr _ _ _ _ => Fz
      rename News _ _ _ _ => Nz
      refine LCg.CompEnd.intro Fz Nz _ (fun _ h => h) off4 (.inr ⟨_, by walk_at "mMem", rfl, _, rfl⟩) ⟨rfl, _, strs_snoc hxs, ?_⟩
      rw [List.map_append, hxl, hte, List.map_append]
      rfl
    · clear Fz Nz
      ((repeat (with_reducible rename News _ _ _ _ => Nq; clear Nq)); (repeat (with_reducible rename Fr _ _ _ _ => Fq; clear Fq)); (repeat (with_reducible rename IsRange _ _ _ _ _ _ _ _ => Rq; clear Rq)))
      rintro zs nx ⟨rfl, xs, hxs, hxl⟩
      intro D4 h5 tk5 F5 N5 o5'
      rw [List.size_toArray, hlvl, List.take_length] at hxl
      have h8 := len_one hxl
      have hxn : xs.length ≤ 1000 := by have := congrArg List.length hxl; simp only [List.length_map] at this; lia
      (repeat' (first | walk_at "mGo" | ((try with_reducible show wpAny _ _ _ _ _ _); (fail_if_success (walk_at "mSt")); first | ((with_reducible show wpAny _ _ (binaryOp Operator.Pow (Value.int 4 _) (Value.int _ _)) _ _ _); ((refine pow437 (by lia) (by lia) ?_; intro _ _ _))) | ((with_reducible show wpAny _ _ (subscriptTail _ _ _ _) _ _ _); first | ((with_reducible show wpAny _ _ (subscriptTail (Expr.Name (Str.ofString "codes") _) _ (Value.ref _) (Value.int _ _)) _ _ _); (refine' code37 ?N2 ?m2 ?v2 ?l2 ?_; (case N2 => with_reducible assumption); (case m2 => walk_at "mMem"); (case v2 => with_reducible assumption); (case l2 => with_reducible assumption)); intro _ _ _; (try dsimp only)) | ((with_reducible show wpAny _ _ (subscriptTail _ _ (Value.ref _) (Value.int _ _)) _ _ _); walk_at "subscriptTail")) | ((with_reducible show wpAny _ _ (call _ _) _ _ _); first | ((with_reducible show wpAny _ _ (call (Value.builtin "str.join") _) _ _ _); ((refine' join37 (News.isList ?N3 ?m3) ?S3 ?b3 ?n3 ?_; (case N3 => with_reducible assumption); (case m3 => exact .head _); (case S3 => first | exact (trivial : StrsAre [] []) | exact StrsAre.one _ _ | with_reducible assumption); (case b3 => first | with_reducible assumption | (intro a ha; cases ha; done) | (intro a ha; rw [List.mem_singleton.mp ha]; exact Nat.le_of_ble_eq_true rfl)); (case n3 => first | exact Nat.le_of_ble_eq_true rfl | lia)); intro _ _ _ _)) | ((with_reducible show wpAny _ _ (call (Value.builtin "chr") _) _ _ _); (refine chr_of_range (by lia) (by lia) ?_)) | ((with_reducible show wpAny _ _ (call (Value.builtin "list.append") [Value.ref _, _]) _ _ _); (k_dflt (refine' append_K ?F7 ?N7 ?U7 ?_ ?z7; (case F7 => with_reducible assumption); (case N7 => with_reducible assumption); (case U7 => walk_at "mUpd"); (case z7 => (simp only [sizeLine_eq, List.size_toArray, List.length_append, List.length_cons, List.length_nil]; lia))); intro h' F' N'; (try simp only [List.push_toArray] at N')))) | ((with_reducible show wpAny _ _ (assign _ _ _) _ _ _); first | ((with_reducible show wpAny _ _ (assign (Expr.Tuple _ _ _) _ (Value.ref _)) _ _ _); ((refine' unpack37 ?F4 ?N4 ?m4 ?h4 ?n4 ?s4 ?_; (case F4 => with_reducible assumption); (case N4 => with_reducible assumption); (case m4 => walk_at "mMem"); (case h4 => exact rfl); (case n4 => exact rfl); (case s4 => exact rfl)); intro _ _ _)) | ((with_reducible show wpAny _ _ (assign (Expr.Tuple _ _ _) _ (Value.ref _)) _ _ _); ((refine' unpackB37 ?F5 ?N5 ?m5 ?h5 ?n5 ?s5 ?_; (case F5 => with_reducible assumption); (case N5 => with_reducible assumption); (case m5 => with_reducible assumption); (case h5 => exact rfl); (case n5 => exact rfl); (case s5 => exact rfl)); intro _ _ _))) | walk1 | (dsimp only; walk1))))
      rename Fr _ _ _ _ => Fz
      rename News _ _ _ _ => Nz
      rename lst _ = _ => hx
      rw [hxl, map_one] at hx
      refine EndL.intro Fz (News.sub Nz (nx' := [(L + 1 + 1 + 1 + 1 + 1, o5), (L + 1 + 1 + 1 + 1, o4), (P, _), (T1, _), (T2, _), (M, _), (Lt, _)]) (by walk_at "mSub")) ?_
      exact ⟨_, _, .cons rfl (.cons rfl (.cons rfl (.cons rfl .nil))), rfl, hx⟩
    --END
  clear F₆ N₆
  ((repeat (with_reducible rename News _ _ _ _ => Nq; clear Nq)); (repeat (with_reducible rename Fr _ _ _ _ => Fq; clear Fq)); (repeat (with_reducible rename IsRange _ _ _ _ _ _ _ _ => Rq; clear Rq)))
  rintro h₇ tk₇ m₇ nx F₇ N₇ ⟨tx, tt, hag, rfl, htx⟩
  replace F₇ := hag.fr F₇
  clear hag
  show wpAny _ _ _ _ _ { s₁ with heap := h₇, toks := tk₇ }
  refine hideG ?_; intro Gh kGh
  refine ex2 (runs_words (a1 := p0) (b1 := p1) (a2 := p2) (b2 := p3) (core := core) hcl1 (cs256 _ hp0).2 (cs256 _ hp1).2 (cs256 _ hp2).2 (cs256 _ hp3).2 (fun x hx => (cs256 _ (hcin x hx)).2) (cs256 _ hp0).1 (cs256 _ hp1).1 (cs256 _ hp2).1 (cs256 _ hp3).1 (fun x hx => (cs256 _ (hcin x hx)).1)) ?_; intro nw fin hx_; refine and3 hx_ ?_; intro hrun hsrt hmem; clear hx_
  refine kGh ?_; clear kGh Gh
  try walk_at "mGo"
  refine cut1 (h₀ := s₁.heap) (L := L) (LawJ8 L p0 p1 p2 p3 P T1 T2 M me Lt le o4 o5 mv lv v0 v1 v2 v3 tt tx fin) ?_ ?_
  · --BEGIN
    k_fold
    (repeat' (first | walk_at "mGo" | ((try with_reducible show wpAny _ _ _ _ _ _); (fail_if_success (walk_at "mSt")); first | ((with_reducible show wpAny _ _ (binaryOp Operator.Pow (Value.int 4 _) (Value.int _ _)) _ _ _); ((refine pow437 (by lia) (by lia) ?_; intro _ _ _))) | ((with_reducible show wpAny _ _ (subscriptTail _ _ _ _) _ _ _); first | ((with_reducible show wpAny _ _ (subscriptTail (Expr.Name (Str.ofString "codes") _) _ (Value.ref _) (Value.int _ _)) _ _ _); (refine' code37 ?N2 ?m2 ?v2 ?l2 ?_; (case N2 => with_reducible assumption); (case m2 => walk_at "mMem"); (case v2 => with_reducible assumption); (case l2 => with_reducible assumption)); intro _ _ _; (try dsimp only)) | ((with_reducible show wpAny _ _ (subscriptTail _ _ (Value.ref _) (Value.int _ _)) _ _ _); walk_at "subscriptTail")) | ((with_reducible show wpAny _ _ (call _ _) _ _ _); first | ((with_reducible show wpAny _ _ (call (Value.builtin "str.join") _) _ _ _); ((refine' join37 (News.isList ?N3 ?m3) ?S3 ?b3 ?n3 ?_; (case N3 => with_reducible assumption); (case m3 => exact .head _); (case S3 => first | exact (trivial : StrsAre [] []) | exact StrsAre.one _ _ | with_reducible assumption); (case b3 => first | with_reducible assumption | (intro a ha; cases ha; done) | (intro a ha; rw [List.mem_singleton.mp ha]; exact Nat.le_of_ble_eq_true rfl)); (case n3 => first | exact Nat.le_of_ble_eq_true rfl | lia)); intro _ _ _ _)) | ((with_reducible show wpAny _ _ (call (Value.builtin "chr") _) _ _ _); (refine chr_of_range (by lia) (by lia) ?_)) | ((with_reducible show wpAny _ _ (call (Value.builtin "list.append") [Value.ref _, _]) _ _ _); (k_dflt (refine' append_K ?F7 ?N7 ?U7 ?_ ?z7; (case F7 => with_reducible assumption); (case N7 => with_reducible assumption); (case U7 => walk_at "mUpd"); (case z7 => (simp only [sizeLine_eq, List.size_toArray, List.length_append, List.length_cons, List.length_nil]; lia))); intro h' F' N'; (try simp only [List.push_toArray] at N')))) | ((with_reducible show wpAny _ _ (assign _ _ _) _ _ _); first | ((with_reducible show wpAny _ _ (assign (Expr.Tuple _ _ _) _ (Value.ref _)) _ _ _); ((refine' unpack37 ?F4 ?N4 ?m4 ?h4 ?n4 ?s4 ?_; (case F4 => with_reducible assumption); (case N4 => with_reducible assumption); (case m4 => walk_at "mMem"); (case h4 => exact rfl); (case n4 => exact rfl); (case s4 => exact rfl)); intro _ _ _)) | ((with_reducible show wpAny _ _ (assign (Expr.Tuple _ _ _) _ (Value.ref _)) _ _ _); ((refine' unpackB37 ?F5 ?N5 ?m5 ?h5 ?n5 ?s5 ?_; (case F5 => with_reducible assumption); (case N5 => with_reducible assumption); (case m5 => with_reducible assumption); (case h5 => exact rfl); (case n5 => exact rfl); (case s5 => exact rfl)); intro _ _ _))) | walk1 | (dsimp only; walk1))))
    refine LCp.ListComp_P (F₀ := by k_asm) (by with_unfolding_all rfl) (by decide) (by rfl) (by decide) (by rfl) (by rfl) (by decide) ?_
    (repeat' (first | walk_at "mGo" | ((try with_reducible show wpAny _ _ _ _ _ _); (fail_if_success (walk_at "mSt")); first | ((with_reducible show wpAny _ _ (binaryOp Operator.Pow (Value.int 4 _) (Value.int _ _)) _ _ _); ((refine pow437 (by lia) (by lia) ?_; intro _ _ _))) | ((with_reducible show wpAny _ _ (subscriptTail _ _ _ _) _ _ _); first | ((with_reducible show wpAny _ _ (subscriptTail (Expr.Name (Str.ofString "codes") _) _ (Value.ref _) (Value.int _ _)) _ _ _); (refine' code37 ?N2 ?m2 ?v2 ?l2 ?_; (case N2 => with_reducible assumption); (case m2 => walk_at "mMem"); (case v2 => with_reducible assumption); (case l2 => with_reducible assumption)); intro _ _ _; (try dsimp only)) | ((with_reducible show wpAny _ _ (subscriptTail _ _ (Value.ref _) (Value.int _ _)) _ _ _); walk_at "subscriptTail")) | ((with_reducible show wpAny _ _ (call _ _) _ _ _); first | ((with_reducible show wpAny _ _ (call (Value.builtin "str.join") _) _ _ _); ((refine' join37 (News.isList ?N3 ?m3) ?S3 ?b3 ?n3 ?_; (case N3 => with_reducible assumption); (case m3 => exact .head _); (case S3 => first | exact (trivial : StrsAre [] []) | exact StrsAre.one _ _ | with_reducible assumption); (case b3 => first | with_reducible assumption | (intro a ha; cases ha; done) | (intro a ha; rw [List.mem_singleton.mp ha]; exact Nat.le_of_ble_eq_true rfl)); (case n3 => first | exact Nat.le_of_ble_eq_true rfl | lia)); intro _ _ _ _)) | ((with_reducible show wpAny _ _ (call (Value.builtin "chr") _) _ _ _); (refine chr_of_range (by lia) (by lia) ?_)) | ((with_reducible show wpAny _ _ (call (Value.builtin "list.append") [Value.ref _, _]) _ _ _); (k_dflt (refine' append_K ?F7 ?N7 ?U7 ?_ ?z7; (case F7 => with_reducible assumption); (case N7 => with_reducible assumption); (case U7 => walk_at "mUpd"); (case z7 => (simp only [sizeLine_eq, List.size_toArray, List.length_append, List.length_cons, List.length_nil]; lia))); intro h' F' N'; (try simp only [List.push_toArray] at N')))) | ((with_reducible show wpAny _ _ (assign _ _ _) _ _ _); first | ((with_reducible show wpAny _ _ (assign (Expr.Tuple _ _ _) _ (Value.ref _)) _ _ _); ((refine' unpack37 ?F4 ?N4 ?m4 ?h4 ?n4 ?s4 ?_; (case F4 => with_reducible assumption); (case N4 => with_reducible assumption); (case m4 => walk_at "mMem"); (case h4 => exact rfl); (case n4 => exact rfl); (case s4 => exact rfl)); intro _ _ _)) | ((with_reducible show wpAny _ _ (assign (Expr.Tuple _ _ _) _ (Value.ref _)) _ _ _); ((refine' unpackB37 ?F5 ?N5 ?m5 ?h5 ?n5 ?s5 ?_; (case F5 => with_reducible assumption); (case N5 => with_reducible assumption); (case m5 => with_reducible assumption); (case h5 => exact rfl); (case n5 => exact rfl); (case s5 => exact rfl)); intro _ _ _))) | walk1 | (dsimp only; walk1))))
    rename_i I1 oI1 C1 oC1 D1 m1 h1 tk1 E1 hC1 hx1 hy1 F1 N1 ne1 off1 T3 h3 F3 N3 l3
    refine comp_end1 F3 N3 (by simpa [LCg.Off3] using off1) ⟨l3.1, l3.2.1, l3.2.2.1⟩ (.inr ⟨_, by walk_at "mMem", rfl, _, rfl⟩) ?_
    clear F1 N1 F3 N3 l3 off1 ne1
    (repeat' (first | walk_at "mGo" | ((try with_reducible show wpAny _ _ _ _ _ _); (fail_if_success (walk_at "mSt")); first | ((with_reducible show wpAny _ _ (binaryOp Operator.Pow (Value.int 4 _) (Value.int _ _)) _ _ _); ((refine pow437 (by lia) (by lia) ?_; intro _ _ _))) | ((with_reducible show wpAny _ _ (subscriptTail _ _ _ _) _ _ _); first | ((with_reducible show wpAny _ _ (subscriptTail (Expr.Name (Str.ofString "codes") _) _ (Value.ref _) (Value.int _ _)) _ _ _); (refine' code37 ?N2 ?m2 ?v2 ?l2 ?_; (case N2 => with_reducible assumption); (case m2 => walk_at "mMem"); (case v2 => with_reducible assumption); (case l2 => with_reducible assumption)); intro _ _ _; (try dsimp only)) | ((with_reducible show wpAny _ _ (subscriptTail _ _ (Value.ref _) (Value.int _ _)) _ _ _); walk_at "subscriptTail")) | ((with_reducible show wpAny _ _ (call _ _) _ _ _); first | ((with_reducible show wpAny _ _ (call (Value.builtin "str.join") _) _ _ _); ((refine' join37 (News.isList ?N3 ?m3) ?S3 ?b3 ?n3 ?_; (case N3 => with_reducible assumption); (case m3 => exact .head _); (case S3 => first | exact (trivial : StrsAre [] []) | exact StrsAre.one _ _ | with_reducible assumption); (case b3 => first | with_reducible assumption | (intro a ha; cases ha; done) | (intro a ha; rw [List.mem_singleton.mp ha]; exact Nat.le_of_ble_eq_true rfl)); (case n3 => first | exact Nat.le_of_ble_eq_true rfl | lia)); intro _ _ _ _)) | ((with_reducible show wpAny _ _ (call (Value.builtin "chr") _) _ _ _); (refine chr_of_range (by lia) (by lia) ?_)) | ((with_reducible show wpAny _ _ (call (Value.builtin "list.append") [Value.ref _, _]) _ _ _); (k_dflt (refine' append_K ?F7 ?N7 ?U7 ?_ ?z7; (case F7 => with_reducible assumption); (case N7 => with_reducible assumption); (case U7 => walk_at "mUpd"); (case z7 => (simp only [sizeLine_eq, List.size_toArray, List.length_append, List.length_cons, List.length_nil]; lia))); intro h' F' N'; (try simp only [List.push_toArray] at N')))) | ((with_reducible show wpAny _ _ (assign _ _ _) _ _ _); first | ((with_reducible show wpAny _ _ (assign (Expr.Tuple _ _ _) _ (Value.ref _)) _ _ _); ((refine' unpack37 ?F4 ?N4 ?m4 ?h4 ?n4 ?s4 ?_; (case F4 => with_reducible assumption); (case N4 => with_reducible assumption); (case m4 => walk_at "mMem"); (case h4 => exact rfl); (case n4 => exact rfl); (case s4 => exact rfl)); intro _ _ _)) | ((with_reducible show wpAny _ _ (assign (Expr.Tuple _ _ _) _ (Value.ref _)) _ _ _); ((refine' unpackB37 ?F5 ?N5 ?m5 ?h5 ?n5 ?s5 ?_; (case F5 => with_reducible assumption); (case N5 => with_reducible assumption); (case m5 => with_reducible assumption); (case h5 => exact rfl); (case n5 => exact rfl); (case s5 => exact rfl)); intro _ _ _))) | walk1 | (dsimp only; walk1))))
    rename_i I4 oI4 C4 oC4 D4 m4 h4 tk4 E4 hC4 hx4 hy4 F4 N4 ne4 off4 T5 h5 F5 N5 l5
    refine comp_end1 F5 N5 (by simpa [LCg.Off3] using off4) ⟨l5.1, l5.2.1, l5.2.2.1⟩ (.inr ⟨_, by walk_at "mMem", rfl, _, rfl⟩) ?_
    have l53 := l5.2.2.2.1
    clear F4 N4 F5 N5 l5 off4 ne4
    refine LCp.CompRestP.zero ?_
    intro D6 h6 tk6 F6 N6 off6
    simp only [LCg.Off1, and_true] at off6
    (repeat' (first | walk_at "mGo" | ((try with_reducible show wpAny _ _ _ _ _ _); (fail_if_success (walk_at "mSt")); first | ((with_reducible show wpAny _ _ (binaryOp Operator.Pow (Value.int 4 _) (Value.int _ _)) _ _ _); ((refine pow437 (by lia) (by lia) ?_; intro _ _ _))) | ((with_reducible show wpAny _ _ (subscriptTail _ _ _ _) _ _ _); first | ((with_reducible show wpAny _ _ (subscriptTail (Expr.Name (Str.ofString "codes") _) _ (Value.ref _) (Value.int _ _)) _ _ _); (refine' code37 ?N2 ?m2 ?v2 ?l2 ?_; (case N2 => with_reducible assumption); (case m2 => walk_at "mMem"); (case v2 => with_reducible assumption); (case l2 => with_reducible assumption)); intro _ _ _; (try dsimp only)) | ((with_reducible show wpAny _ _ (subscriptTail _ _ (Value.ref _) (Value.int _ _)) _ _ _); walk_at "subscriptTail")) | ((with_reducible show wpAny _ _ (call _ _) _ _ _); first | ((with_reducible show wpAny _ _ (call (Value.builtin "str.join") _) _ _ _); ((refine' join37 (News.isList ?N3 ?m3) ?S3 ?b3 ?n3 ?_; (case N3 => with_reducible assumption); (case m3 => exact .head _); (case S3 => first | exact (trivial : StrsAre [] []) | exact StrsAre.one _ _ | with_reducible assumption); (case b3 => first | with_reducible assumption | (intro a ha; cases ha; done) | (intro a ha; rw [List.mem_singleton.mp ha]; exact Nat.le_of_ble_eq_true rfl)); (case n3 => first | exact Nat.le_of_ble_eq_true rfl | lia)); intro _ _ _ _)) | ((with_reducible show wpAny _ _ (call (Value.builtin "chr") _) _ _ _); (refine chr_of_range (by lia) (by lia) ?_)) | ((with_reducible show wpAny _ _ (call (Value.builtin "list.append") [Value.ref _, _]) _ _ _); (k_dflt (refine' append_K ?F7 ?N7 ?U7 ?_ ?z7; (case F7 => with_reducible assumption); (case N7 => with_reducible assumption); (case U7 => walk_at "mUpd"); (case z7 => (simp only [sizeLine_eq, List.size_toArray, List.length_append, List.length_cons, List.length_nil]; lia))); intro h' F' N'; (try simp only [List.push_toArray] at N')))) | ((with_reducible show wpAny _ _ (assign _ _ _) _ _ _); first | ((with_reducible show wpAny _ _ (assign (Expr.Tuple _ _ _) _ (Value.ref _)) _ _ _); ((refine' unpack37 ?F4 ?N4 ?m4 ?h4 ?n4 ?s4 ?_; (case F4 => with_reducible assumption); (case N4 => with_reducible assumption); (case m4 => walk_at "mMem"); (case h4 => exact rfl); (case n4 => exact rfl); (case s4 => exact rfl)); intro _ _ _)) | ((with_reducible show wpAny _ _ (assign (Expr.Tuple _ _ _) _ (Value.ref _)) _ _ _); ((refine' unpackB37 ?F5 ?N5 ?m5 ?h5 ?n5 ?s5 ?_; (case F5 => with_reducible assumption); (case N5 => with_reducible assumption); (case m5 => with_reducible assumption); (case h5 => exact rfl); (case n5 => exact rfl); (case s5 => exact rfl)); intro _ _ _))) | walk1 | (dsimp only; walk1))))
    rename_i ly hy1 F8 N8 l8 Dr h9 F9 N9 l9
    have hI3 : IntsAre [Value.int (p1 : Int) v1, Value.int 256 243, Value.int (p0 : Int) v0] [(p1 : Int), 256, p0] := .cons _ _ (.cons _ _ (.cons _ _ .nil))
    have hI5 : IntsAre [Value.int (p3 : Int) v3, Value.int 256 243, Value.int (p2 : Int) v2] [(p3 : Int), 256, p2] := .cons _ _ (.cons _ _ (.cons _ _ .nil))
    k_dflt (refine' use37 (f := 65) (written_contract _ w Dr [Value.ref T3, Value.ref T5, Value.ref M] 0 (rules7 p0 p1 p2 p3 core) nw fin hrun (by simp) ?hr3) B₁ F9 X₁ N9 T₁ ?kK ?kd ?ku ⟨?g1, ?g2⟩ ?_)
    case kK => exact rfl
    case kd => first | lia | ktr_room
    case ku => first | lia | ktr_units
    case hr3 =>
      intro r hr
      simp only [List.mem_cons, List.not_mem_nil, or_false] at hr
      rcases hr with rfl | rfl | rfl
      · exact Nat.le_refl 3
      · exact Nat.le_refl 3
      · simp; lia
    case g1 => exact (N9 _ (.head _)).1
    case g2 => exact .cons (N9 (T3, listOf [Value.int (p1 : Int) v1, Value.int 256 243, Value.int (p0 : Int) v0].toArray 0) (by walk_at "mMem")).1 hI3 (.cons (N9 (T5, listOf [Value.int (p3 : Int) v3, Value.int 256 243, Value.int (p2 : Int) v2].toArray 0) (by walk_at "mMem")).1 hI5 (.cons (N9 (M, listOf mv.toArray me) (by walk_at "mMem")).1 hmv .nil))
    clear F9 N9
    ((repeat (with_reducible rename News _ _ _ _ => Nq; clear Nq)); (repeat (with_reducible rename Fr _ _ _ _ => Fq; clear Fq)); (repeat (with_reducible rename IsRange _ _ _ _ _ _ _ _ => Rq; clear Rq)))
    rintro r' new' h' tk' ⟨R, rvs, re, rfl, rfl, hrv⟩ hne F' N'
    simp only [List.cons_append, List.nil_append] at N'
    have fR : Far L R := ⟨hne _ (.head _) (L + 1 + 1 + 1 + 1 + 1, o5) (by walk_at "mMem"), hne _ (.head _) (L + 1 + 1 + 1 + 1, o4) (by walk_at "mMem")⟩
    clear hne
    (repeat' (first | walk_at "mGo" | ((try with_reducible show wpAny _ _ _ _ _ _); (fail_if_success (walk_at "mSt")); first | ((with_reducible show wpAny _ _ (binaryOp Operator.Pow (Value.int 4 _) (Value.int _ _)) _ _ _); ((refine pow437 (by lia) (by lia) ?_; intro _ _ _))) | ((with_reducible show wpAny _ _ (subscriptTail _ _ _ _) _ _ _); first | ((with_reducible show wpAny _ _ (subscriptTail (Expr.Name (Str.ofString "codes") _) _ (Value.ref _) (Value.int _ _)) _ _ _); (refine' code37 ?N2 ?m2 ?v2 ?l2 ?_; (case N2 => with_reducible assumption); (case m2 => walk_at "mMem"); (case v2 => with_reducible assumption); (case l2 => with_reducible assumption)); intro _ _ _; (try dsimp only)) | ((with_reducible show wpAny _ _ (subscriptTail _ _ (Value.ref _) (Value.int _ _)) _ _ _); walk_at "subscriptTail")) | ((with_reducible show wpAny _ _ (call _ _) _ _ _); first | ((with_reducible show wpAny _ _ (call (Value.builtin "str.join") _) _ _ _); ((refine' join37 (News.isList ?N3 ?m3) ?S3 ?b3 ?n3 ?_; (case N3 => with_reducible assumption); (case m3 => exact .head _); (case S3 => first | exact (trivial : StrsAre [] []) | exact StrsAre.one _ _ | with_reducible assumption); (case b3 => first | with_reducible assumption | (intro a ha; cases ha; done) | (intro a ha; rw [List.mem_singleton.mp ha]; exact Nat.le_of_ble_eq_true rfl)); (case n3 => first | exact Nat.le_of_ble_eq_true rfl | lia)); intro _ _ _ _)) | ((with_reducible show wpAny _ _ (call (Value.builtin "chr") _) _ _ _); (refine chr_of_range (by lia) (by lia) ?_)) | ((with_reducible show wpAny _ _ (call (Value.builtin "list.append") [Value.ref _, _]) _ _ _); (k_dflt (refine' append_K ?F7 ?N7 ?U7 ?_ ?z7; (case F7 => with_reducible assumption); (case N7 => with_reducible assumption); (case U7 => walk_at "mUpd"); (case z7 => (simp only [sizeLine_eq, List.size_toArray, List.length_append, List.length_cons, List.length_nil]; lia))); intro h' F' N'; (try simp only [List.push_toArray] at N')))) | ((with_reducible show wpAny _ _ (assign _ _ _) _ _ _); first | ((with_reducible show wpAny _ _ (assign (Expr.Tuple _ _ _) _ (Value.ref _)) _ _ _); ((refine' unpack37 ?F4 ?N4 ?m4 ?h4 ?n4 ?s4 ?_; (case F4 => with_reducible assumption); (case N4 => with_reducible assumption); (case m4 => walk_at "mMem"); (case h4 => exact rfl); (case n4 => exact rfl); (case s4 => exact rfl)); intro _ _ _)) | ((with_reducible show wpAny _ _ (assign (Expr.Tuple _ _ _) _ (Value.ref _)) _ _ _); ((refine' unpackB37 ?F5 ?N5 ?m5 ?h5 ?n5 ?s5 ?_; (case F5 => with_reducible assumption); (case N5 => with_reducible assumption); (case m5 => with_reducible assumption); (case h5 => exact rfl); (case n5 => exact rfl); (case s5 => exact rfl)); intro _ _ _))) | walk1 | (dsimp only; walk1))))
    rename Fr _ _ _ _ => Fz
    rename News _ _ _ _ => Nz
    refine EndL.intro Fz (News.sub Nz (nx' := [(L + 1 + 1 + 1 + 1 + 1, o5), (L + 1 + 1 + 1 + 1, o4), (P, _), (T1, _), (T2, _), (M, _), (Lt, _), (R, _)]) (by walk_at "mSub")) ?_
    exact ⟨R, rvs, re, .cons rfl (.cons rfl (.cons rfl (.cons rfl (.cons rfl .nil)))), rfl, hrv, fR⟩
    --END
  clear F₇ N₇
  ((repeat (with_reducible rename News _ _ _ _ => Nq; clear Nq)); (repeat (with_reducible rename Fr _ _ _ _ => Fq; clear Fq)); (repeat (with_reducible rename IsRange _ _ _ _ _ _ _ _ => Rq; clear Rq)))
  rintro h₈ tk₈ m₈ nx F₈ N₈ ⟨R, rv, re, hag, rfl, hrv, fR⟩
  replace F₈ := hag.fr F₈
  clear hag
  show wpAny _ _ _ _ _ { s₁ with heap := h₈, toks := tk₈ }
  have hmvl : mv.length = core.length := by have := hmv.length; rwa [List.length_map] at this
  have m256 : ∀ x ∈ core, 0 < x ∧ x < 256 := fun x hx => cs256 x (hcin x hx)
  try walk_at "mGo"
  refine cut2 (h₀ := s₁.heap) (L := L) (LawJ9 L p0 p1 p2 p3 P T1 T2 M me Lt le R re o5 mv lv rv v0 v1 v2 v3 tt core tx) ?_ ?_
  · --BEGIN
    k_fold
    (repeat' (first | walk_at "mGo" | ((try with_reducible show wpAny _ _ _ _ _ _); (fail_if_success (walk_at "mSt")); first | ((with_reducible show wpAny _ _ (binaryOp Operator.Pow (Value.int 4 _) (Value.int _ _)) _ _ _); ((refine pow437 (by lia) (by lia) ?_; intro _ _ _))) | ((with_reducible show wpAny _ _ (subscriptTail _ _ _ _) _ _ _); first | ((with_reducible show wpAny _ _ (subscriptTail (Expr.Name (Str.ofString "codes") _) _ (Value.ref _) (Value.int _ _)) _ _ _); (refine' code37 ?N2 ?m2 ?v2 ?l2 ?_; (case N2 => with_reducible assumption); (case m2 => walk_at "mMem"); (case v2 => with_reducible assumption); (case l2 => with_reducible assumption)); intro _ _ _; (try dsimp only)) | ((with_reducible show wpAny _ _ (subscriptTail _ _ (Value.ref _) (Value.int _ _)) _ _ _); walk_at "subscriptTail")) | ((with_reducible show wpAny _ _ (call _ _) _ _ _); first | ((with_reducible show wpAny _ _ (call (Value.builtin "str.join") _) _ _ _); ((refine' join37 (News.isList ?N3 ?m3) ?S3 ?b3 ?n3 ?_; (case N3 => with_reducible assumption); (case m3 => exact .head _); (case S3 => first | exact (trivial : StrsAre [] []) | exact StrsAre.one _ _ | with_reducible assumption); (case b3 => first | with_reducible assumption | (intro a ha; cases ha; done) | (intro a ha; rw [List.mem_singleton.mp ha]; exact Nat.le_of_ble_eq_true rfl)); (case n3 => first | exact Nat.le_of_ble_eq_true rfl | lia)); intro _ _ _ _)) | ((with_reducible show wpAny _ _ (call (Value.builtin "chr") _) _ _ _); (refine chr_of_range (by lia) (by lia) ?_)) | ((with_reducible show wpAny _ _ (call (Value.builtin "list.append") [Value.ref _, _]) _ _ _); (k_dflt (refine' append_K ?F7 ?N7 ?U7 ?_ ?z7; (case F7 => with_reducible assumption); (case N7 => with_reducible assumption); (case U7 => walk_at "mUpd"); (case z7 => (simp only [sizeLine_eq, List.size_toArray, List.length_append, List.length_cons, List.length_nil]; lia))); intro h' F' N'; (try simp only [List.push_toArray] at N')))) | ((with_reducible show wpAny _ _ (assign _ _ _) _ _ _); first | ((with_reducible show wpAny _ _ (assign (Expr.Tuple _ _ _) _ (Value.ref _)) _ _ _); ((refine' unpack37 ?F4 ?N4 ?m4 ?h4 ?n4 ?s4 ?_; (case F4 => with_reducible assumption); (case N4 => with_reducible assumption); (case m4 => walk_at "mMem"); (case h4 => exact rfl); (case n4 => exact rfl); (case s4 => exact rfl)); intro _ _ _)) | ((with_reducible show wpAny _ _ (assign (Expr.Tuple _ _ _) _ (Value.ref _)) _ _ _); ((refine' unpackB37 ?F5 ?N5 ?m5 ?h5 ?n5 ?s5 ?_; (case F5 => with_reducible assumption); (case N5 => with_reducible assumption); (case m5 => with_reducible assumption); (case h5 => exact rfl); (case n5 => exact rfl); (case s5 => exact rfl)); intro _ _ _))) | walk1 | (dsimp only; walk1))))
    refine LCg.ListComp_U (F₀ := by k_asm) (by with_unfolding_all rfl) (by decide) (by rfl) (by decide) (by rfl) ?_
    (repeat' (first | walk_at "mGo" | ((try with_reducible show wpAny _ _ _ _ _ _); (fail_if_success (walk_at "mSt")); first | ((with_reducible show wpAny _ _ (binaryOp Operator.Pow (Value.int 4 _) (Value.int _ _)) _ _ _); ((refine pow437 (by lia) (by lia) ?_; intro _ _ _))) | ((with_reducible show wpAny _ _ (subscriptTail _ _ _ _) _ _ _); first | ((with_reducible show wpAny _ _ (subscriptTail (Expr.Name (Str.ofString "codes") _) _ (Value.ref _) (Value.int _ _)) _ _ _); (refine' code37 ?N2 ?m2 ?v2 ?l2 ?_; (case N2 => with_reducible assumption); (case m2 => walk_at "mMem"); (case v2 => with_reducible assumption); (case l2 => with_reducible assumption)); intro _ _ _; (try dsimp only)) | ((with_reducible show wpAny _ _ (subscriptTail _ _ (Value.ref _) (Value.int _ _)) _ _ _); walk_at "subscriptTail")) | ((with_reducible show wpAny _ _ (call _ _) _ _ _); first | ((with_reducible show wpAny _ _ (call (Value.builtin "str.join") _) _ _ _); ((refine' join37 (News.isList ?N3 ?m3) ?S3 ?b3 ?n3 ?_; (case N3 => with_reducible assumption); (case m3 => exact .head _); (case S3 => first | exact (trivial : StrsAre [] []) | exact StrsAre.one _ _ | with_reducible assumption); (case b3 => first | with_reducible assumption | (intro a ha; cases ha; done) | (intro a ha; rw [List.mem_singleton.mp ha]; exact Nat.le_of_ble_eq_true rfl)); (case n3 => first | exact Nat.le_of_ble_eq_true rfl | lia)); intro _ _ _ _)) | ((with_reducible show wpAny _ _ (call (Value.builtin "chr") _) _ _ _); (refine chr_of_range (by lia) (by lia) ?_)) | ((with_reducible show wpAny _ _ (call (Value.builtin "list.append") [Value.ref _, _]) _ _ _); (k_dflt (refine' append_K ?F7 ?N7 ?U7 ?_ ?z7; (case F7 => with_reducible assumption); (case N7 => with_reducible assumption); (case U7 => walk_at "mUpd"); (case z7 => (simp only [sizeLine_eq, List.size_toArray, List.length_append, List.length_cons, List.length_nil]; lia))); intro h' F' N'; (try simp only [List.push_toArray] at N')))) | ((with_reducible show wpAny _ _ (assign _ _ _) _ _ _); first | ((with_reducible show wpAny _ _ (assign (Expr.Tuple _ _ _) _ (Value.ref _)) _ _ _); ((refine' unpack37 ?F4 ?N4 ?m4 ?h4 ?n4 ?s4 ?_; (case F4 => with_reducible assumption); (case N4 => with_reducible assumption); (case m4 => walk_at "mMem"); (case h4 => exact rfl); (case n4 => exact rfl); (case s4 => exact rfl)); intro _ _ _)) | ((with_reducible show wpAny _ _ (assign (Expr.Tuple _ _ _) _ (Value.ref _)) _ _ _); ((refine' unpackB37 ?F5 ?N5 ?m5 ?h5 ?n5 ?s5 ?_; (case F5 => with_reducible assumption); (case N5 => with_reducible assumption); (case m5 => with_reducible assumption); (case h5 => exact rfl); (case n5 => exact rfl); (case s5 => exact rfl)); intro _ _ _))) | walk1 | (dsimp only; walk1))))
    rename Fr _ _ _ _ => Fz
    rename News _ _ _ _ => Nz
    refine LCg.CompSrc.ledger (by rfl) Fz Nz (by walk_at "mMem") (by rw [List.size_toArray, sizeLine_eq]; lia) ?_
    intro g
    refine comp_led (fun i ys nx => nx = [(L + 1 + 1 + 1 + 1 + 1, o5), (L + 1 + 1 + 1 + 1, o4), (P, listOf [Value.ref T1, .ref T2].toArray 0), (T1, tupI p0 p1 v0 v1), (T2, tupI p2 p3 v2 v3), (M, listOf mv.toArray me), (Lt, listOf lv.toArray le), (R, listOf rv.toArray re)] ∧ ∃ xs : List Str, StrsAre ys xs ∧ xs.map lst = (core.take i).map fun c => [c]) ⟨rfl, [], trivial, rfl⟩ ?_ ?_
    · clear Fz Nz
      ((repeat (with_reducible rename News _ _ _ _ => Nq; clear Nq)); (repeat (with_reducible rename Fr _ _ _ _ => Fq; clear Fq)); (repeat (with_reducible rename IsRange _ _ _ _ _ _ _ _ => Rq; clear Rq)))
      rintro j zs nx v I oI C2 oC2 D3 m₃ h4 tk4 E4 hj ⟨rfl, xs, hxs, hxl⟩ hv hns2 hm2 F4 N4 off4 ne4
      have hv' : mv[j]? = some v := by simpa using hv
      have hj' : j < core.length := by rw [List.size_toArray] at hj; lia
      obtain ⟨tv, ev⟩ := hmv.get j ((core[j] : Nat) : Int) (by simp [hj'])
      rw [hv'] at ev
      obtain rfl := Option.some.inj ev
      have hlj := m256 core[j] (List.getElem_mem hj')
      have hte := List.take_succ_eq_append_getElem hj'
      generalize core[j] = c at *
      (repeat' (first | walk_at "mGo" | ((try with_reducible show wpAny _ _ _ _ _ _); (fail_if_success (walk_at "mSt")); first | ((with_reducible show wpAny _ _ (binaryOp Operator.Pow (Value.int 4 _) (Value.int _ _)) _ _ _); ((refine pow437 (by lia) (by lia) ?_; intro _ _ _))) | ((with_reducible show wpAny _ _ (subscriptTail _ _ _ _) _ _ _); first | ((with_reducible show wpAny _ _ (subscriptTail (Expr.Name (Str.ofString "codes") _) _ (Value.ref _) (Value.int _ _)) _ _ _); (refine' code37 ?N2 ?m2 ?v2 ?l2 ?_; (case N2 => with_reducible assumption); (case m2 => walk_at "mMem"); (case v2 => with_reducible assumption); (case l2 => with_reducible assumption)); intro _ _ _; (try dsimp only)) | ((with_reducible show wpAny _ _ (subscriptTail _ _ (Value.ref _) (Value.int _ _)) _ _ _); walk_at "subscriptTail")) | ((with_reducible show wpAny _ _ (call _ _) _ _ _); first | ((with_reducible show wpAny _ _ (call (Value.builtin "str.join") _) _ _ _); ((refine' join37 (News.isList ?N3 ?m3) ?S3 ?b3 ?n3 ?_; (case N3 => with_reducible assumption); (case m3 => exact .head _); (case S3 => first | exact (trivial : StrsAre [] []) | exact StrsAre.one _ _ | with_reducible assumption); (case b3 => first | with_reducible assumption | (intro a ha; cases ha; done) | (intro a ha; rw [List.mem_singleton.mp ha]; exact Nat.le_of_ble_eq_true rfl)); (case n3 => first | exact Nat.le_of_ble_eq_true rfl | lia)); intro _ _ _ _)) | ((with_reducible show wpAny _ _ (call (Value.builtin "chr") _) _ _ _); (refine chr_of_range (by lia) (by lia) ?_)) | ((with_reducible show wpAny _ _ (call (Value.builtin "list.append") [Value.ref _, _]) _ _ _); (k_dflt (refine' append_K ?F7 ?N7 ?U7 ?_ ?z7; (case F7 => with_reducible assumption); (case N7 => with_reducible assumption); (case U7 => walk_at "mUpd"); (case z7 => (simp only [sizeLine_eq, List.size_toArray, List.length_append, List.length_cons, List.length_nil]; lia))); intro h' F' N'; (try simp only [List.push_toArray] at N')))) | ((with_reducible show wpAny _ _ (assign _ _ _) _ _ _); first | ((with_reducible show wpAny _ _ (assign (Expr.Tuple _ _ _) _ (Value.ref _)) _ _ _); ((refine' unpack37 ?F4 ?N4 ?m4 ?h4 ?n4 ?s4 ?_; (case F4 => with_reducible assumption); (case N4 => with_reducible assumption); (case m4 => walk_at "mMem"); (case h4 => exact rfl); (case n4 => exact rfl); (case s4 => exact rfl)); intro _ _ _)) | ((with_reducible show wpAny _ _ (assign (Expr.Tuple _ _ _) _ (Value.ref _)) _ _ _); ((refine' unpackB37 ?F5 ?N5 ?m5 ?h5 ?n5 ?s5 ?_; (case F5 => with_reducible assumption); (case N5 => with_reducible assumption); (case m5 => with_reducible assumption); (case h5 => exact rfl); (case n5 => exact rfl); (case s5 => exact rfl)); intro _ _ _))) | walk1 | (dsimp only; walk1))))
      rename Fr _ _ _ _ => Fz
      rename News _ _ _ _ => Nz
      refine LCg.CompEnd.intro Fz Nz _ (fun _ h => h) off4 (.inr ⟨_, by walk_at "mMem", rfl, _, rfl⟩) ⟨rfl, _, strs_snoc hxs, ?_⟩
      rw [List.map_append, hxl, hte, List.map_append]
      rfl
    · clear Fz Nz
      ((repeat (with_reducible rename News _ _ _ _ => Nq; clear Nq)); (repeat (with_reducible rename Fr _ _ _ _ => Fq; clear Fq)); (repeat (with_reducible rename IsRange _ _ _ _ _ _ _ _ => Rq; clear Rq)))
      rintro zs nx ⟨rfl, xs, hxs, hxl⟩
      intro D4 h5 tk5 F5 N5 o5'
      rw [List.size_toArray, hmvl, List.take_length] at hxl
      have h8 := len_one hxl
      have hxn : xs.length ≤ 1000 := by have := congrArg List.length hxl; simp only [List.length_map] at this; lia
      obtain ⟨v4, d4⟩ := d4
      simp only [LCg.Off1, and_true] at o5'
      refine hideG ?_; intro Gh kGh
      refine and8 o5' ?_; intro w1 w2 w3 w4 w5 w6 w7 w8
      obtain ⟨g1, g2⟩ := fP
      obtain ⟨g3, g4⟩ := fT1
      obtain ⟨g5, g6⟩ := fT2
      obtain ⟨g7, g8⟩ := fM
      obtain ⟨g9, g10⟩ := fLt
      obtain ⟨g11, g12⟩ := fR
      refine kGh ?_; clear kGh Gh
      (repeat' (first | walk_at "mGo" | ((try with_reducible show wpAny _ _ _ _ _ _); (fail_if_success (walk_at "mSt")); first | ((with_reducible show wpAny _ _ (binaryOp Operator.Pow (Value.int 4 _) (Value.int _ _)) _ _ _); ((refine pow437 (by lia) (by lia) ?_; intro _ _ _))) | ((with_reducible show wpAny _ _ (subscriptTail _ _ _ _) _ _ _); first | ((with_reducible show wpAny _ _ (subscriptTail (Expr.Name (Str.ofString "codes") _) _ (Value.ref _) (Value.int _ _)) _ _ _); (refine' code37 ?N2 ?m2 ?v2 ?l2 ?_; (case N2 => with_reducible assumption); (case m2 => walk_at "mMem"); (case v2 => with_reducible assumption); (case l2 => with_reducible assumption)); intro _ _ _; (try dsimp only)) | ((with_reducible show wpAny _ _ (subscriptTail _ _ (Value.ref _) (Value.int _ _)) _ _ _); walk_at "subscriptTail")) | ((with_reducible show wpAny _ _ (call _ _) _ _ _); first | ((with_reducible show wpAny _ _ (call (Value.builtin "str.join") _) _ _ _); ((refine' join37 (News.isList ?N3 ?m3) ?S3 ?b3 ?n3 ?_; (case N3 => with_reducible assumption); (case m3 => exact .head _); (case S3 => first | exact (trivial : StrsAre [] []) | exact StrsAre.one _ _ | with_reducible assumption); (case b3 => first | with_reducible assumption | (intro a ha; cases ha; done) | (intro a ha; rw [List.mem_singleton.mp ha]; exact Nat.le_of_ble_eq_true rfl)); (case n3 => first | exact Nat.le_of_ble_eq_true rfl | lia)); intro _ _ _ _)) | ((with_reducible show wpAny _ _ (call (Value.builtin "chr") _) _ _ _); (refine chr_of_range (by lia) (by lia) ?_)) | ((with_reducible show wpAny _ _ (call (Value.builtin "list.append") [Value.ref _, _]) _ _ _); (k_dflt (refine' append_K ?F7 ?N7 ?U7 ?_ ?z7; (case F7 => with_reducible assumption); (case N7 => with_reducible assumption); (case U7 => walk_at "mUpd"); (case z7 => (simp only [sizeLine_eq, List.size_toArray, List.length_append, List.length_cons, List.length_nil]; lia))); intro h' F' N'; (try simp only [List.push_toArray] at N')))) | ((with_reducible show wpAny _ _ (assign _ _ _) _ _ _); first | ((with_reducible show wpAny _ _ (assign (Expr.Tuple _ _ _) _ (Value.ref _)) _ _ _); ((refine' unpack37 ?F4 ?N4 ?m4 ?h4 ?n4 ?s4 ?_; (case F4 => with_reducible assumption); (case N4 => with_reducible assumption); (case m4 => walk_at "mMem"); (case h4 => exact rfl); (case n4 => exact rfl); (case s4 => exact rfl)); intro _ _ _)) | ((with_reducible show wpAny _ _ (assign (Expr.Tuple _ _ _) _ (Value.ref _)) _ _ _); ((refine' unpackB37 ?F5 ?N5 ?m5 ?h5 ?n5 ?s5 ?_; (case F5 => with_reducible assumption); (case N5 => with_reducible assumption); (case m5 => with_reducible assumption); (case h5 => exact rfl); (case n5 => exact rfl); (case s5 => exact rfl)); intro _ _ _))) | walk1 | (dsimp only; walk1))))
      rename_i ta ka cx hx Ly ha la2 hb o4' dz tkb _ _ NS cN hc lb hd Fz Nz tke
      rw [hxl, map_one] at hx
      refine EndL.intro Fz (News.sub Nz (nx' := [(L + 1 + 1 + 1 + 1 + 1, o5), (L + 1 + 1 + 1 + 1, _), (P, _), (T1, _), (T2, _), (M, _), (Lt, _), (R, _), (Ly, _), (NS, _)]) (by walk_at "mSub")) ?_
      refine hideG ?_; intro Gh kGh
      refine and10 lb ?_; intro a1 a2 a3 a4 a5 a6 a7 a8 a9 a10; clear lb
      refine kGh ?_; clear kGh Gh
      exact ⟨o4', Ly, NS, cx, ta, ta, 0, cN, .cons rfl (.cons rfl (.cons rfl (.cons rfl (.cons rfl (.cons rfl .nil))))), rfl, dz, hx, .lt la2.2.1, .lt a3, Nat.ne_of_lt a1, Nat.ne_of_lt a5, Nat.ne_of_lt a6, Nat.ne_of_lt a7, Nat.ne_of_lt a8, Nat.ne_of_lt a9, Nat.ne_of_lt a10⟩
    --END
  clear F₈ N₈ d4
  ((repeat (with_reducible rename News _ _ _ _ => Nq; clear Nq)); (repeat (with_reducible rename Fr _ _ _ _ => Fq; clear Fq)); (repeat (with_reducible rename IsRange _ _ _ _ _ _ _ _ => Rq; clear Rq)))
  rintro h₉ tk₉ m₉ nx F₉ N₉ ⟨o4, Ly, NS, cx, tc, tc2, e1, e2, hag, rfl, d4, hcx, fLy, fNS, nLy, r1, r2, r3, r4, r5, r6⟩
  replace F₉ := hag.fr F₉
  clear hag
  show wpAny _ _ _ _ _ { s₁ with heap := h₉, toks := tk₉ }
  generalize hprs : [(p0, p1), (p2, p3)] = prs
  have hpl : prs.length = 2 := by subst hprs; rfl
  try walk_at "mGo"
  refine cut1 (h₀ := s₁.heap) (L := L) (LawJ10 L p0 p1 p2 p3 P T1 T2 M me Lt le R re NS o5 mv lv rv v0 v1 v2 v3 tt core tx prs) ?_ ?_
  · --BEGIN
    k_fold
    (repeat' (first | walk_at "mGo" | ((try with_reducible show wpAny _ _ _ _ _ _); (fail_if_success (walk_at "mSt")); first | ((with_reducible show wpAny _ _ (binaryOp Operator.Pow (Value.int 4 _) (Value.int _ _)) _ _ _); ((refine pow437 (by lia) (by lia) ?_; intro _ _ _))) | ((with_reducible show wpAny _ _ (subscriptTail _ _ _ _) _ _ _); first | ((with_reducible show wpAny _ _ (subscriptTail (Expr.Name (Str.ofString "codes") _) _ (Value.ref _) (Value.int _ _)) _ _ _); (refine' code37 ?N2 ?m2 ?v2 ?l2 ?_; (case N2 => with_reducible assumption); (case m2 => walk_at "mMem"); (case v2 => with_reducible assumption); (case l2 => with_reducible assumption)); intro _ _ _; (try dsimp only)) | ((with_reducible show wpAny _ _ (subscriptTail _ _ (Value.ref _) (Value.int _ _)) _ _ _); walk_at "subscriptTail")) | ((with_reducible show wpAny _ _ (call _ _) _ _ _); first | ((with_reducible show wpAny _ _ (call (Value.builtin "str.join") _) _ _ _); ((refine' join37 (News.isList ?N3 ?m3) ?S3 ?b3 ?n3 ?_; (case N3 => with_reducible assumption); (case m3 => exact .head _); (case S3 => first | exact (trivial : StrsAre [] []) | exact StrsAre.one _ _ | with_reducible assumption); (case b3 => first | with_reducible assumption | (intro a ha; cases ha; done) | (intro a ha; rw [List.mem_singleton.mp ha]; exact Nat.le_of_ble_eq_true rfl)); (case n3 => first | exact Nat.le_of_ble_eq_true rfl | lia)); intro _ _ _ _)) | ((with_reducible show wpAny _ _ (call (Value.builtin "chr") _) _ _ _); (refine chr_of_range (by lia) (by lia) ?_)) | ((with_reducible show wpAny _ _ (call (Value.builtin "list.append") [Value.ref _, _]) _ _ _); (k_dflt (refine' append_K ?F7 ?N7 ?U7 ?_ ?z7; (case F7 => with_reducible assumption); (case N7 => with_reducible assumption); (case U7 => walk_at "mUpd"); (case z7 => (simp only [sizeLine_eq, List.size_toArray, List.length_append, List.length_cons, List.length_nil]; lia))); intro h' F' N'; (try simp only [List.push_toArray] at N')))) | ((with_reducible show wpAny _ _ (assign _ _ _) _ _ _); first | ((with_reducible show wpAny _ _ (assign (Expr.Tuple _ _ _) _ (Value.ref _)) _ _ _); ((refine' unpack37 ?F4 ?N4 ?m4 ?h4 ?n4 ?s4 ?_; (case F4 => with_reducible assumption); (case N4 => with_reducible assumption); (case m4 => walk_at "mMem"); (case h4 => exact rfl); (case n4 => exact rfl); (case s4 => exact rfl)); intro _ _ _)) | ((with_reducible show wpAny _ _ (assign (Expr.Tuple _ _ _) _ (Value.ref _)) _ _ _); ((refine' unpackB37 ?F5 ?N5 ?m5 ?h5 ?n5 ?s5 ?_; (case F5 => with_reducible assumption); (case N5 => with_reducible assumption); (case m5 => with_reducible assumption); (case h5 => exact rfl); (case n5 => exact rfl); (case s5 => exact rfl)); intro _ _ _))) | walk1 | (dsimp only; walk1))))
    try walk_at "mGo"
    refine for_start ?_
    (repeat' (first | walk_at "mGo" | ((try with_reducible show wpAny _ _ _ _ _ _); (fail_if_success (walk_at "mSt")); first | ((with_reducible show wpAny _ _ (binaryOp Operator.Pow (Value.int 4 _) (Value.int _ _)) _ _ _); ((refine pow437 (by lia) (by lia) ?_; intro _ _ _))) | ((with_reducible show wpAny _ _ (subscriptTail _ _ _ _) _ _ _); first | ((with_reducible show wpAny _ _ (subscriptTail (Expr.Name (Str.ofString "codes") _) _ (Value.ref _) (Value.int _ _)) _ _ _); (refine' code37 ?N2 ?m2 ?v2 ?l2 ?_; (case N2 => with_reducible assumption); (case m2 => walk_at "mMem"); (case v2 => with_reducible assumption); (case l2 => with_reducible assumption)); intro _ _ _; (try dsimp only)) | ((with_reducible show wpAny _ _ (subscriptTail _ _ (Value.ref _) (Value.int _ _)) _ _ _); walk_at "subscriptTail")) | ((with_reducible show wpAny _ _ (call _ _) _ _ _); first | ((with_reducible show wpAny _ _ (call (Value.builtin "str.join") _) _ _ _); ((refine' join37 (News.isList ?N3 ?m3) ?S3 ?b3 ?n3 ?_; (case N3 => with_reducible assumption); (case m3 => exact .head _); (case S3 => first | exact (trivial : StrsAre [] []) | exact StrsAre.one _ _ | with_reducible assumption); (case b3 => first | with_reducible assumption | (intro a ha; cases ha; done) | (intro a ha; rw [List.mem_singleton.mp ha]; exact Nat.le_of_ble_eq_true rfl)); (case n3 => first | exact Nat.le_of_ble_eq_true rfl | lia)); intro _ _ _ _)) | ((with_reducible show wpAny _ _ (call (Value.builtin "chr") _) _ _ _); (refine chr_of_range (by lia) (by lia) ?_)) | ((with_reducible show wpAny _ _ (call (Value.builtin "list.append") [Value.ref _, _]) _ _ _); (k_dflt (refine' append_K ?F7 ?N7 ?U7 ?_ ?z7; (case F7 => with_reducible assumption); (case N7 => with_reducible assumption); (case U7 => walk_at "mUpd"); (case z7 => (simp only [sizeLine_eq, List.size_toArray, List.length_append, List.length_cons, List.length_nil]; lia))); intro h' F' N'; (try simp only [List.push_toArray] at N')))) | ((with_reducible show wpAny _ _ (assign _ _ _) _ _ _); first | ((with_reducible show wpAny _ _ (assign (Expr.Tuple _ _ _) _ (Value.ref _)) _ _ _); ((refine' unpack37 ?F4 ?N4 ?m4 ?h4 ?n4 ?s4 ?_; (case F4 => with_reducible assumption); (case N4 => with_reducible assumption); (case m4 => walk_at "mMem"); (case h4 => exact rfl); (case n4 => exact rfl); (case s4 => exact rfl)); intro _ _ _)) | ((with_reducible show wpAny _ _ (assign (Expr.Tuple _ _ _) _ (Value.ref _)) _ _ _); ((refine' unpackB37 ?F5 ?N5 ?m5 ?h5 ?n5 ?s5 ?_; (case F5 => with_reducible assumption); (case N5 => with_reducible assumption); (case m5 => with_reducible assumption); (case h5 => exact rfl); (case n5 => exact rfl); (case s5 => exact rfl)); intro _ _ _))) | walk1 | (dsimp only; walk1))))
    rename IsRange _ _ _ _ _ _ _ _ => Rz
    rename Fr _ _ _ _ => Fz
    rename News _ _ _ _ => Nz
    try walk_at "mGo"
    refine for_range (n := 2) (LawJ11 L p0 p1 p2 p3 P T1 T2 M me Lt le R re NS o5 mv lv rv v0 v1 v2 v3 tt core tx prs)
      rfl Rz (by decide) (by decide) ⟨_, _, rfl⟩ Fz Nz ⟨o4, Ly, _, e1, [cx], _, e2, [cx], .cons rfl (.cons rfl (.cons rfl (.cons rfl (.cons rfl (.cons rfl .nil))))), rfl, d4, fLy, nLy, ⟨⟨_, rfl⟩, trivial⟩, by simp [LW, hcx], ⟨⟨_, rfl⟩, trivial⟩, by simp [NW, hcx]⟩ ?_ ?_
    · clear Fz Nz Rz d4 fLy nLy
      ((repeat (with_reducible rename News _ _ _ _ => Nq; clear Nq)); (repeat (with_reducible rename Fr _ _ _ _ => Fq; clear Fq)); (repeat (with_reducible rename IsRange _ _ _ _ _ _ _ _ => Rq; clear Rq)))
      rintro i t m₁ nx h₁ tk₁ I io hi ⟨o4, Ly, lvs, e1, lxs, nvs, e2, nxs, hag, rfl, d4, fLy, nLy, hlvs, hlw, hnvs, hnw⟩ hI F₁ N₁
      replace F₁ := hag.fr F₁
      clear hag
      have hll : lxs.length ≤ 2 := by
        have h1 := congrArg List.length hlw
        have h2 := LW_len (core := core) (Nat.le_of_eq hpl) i
        rw [List.length_map] at h1
        have h3 : 2 ^ i ≤ 2 := by
          have : i = 0 ∨ i = 1 := by lia
          rcases this with rfl | rfl <;> decide
        lia
      have hle5 : ∀ x ∈ lxs, x.length ≤ 3 := by
        intro x hx
        have h1 : lst x ∈ LW prs core i := by rw [← hlw]; exact List.mem_map_of_mem hx
        have h2 := LW_elt hcl1 i _ h1
        rw [lst_length] at h2
        lia
      have hlvl := hlvs.length
      have hlwl : (LW prs core i).length = lxs.length := by rw [← hlw, List.length_map]
      have hlv0 : 0 < lvs.length := by have := LW_pos (pairs := prs) (core := core) (by lia) i; lia
      simp only [List.forall_mem_cons] at hI
      refine hideG ?_; intro Gh kGh
      refine and11 hI ?_; intro i1 i2 i3 i4 i5 i6 i7 i8 i9 i10 _; clear hI
      refine kGh ?_; clear kGh Gh
      (repeat' (first | walk_at "mGo" | ((try with_reducible show wpAny _ _ _ _ _ _); (fail_if_success (walk_at "mSt")); first | ((with_reducible show wpAny _ _ (binaryOp Operator.Pow (Value.int 4 _) (Value.int _ _)) _ _ _); ((refine pow437 (by lia) (by lia) ?_; intro _ _ _))) | ((with_reducible show wpAny _ _ (subscriptTail _ _ _ _) _ _ _); first | ((with_reducible show wpAny _ _ (subscriptTail (Expr.Name (Str.ofString "codes") _) _ (Value.ref _) (Value.int _ _)) _ _ _); (refine' code37 ?N2 ?m2 ?v2 ?l2 ?_; (case N2 => with_reducible assumption); (case m2 => walk_at "mMem"); (case v2 => with_reducible assumption); (case l2 => with_reducible assumption)); intro _ _ _; (try dsimp only)) | ((with_reducible show wpAny _ _ (subscriptTail _ _ (Value.ref _) (Value.int _ _)) _ _ _); walk_at "subscriptTail")) | ((with_reducible show wpAny _ _ (call _ _) _ _ _); first | ((with_reducible show wpAny _ _ (call (Value.builtin "str.join") _) _ _ _); ((refine' join37 (News.isList ?N3 ?m3) ?S3 ?b3 ?n3 ?_; (case N3 => with_reducible assumption); (case m3 => exact .head _); (case S3 => first | exact (trivial : StrsAre [] []) | exact StrsAre.one _ _ | with_reducible assumption); (case b3 => first | with_reducible assumption | (intro a ha; cases ha; done) | (intro a ha; rw [List.mem_singleton.mp ha]; exact Nat.le_of_ble_eq_true rfl)); (case n3 => first | exact Nat.le_of_ble_eq_true rfl | lia)); intro _ _ _ _)) | ((with_reducible show wpAny _ _ (call (Value.builtin "chr") _) _ _ _); (refine chr_of_range (by lia) (by lia) ?_)) | ((with_reducible show wpAny _ _ (call (Value.builtin "list.append") [Value.ref _, _]) _ _ _); (k_dflt (refine' append_K ?F7 ?N7 ?U7 ?_ ?z7; (case F7 => with_reducible assumption); (case N7 => with_reducible assumption); (case U7 => walk_at "mUpd"); (case z7 => (simp only [sizeLine_eq, List.size_toArray, List.length_append, List.length_cons, List.length_nil]; lia))); intro h' F' N'; (try simp only [List.push_toArray] at N')))) | ((with_reducible show wpAny _ _ (assign _ _ _) _ _ _); first | ((with_reducible show wpAny _ _ (assign (Expr.Tuple _ _ _) _ (Value.ref _)) _ _ _); ((refine' unpack37 ?F4 ?N4 ?m4 ?h4 ?n4 ?s4 ?_; (case F4 => with_reducible assumption); (case N4 => with_reducible assumption); (case m4 => walk_at "mMem"); (case h4 => exact rfl); (case n4 => exact rfl); (case s4 => exact rfl)); intro _ _ _)) | ((with_reducible show wpAny _ _ (assign (Expr.Tuple _ _ _) _ (Value.ref _)) _ _ _); ((refine' unpackB37 ?F5 ?N5 ?m5 ?h5 ?n5 ?s5 ?_; (case F5 => with_reducible assumption); (case N5 => with_reducible assumption); (case m5 => with_reducible assumption); (case h5 => exact rfl); (case n5 => exact rfl); (case s5 => exact rfl)); intro _ _ _))) | walk1 | (dsimp only; walk1))))
      refine wpAny_Assign_Name ?_ (by with_unfolding_all rfl)
      rename Fr _ _ _ _ => Fz
      rename News _ _ _ _ => Nz
      refine comp_enter (h₀ := s₁.heap) (L := L) Fz (by with_unfolding_all rfl) (by decide) (by rfl) (by decide) ?_
      (first | walk1 | (dsimp only; walk1))
      refine comp2_core (l0 := P) (tups := [(T1, .int (p0 : Int) v0, .int (p1 : Int) v1), (T2, .int (p2 : Int) v2, .int (p3 : Int) v3)]) (n0 := 0) (l1 := Ly) (items1 := lvs) (n1 := e1)
        (fun i' j ys nx => nx = [(I, io), (L + 1 + 1 + 1 + 1 + 1, o5), (L + 1 + 1 + 1 + 1, o4), (P, listOf [Value.ref T1, .ref T2].toArray 0), (T1, tupI p0 p1 v0 v1), (T2, tupI p2 p3 v2 v3), (M, listOf mv.toArray me), (Lt, listOf lv.toArray le), (R, listOf rv.toArray re), (Ly, listOf lvs.toArray e1), (NS, listOf nvs.toArray e2)] ∧ i' ≤ 2 ∧ (0 < j → i' < 2) ∧ ∃ xs, StrsAre ys xs ∧ xs.map lst = WW prs (LW prs core i) i' j)
        rfl rfl rfl rfl rfl rfl (by decide) (by decide) (by decide) Fz Nz ⟨rfl, Nat.zero_le _, fun _ => by decide, [], trivial, (WW_zero _).symm⟩ ?_ ?_ ?_ ?_ ?_ ?_
      · rintro i' ys nx ⟨rfl, hi', hi2, xs, hxs, hxw⟩
        have hi3 := hi2 hlv0
        refine ⟨rfl, hi3, fun h => absurd h (Nat.lt_irrefl 0), xs, hxs, ?_⟩
        rw [hxw]
        exact WW_step (by lia) (by lia)
      · rintro i' j ys nx ⟨rfl, _⟩
        refine ⟨?_, ?_, by walk_at "mMem"⟩
        · show (P, listOf [Value.ref T1, .ref T2].toArray 0) ∈ _
          walk_at "mMem"
        · intro t ht
          simp only [List.mem_cons, List.not_mem_nil, or_false] at ht
          rcases ht with rfl | rfl
          · show (T1, tupI p0 p1 v0 v1) ∈ _
            walk_at "mMem"
          · show (T2, tupI p2 p3 v2 v3) ∈ _
            walk_at "mMem"
      · rintro i' j ys nx ⟨rfl, _, _, xs, hxs, hxw⟩
        have h1 := hxs.length
        have h2 := congrArg List.length hxw
        rw [List.length_map] at h2
        have h3 := WW_len (pairs := prs) (LW prs core i) (Nat.le_of_eq hpl) (by lia) i' j
        lia
      · clear Fz Nz
        ((repeat (with_reducible rename News _ _ _ _ => Nq; clear Nq)); (repeat (with_reducible rename Fr _ _ _ _ => Fq; clear Fq)); (repeat (with_reducible rename IsRange _ _ _ _ _ _ _ _ => Rq; clear Rq)))
        rintro s' Q i' ys nx mc C oC D I0 oI ⟨rfl, _⟩ hns F4 N4 hQ
        (repeat' (first | walk_at "mGo" | ((try with_reducible show wpAny _ _ _ _ _ _); (fail_if_success (walk_at "mSt")); first | ((with_reducible show wpAny _ _ (binaryOp Operator.Pow (Value.int 4 _) (Value.int _ _)) _ _ _); ((refine pow437 (by lia) (by lia) ?_; intro _ _ _))) | ((with_reducible show wpAny _ _ (subscriptTail _ _ _ _) _ _ _); first | ((with_reducible show wpAny _ _ (subscriptTail (Expr.Name (Str.ofString "codes") _) _ (Value.ref _) (Value.int _ _)) _ _ _); (refine' code37 ?N2 ?m2 ?v2 ?l2 ?_; (case N2 => with_reducible assumption); (case m2 => walk_at "mMem"); (case v2 => with_reducible assumption); (case l2 => with_reducible assumption)); intro _ _ _; (try dsimp only)) | ((with_reducible show wpAny _ _ (subscriptTail _ _ (Value.ref _) (Value.int _ _)) _ _ _); walk_at "subscriptTail")) | ((with_reducible show wpAny _ _ (call _ _) _ _ _); first | ((with_reducible show wpAny _ _ (call (Value.builtin "str.join") _) _ _ _); ((refine' join37 (News.isList ?N3 ?m3) ?S3 ?b3 ?n3 ?_; (case N3 => with_reducible assumption); (case m3 => exact .head _); (case S3 => first | exact (trivial : StrsAre [] []) | exact StrsAre.one _ _ | with_reducible assumption); (case b3 => first | with_reducible assumption | (intro a ha; cases ha; done) | (intro a ha; rw [List.mem_singleton.mp ha]; exact Nat.le_of_ble_eq_true rfl)); (case n3 => first | exact Nat.le_of_ble_eq_true rfl | lia)); intro _ _ _ _)) | ((with_reducible show wpAny _ _ (call (Value.builtin "chr") _) _ _ _); (refine chr_of_range (by lia) (by lia) ?_)) | ((with_reducible show wpAny _ _ (call (Value.builtin "list.append") [Value.ref _, _]) _ _ _); (k_dflt (refine' append_K ?F7 ?N7 ?U7 ?_ ?z7; (case F7 => with_reducible assumption); (case N7 => with_reducible assumption); (case U7 => walk_at "mUpd"); (case z7 => (simp only [sizeLine_eq, List.size_toArray, List.length_append, List.length_cons, List.length_nil]; lia))); intro h' F' N'; (try simp only [List.push_toArray] at N')))) | ((with_reducible show wpAny _ _ (assign _ _ _) _ _ _); first | ((with_reducible show wpAny _ _ (assign (Expr.Tuple _ _ _) _ (Value.ref _)) _ _ _); ((refine' unpack37 ?F4 ?N4 ?m4 ?h4 ?n4 ?s4 ?_; (case F4 => with_reducible assumption); (case N4 => with_reducible assumption); (case m4 => walk_at "mMem"); (case h4 => exact rfl); (case n4 => exact rfl); (case s4 => exact rfl)); intro _ _ _)) | ((with_reducible show wpAny _ _ (assign (Expr.Tuple _ _ _) _ (Value.ref _)) _ _ _); ((refine' unpackB37 ?F5 ?N5 ?m5 ?h5 ?n5 ?s5 ?_; (case F5 => with_reducible assumption); (case N5 => with_reducible assumption); (case m5 => with_reducible assumption); (case h5 => exact rfl); (case n5 => exact rfl); (case s5 => exact rfl)); intro _ _ _))) | walk1 | (dsimp only; walk1))))
        exact hQ
      · clear Fz Nz
        ((repeat (with_reducible rename News _ _ _ _ => Nq; clear Nq)); (repeat (with_reducible rename Fr _ _ _ _ => Fq; clear Fq)); (repeat (with_reducible rename IsRange _ _ _ _ _ _ _ _ => Rq; clear Rq)))
        rintro i' j ys mc nx h4 tk4 C oC D I0 o0 I1 o1 tu v E' htu hv ma mb mcc ⟨rfl, hi', _, xs, hxs, hxw⟩ hns F4 N4 off4 offI ne4
        refine hideG ?_; intro Gh kGh
        obtain ⟨x, tv, hxj, rfl⟩ := hlvs.at hv
        refine kGh ?_; clear kGh Gh
        have hlj : (LW prs core i)[j]? = some (lst x) := by rw [← hlw, List.getElem?_map, hxj]; rfl
        have hx3 := hle5 x (List.mem_of_getElem? hxj)
        refine hideG ?_; intro Gh kGh
        obtain ⟨a, b, ta, tb, ea, eb, hab, ha, hb⟩ : ∃ (a b : Nat) (ta tb : Tok), tu.2.1 = .int (a : Int) ta ∧ tu.2.2 = .int (b : Int) tb ∧ prs[i']? = some (a, b) ∧ a < 256 ∧ b < 256 := by
          subst hprs
          match i', htu with
          | 0, htu =>
            obtain rfl := Option.some.inj htu
            exact ⟨p0, p1, v0, v1, rfl, rfl, rfl, (cs256 _ hp0).2, (cs256 _ hp1).2⟩
          | 1, htu =>
            obtain rfl := Option.some.inj htu
            exact ⟨p2, p3, v2, v3, rfl, rfl, rfl, (cs256 _ hp2).2, (cs256 _ hp3).2⟩
          | n + 2, htu => simp at htu
        refine kGh ?_; clear kGh Gh
        rw [ea] at ma
        rw [eb] at mb
        have hi2 : i' < 2 := by
          have := (List.getElem?_eq_some_iff.mp hab).1
          lia
        clear htu ea eb hv tu
        have hnext := WW_next hab hlj
        (repeat' (first | walk_at "mGo" | ((try with_reducible show wpAny _ _ _ _ _ _); (fail_if_success (walk_at "mSt")); first | ((with_reducible show wpAny _ _ (binaryOp Operator.Pow (Value.int 4 _) (Value.int _ _)) _ _ _); ((refine pow437 (by lia) (by lia) ?_; intro _ _ _))) | ((with_reducible show wpAny _ _ (subscriptTail _ _ _ _) _ _ _); first | ((with_reducible show wpAny _ _ (subscriptTail (Expr.Name (Str.ofString "codes") _) _ (Value.ref _) (Value.int _ _)) _ _ _); (refine' code37 ?N2 ?m2 ?v2 ?l2 ?_; (case N2 => with_reducible assumption); (case m2 => walk_at "mMem"); (case v2 => with_reducible assumption); (case l2 => with_reducible assumption)); intro _ _ _; (try dsimp only)) | ((with_reducible show wpAny _ _ (subscriptTail _ _ (Value.ref _) (Value.int _ _)) _ _ _); walk_at "subscriptTail")) | ((with_reducible show wpAny _ _ (call _ _) _ _ _); first | ((with_reducible show wpAny _ _ (call (Value.builtin "str.join") _) _ _ _); ((refine' join37 (News.isList ?N3 ?m3) ?S3 ?b3 ?n3 ?_; (case N3 => with_reducible assumption); (case m3 => exact .head _); (case S3 => first | exact (trivial : StrsAre [] []) | exact StrsAre.one _ _ | with_reducible assumption); (case b3 => first | with_reducible assumption | (intro a ha; cases ha; done) | (intro a ha; rw [List.mem_singleton.mp ha]; exact Nat.le_of_ble_eq_true rfl)); (case n3 => first | exact Nat.le_of_ble_eq_true rfl | lia)); intro _ _ _ _)) | ((with_reducible show wpAny _ _ (call (Value.builtin "chr") _) _ _ _); (refine chr_of_range (by lia) (by lia) ?_)) | ((with_reducible show wpAny _ _ (call (Value.builtin "list.append") [Value.ref _, _]) _ _ _); (k_dflt (refine' append_K ?F7 ?N7 ?U7 ?_ ?z7; (case F7 => with_reducible assumption); (case N7 => with_reducible assumption); (case U7 => walk_at "mUpd"); (case z7 => (simp only [sizeLine_eq, List.size_toArray, List.length_append, List.length_cons, List.length_nil]; lia))); intro h' F' N'; (try simp only [List.push_toArray] at N')))) | ((with_reducible show wpAny _ _ (assign _ _ _) _ _ _); first | ((with_reducible show wpAny _ _ (assign (Expr.Tuple _ _ _) _ (Value.ref _)) _ _ _); ((refine' unpack37 ?F4 ?N4 ?m4 ?h4 ?n4 ?s4 ?_; (case F4 => with_reducible assumption); (case N4 => with_reducible assumption); (case m4 => walk_at "mMem"); (case h4 => exact rfl); (case n4 => exact rfl); (case s4 => exact rfl)); intro _ _ _)) | ((with_reducible show wpAny _ _ (assign (Expr.Tuple _ _ _) _ (Value.ref _)) _ _ _); ((refine' unpackB37 ?F5 ?N5 ?m5 ?h5 ?n5 ?s5 ?_; (case F5 => with_reducible assumption); (case N5 => with_reducible assumption); (case m5 => with_reducible assumption); (case h5 => exact rfl); (case n5 => exact rfl); (case s5 => exact rfl)); intro _ _ _))) | walk1 | (dsimp only; walk1))))
        rename Fr _ _ _ _ => Fz
        rename News _ _ _ _ => Nz
        refine TurnEnd.intro Fz Nz _ (fun _ h => h) off4 ⟨_, rfl, offI, rfl, hi', fun _ => hi2, _, strs_snoc hxs, ?_⟩
        rw [List.map_append, hxw, hnext]
        congr 1
        simp only [List.map_cons, List.map_nil, lst_append]
        rfl
      · clear Fz Nz
        ((repeat (with_reducible rename News _ _ _ _ => Nq; clear Nq)); (repeat (with_reducible rename Fr _ _ _ _ => Fq; clear Fq)); (repeat (with_reducible rename IsRange _ _ _ _ _ _ _ _ => Rq; clear Rq)))
        rintro ys nx s₂ D h4 tk4 ⟨rfl, _, _, xs, hxs, hxw⟩ ⟨_, _, rfl⟩ F4 N4 off4
        simp only [List.forall_mem_cons] at off4
        refine hideG ?_; intro Gh kGh
        refine and12 off4 ?_; intro w1 w2 w3 w4 w5 w6 w7 w8 w9 w10 w11 _; clear off4
        refine kGh ?_; clear kGh Gh
        have hxw' : xs.map lst = LW prs core (i + 1) := by
          rw [hxw, ← WW_end (pairs := prs) (core := core) (i := i), hpl]
          rfl
        have hyl := hxs.length
        have hxl : xs.length = (LW prs core (i + 1)).length := by rw [← hxw', List.length_map]
        have hx1 := LW_pos (pairs := prs) (core := core) (by lia) (i + 1)
        have hx2 := LW_len (pairs := prs) (core := core) (by lia) (i + 1)
        have hx3 : 2 ^ (i + 1) ≤ 4 := by
          have : i = 0 ∨ i = 1 := by lia
          rcases this with rfl | rfl <;> decide
        have hnl := hnvs.length
        have hnl2 : nxs.length = (NW prs core i).length := by rw [← hnw, List.length_map]
        have hnl3 := NW_len (pairs := prs) (core := core) (by lia) i
        refine hideG ?_; intro Gh kGh
        obtain ⟨g1, g2⟩ := fP
        obtain ⟨g3, g4⟩ := fT1
        obtain ⟨g5, g6⟩ := fT2
        obtain ⟨g7, g8⟩ := fM
        obtain ⟨g9, g10⟩ := fLt
        obtain ⟨g11, g12⟩ := fR
        obtain ⟨g13, g14⟩ := fLy
        obtain ⟨g15, g16⟩ := fNS
        refine kGh ?_; clear kGh Gh
        (repeat' (first | walk_at "mGo" | ((try with_reducible show wpAny _ _ _ _ _ _); (fail_if_success (walk_at "mSt")); first | ((with_reducible show wpAny _ _ (binaryOp Operator.Pow (Value.int 4 _) (Value.int _ _)) _ _ _); ((refine pow437 (by lia) (by lia) ?_; intro _ _ _))) | ((with_reducible show wpAny _ _ (subscriptTail _ _ _ _) _ _ _); first | ((with_reducible show wpAny _ _ (subscriptTail (Expr.Name (Str.ofString "codes") _) _ (Value.ref _) (Value.int _ _)) _ _ _); (refine' code37 ?N2 ?m2 ?v2 ?l2 ?_; (case N2 => with_reducible assumption); (case m2 => walk_at "mMem"); (case v2 => with_reducible assumption); (case l2 => with_reducible assumption)); intro _ _ _; (try dsimp only)) | ((with_reducible show wpAny _ _ (subscriptTail _ _ (Value.ref _) (Value.int _ _)) _ _ _); walk_at "subscriptTail")) | ((with_reducible show wpAny _ _ (call _ _) _ _ _); first | ((with_reducible show wpAny _ _ (call (Value.builtin "str.join") _) _ _ _); ((refine' join37 (News.isList ?N3 ?m3) ?S3 ?b3 ?n3 ?_; (case N3 => with_reducible assumption); (case m3 => exact .head _); (case S3 => first | exact (trivial : StrsAre [] []) | exact StrsAre.one _ _ | with_reducible assumption); (case b3 => first | with_reducible assumption | (intro a ha; cases ha; done) | (intro a ha; rw [List.mem_singleton.mp ha]; exact Nat.le_of_ble_eq_true rfl)); (case n3 => first | exact Nat.le_of_ble_eq_true rfl | lia)); intro _ _ _ _)) | ((with_reducible show wpAny _ _ (call (Value.builtin "chr") _) _ _ _); (refine chr_of_range (by lia) (by lia) ?_)) | ((with_reducible show wpAny _ _ (call (Value.builtin "list.append") [Value.ref _, _]) _ _ _); (k_dflt (refine' append_K ?F7 ?N7 ?U7 ?_ ?z7; (case F7 => with_reducible assumption); (case N7 => with_reducible assumption); (case U7 => walk_at "mUpd"); (case z7 => (simp only [sizeLine_eq, List.size_toArray, List.length_append, List.length_cons, List.length_nil]; lia))); intro h' F' N'; (try simp only [List.push_toArray] at N')))) | ((with_reducible show wpAny _ _ (assign _ _ _) _ _ _); first | ((with_reducible show wpAny _ _ (assign (Expr.Tuple _ _ _) _ (Value.ref _)) _ _ _); ((refine' unpack37 ?F4 ?N4 ?m4 ?h4 ?n4 ?s4 ?_; (case F4 => with_reducible assumption); (case N4 => with_reducible assumption); (case m4 => walk_at "mMem"); (case h4 => exact rfl); (case n4 => exact rfl); (case s4 => exact rfl)); intro _ _ _)) | ((with_reducible show wpAny _ _ (assign (Expr.Tuple _ _ _) _ (Value.ref _)) _ _ _); ((refine' unpackB37 ?F5 ?N5 ?m5 ?h5 ?n5 ?s5 ?_; (case F5 => with_reducible assumption); (case N5 => with_reducible assumption); (case m5 => with_reducible assumption); (case h5 => exact rfl); (case n5 => exact rfl); (case s5 => exact rfl)); intro _ _ _))) | walk1 | (dsimp only; walk1))))
        rename Fr _ _ _ _ => Fz
        rename News _ _ _ _ => Nz
        refine ext37 Fz Nz (b := D) (ws2 := ys) (n2 := ys.length) (.head _) (by lia) (by walk_at "mUpd") (by lia) (by lia) ?_
        clear Fz Nz
        ((repeat (with_reducible rename News _ _ _ _ => Nq; clear Nq)); (repeat (with_reducible rename Fr _ _ _ _ => Fq; clear Fq)); (repeat (with_reducible rename IsRange _ _ _ _ _ _ _ _ => Rq; clear Rq)))
        intro h5 F5 N5
        rename Obj.data _ = Data.cell (some (Value.ref _)) => dz
        (repeat' (first | walk_at "mGo" | ((try with_reducible show wpAny _ _ _ _ _ _); (fail_if_success (walk_at "mSt")); first | ((with_reducible show wpAny _ _ (binaryOp Operator.Pow (Value.int 4 _) (Value.int _ _)) _ _ _); ((refine pow437 (by lia) (by lia) ?_; intro _ _ _))) | ((with_reducible show wpAny _ _ (subscriptTail _ _ _ _) _ _ _); first | ((with_reducible show wpAny _ _ (subscriptTail (Expr.Name (Str.ofString "codes") _) _ (Value.ref _) (Value.int _ _)) _ _ _); (refine' code37 ?N2 ?m2 ?v2 ?l2 ?_; (case N2 => with_reducible assumption); (case m2 => walk_at "mMem"); (case v2 => with_reducible assumption); (case l2 => with_reducible assumption)); intro _ _ _; (try dsimp only)) | ((with_reducible show wpAny _ _ (subscriptTail _ _ (Value.ref _) (Value.int _ _)) _ _ _); walk_at "subscriptTail")) | ((with_reducible show wpAny _ _ (call _ _) _ _ _); first | ((with_reducible show wpAny _ _ (call (Value.builtin "str.join") _) _ _ _); ((refine' join37 (News.isList ?N3 ?m3) ?S3 ?b3 ?n3 ?_; (case N3 => with_reducible assumption); (case m3 => exact .head _); (case S3 => first | exact (trivial : StrsAre [] []) | exact StrsAre.one _ _ | with_reducible assumption); (case b3 => first | with_reducible assumption | (intro a ha; cases ha; done) | (intro a ha; rw [List.mem_singleton.mp ha]; exact Nat.le_of_ble_eq_true rfl)); (case n3 => first | exact Nat.le_of_ble_eq_true rfl | lia)); intro _ _ _ _)) | ((with_reducible show wpAny _ _ (call (Value.builtin "chr") _) _ _ _); (refine chr_of_range (by lia) (by lia) ?_)) | ((with_reducible show wpAny _ _ (call (Value.builtin "list.append") [Value.ref _, _]) _ _ _); (k_dflt (refine' append_K ?F7 ?N7 ?U7 ?_ ?z7; (case F7 => with_reducible assumption); (case N7 => with_reducible assumption); (case U7 => walk_at "mUpd"); (case z7 => (simp only [sizeLine_eq, List.size_toArray, List.length_append, List.length_cons, List.length_nil]; lia))); intro h' F' N'; (try simp only [List.push_toArray] at N')))) | ((with_reducible show wpAny _ _ (assign _ _ _) _ _ _); first | ((with_reducible show wpAny _ _ (assign (Expr.Tuple _ _ _) _ (Value.ref _)) _ _ _); ((refine' unpack37 ?F4 ?N4 ?m4 ?h4 ?n4 ?s4 ?_; (case F4 => with_reducible assumption); (case N4 => with_reducible assumption); (case m4 => walk_at "mMem"); (case h4 => exact rfl); (case n4 => exact rfl); (case s4 => exact rfl)); intro _ _ _)) | ((with_reducible show wpAny _ _ (assign (Expr.Tuple _ _ _) _ (Value.ref _)) _ _ _); ((refine' unpackB37 ?F5 ?N5 ?m5 ?h5 ?n5 ?s5 ?_; (case F5 => with_reducible assumption); (case N5 => with_reducible assumption); (case m5 => with_reducible assumption); (case h5 => exact rfl); (case n5 => exact rfl); (case s5 => exact rfl)); intro _ _ _))) | walk1 | (dsimp only; walk1))))
        rename Fr _ _ _ _ => Fz
        rename News _ _ _ _ => Nz
        refine EndL.intro Fz (News.sub Nz (nx' := [(I, io), (L + 1 + 1 + 1 + 1 + 1, o5), (L + 1 + 1 + 1 + 1, _), (P, _), (T1, _), (T2, _), (M, _), (Lt, _), (R, _), (D, _), (NS, _)]) (by walk_at "mSub")) ?_
        refine ⟨_, rfl, ?_, _, D, ys, _, xs, _, _, nxs ++ xs, .cons rfl (.cons rfl (.cons rfl (.cons rfl (.cons rfl (.cons rfl .nil))))), rfl, dz, ⟨w2, w3⟩, Ne.symm w11, hxs, hxw', strs_app hnvs hxs, ?_⟩
        · simp only [List.forall_mem_cons]
          exact ⟨i1, i2, i3, i4, i5, i6, i7, i8, Ne.symm w1, i10, List.forall_mem_nil _⟩
        · rw [List.map_append, hnw, hxw']
          rfl
    · clear Fz Nz Rz
      ((repeat (with_reducible rename News _ _ _ _ => Nq; clear Nq)); (repeat (with_reducible rename Fr _ _ _ _ => Fq; clear Fq)); (repeat (with_reducible rename IsRange _ _ _ _ _ _ _ _ => Rq; clear Rq)))
      rintro m₁ nx h4 tk4 ⟨o4, Ly, lvs, e1, lxs, nvs, e2, nxs, hag, rfl, d4, fLy, nLy, hlvs, hlw, hnvs, hnw⟩ F4 N4
      (repeat' (first | walk_at "mGo" | ((try with_reducible show wpAny _ _ _ _ _ _); (fail_if_success (walk_at "mSt")); first | ((with_reducible show wpAny _ _ (binaryOp Operator.Pow (Value.int 4 _) (Value.int _ _)) _ _ _); ((refine pow437 (by lia) (by lia) ?_; intro _ _ _))) | ((with_reducible show wpAny _ _ (subscriptTail _ _ _ _) _ _ _); first | ((with_reducible show wpAny _ _ (subscriptTail (Expr.Name (Str.ofString "codes") _) _ (Value.ref _) (Value.int _ _)) _ _ _); (refine' code37 ?N2 ?m2 ?v2 ?l2 ?_; (case N2 => with_reducible assumption); (case m2 => walk_at "mMem"); (case v2 => with_reducible assumption); (case l2 => with_reducible assumption)); intro _ _ _; (try dsimp only)) | ((with_reducible show wpAny _ _ (subscriptTail _ _ (Value.ref _) (Value.int _ _)) _ _ _); walk_at "subscriptTail")) | ((with_reducible show wpAny _ _ (call _ _) _ _ _); first | ((with_reducible show wpAny _ _ (call (Value.builtin "str.join") _) _ _ _); ((refine' join37 (News.isList ?N3 ?m3) ?S3 ?b3 ?n3 ?_; (case N3 => with_reducible assumption); (case m3 => exact .head _); (case S3 => first | exact (trivial : StrsAre [] []) | exact StrsAre.one _ _ | with_reducible assumption); (case b3 => first | with_reducible assumption | (intro a ha; cases ha; done) | (intro a ha; rw [List.mem_singleton.mp ha]; exact Nat.le_of_ble_eq_true rfl)); (case n3 => first | exact Nat.le_of_ble_eq_true rfl | lia)); intro _ _ _ _)) | ((with_reducible show wpAny _ _ (call (Value.builtin "chr") _) _ _ _); (refine chr_of_range (by lia) (by lia) ?_)) | ((with_reducible show wpAny _ _ (call (Value.builtin "list.append") [Value.ref _, _]) _ _ _); (k_dflt (refine' append_K ?F7 ?N7 ?U7 ?_ ?z7; (case F7 => with_reducible assumption); (case N7 => with_reducible assumption); (case U7 => walk_at "mUpd"); (case z7 => (simp only [sizeLine_eq, List.size_toArray, List.length_append, List.length_cons, List.length_nil]; lia))); intro h' F' N'; (try simp only [List.push_toArray] at N')))) | ((with_reducible show wpAny _ _ (assign _ _ _) _ _ _); first | ((with_reducible show wpAny _ _ (assign (Expr.Tuple _ _ _) _ (Value.ref _)) _ _ _); ((refine' unpack37 ?F4 ?N4 ?m4 ?h4 ?n4 ?s4 ?_; (case F4 => with_reducible assumption); (case N4 => with_reducible assumption); (case m4 => walk_at "mMem"); (case h4 => exact rfl); (case n4 => exact rfl); (case s4 => exact rfl)); intro _ _ _)) | ((with_reducible show wpAny _ _ (assign (Expr.Tuple _ _ _) _ (Value.ref _)) _ _ _); ((refine' unpackB37 ?F5 ?N5 ?m5 ?h5 ?n5 ?s5 ?_; (case F5 => with_reducible assumption); (case N5 => with_reducible assumption); (case m5 => with_reducible assumption); (case h5 => exact rfl); (case n5 => exact rfl); (case s5 => exact rfl)); intro _ _ _))) | walk1 | (dsimp only; walk1))))
      rename Fr _ _ _ _ => Fz
      rename News _ _ _ _ => Nz
      refine EndL.intro Fz (News.sub Nz (nx' := [(L + 1 + 1 + 1 + 1 + 1, o5), (P, _), (T1, _), (T2, _), (M, _), (Lt, _), (R, _), (NS, _)]) (by walk_at "mSub")) ?_
      exact ⟨nvs, e2, nxs, hag, rfl, hnvs, hnw⟩
    --END
  clear F₉ N₉ d4 fLy nLy
  ((repeat (with_reducible rename News _ _ _ _ => Nq; clear Nq)); (repeat (with_reducible rename Fr _ _ _ _ => Fq; clear Fq)); (repeat (with_reducible rename IsRange _ _ _ _ _ _ _ _ => Rq; clear Rq)))
  rintro h₉ tk₉ m₉ nx F₉ N₉ ⟨nvs, e2, nxs, hag, rfl, hnvs, hnw⟩
  replace F₉ := hag.fr F₉
  clear hag
  show wpAny _ _ _ _ _ { s₁ with heap := h₉, toks := tk₉ }
  have hnl : nxs.length = (NW prs core 2).length := by rw [← hnw, List.length_map]
  have hnl2 := NW_len (pairs := prs) (core := core) (by lia) 2
  have hfin : ∀ x, x ∈ fin ↔ lst x ∈ NW prs core 2 := fun x => by rw [hmem x, words_NW, hprs]
  have hnx : ∀ x, x ∈ nxs ↔ lst x ∈ NW prs core 2 := by
    intro x
    rw [← hnw]
    constructor
    · exact fun h => List.mem_map_of_mem h
    · intro h
      obtain ⟨y, hy, e⟩ := List.mem_map.mp h
      exact lst_inj e ▸ hy
  have hdd : ∀ x, x ∈ ddS nxs ↔ x ∈ fin := fun x => by rw [hfin, ← hnx]; simp [ddS, mem_fold]
  have hprs2 : ∀ p ∈ prs, p.1 ∈ cs ∧ p.2 ∈ cs := by
    subst hprs
    intro p hp
    simp only [List.mem_cons, List.not_mem_nil, or_false] at hp
    rcases hp with rfl | rfl
    · exact ⟨hp0, hp1⟩
    · exact ⟨hp2, hp3⟩
  have hNcs : ∀ N, N ∈ NW prs core 2 → ∀ x ∈ N, x ∈ cs := by
    intro N hN
    obtain ⟨k, _, h⟩ := (NW_nest 2 N).mp hN
    exact h.all hprs2 hcin
  have hok : fin.all PyData.strOk = true := List.all_eq_true.mpr fun x hx => strOk_lst fun c hc => (cs256 c (hNcs _ ((hfin x).mp hx) c hc)).2
  have hd2 : 2 ≤ (ddS nxs).length := by
    have h1 : mkS core ∈ ddS nxs := by rw [hdd, hfin, lst_mkS, NW_nest]; exact ⟨0, by lia, .core⟩
    have h2 : mkS (wrapP (p0, p1) core) ∈ ddS nxs := by rw [hdd, hfin, lst_mkS, NW_nest]; exact ⟨1, by lia, .wrap (by subst hprs; exact .head _) .core⟩
    refine two_mem h1 h2 fun e => ?_
    have h3 := congrArg (fun x => (lst x).length) e
    simp [lst_mkS] at h3
    lia
  have hd64 : (ddS nxs).length < 64 := by
    have h1 := len_fold (xs := nxs) (σ := [])
    have h2 : (ddS nxs).length = (nxs.foldl stepS []).length := rfl
    simp only [List.length_nil] at h1
    lia
  have hdn : (ddS nxs).Nodup := nodup_fold List.nodup_nil
  refine cut1d (h₀ := s₁.heap) (L := L) (fun m nx => Agree m [("pairs", .ref P), ("middle", .ref M), ("letters", .ref Lt), ("text", .str tx tt), ("row", .ref R)] ∧ nx = [(L + 1 + 1 + 1 + 1 + 1, o5), (P, listOf [Value.ref T1, .ref T2].toArray 0), (T1, tupI p0 p1 v0 v1), (T2, tupI p2 p3 v2 v3), (M, listOf mv.toArray me), (Lt, listOf lv.toArray le), (R, listOf rv.toArray re)] ∧ fin.length < 64) ?_ ?_
  · --BEGIN
    k_fold
    (repeat' (first | walk_at "mGo" | ((try with_reducible show wpAny _ _ _ _ _ _); (fail_if_success (walk_at "mSt")); first | ((with_reducible show wpAny _ _ (binaryOp Operator.Pow (Value.int 4 _) (Value.int _ _)) _ _ _); ((refine pow437 (by lia) (by lia) ?_; intro _ _ _))) | ((with_reducible show wpAny _ _ (subscriptTail _ _ _ _) _ _ _); first | ((with_reducible show wpAny _ _ (subscriptTail (Expr.Name (Str.ofString "codes") _) _ (Value.ref _) (Value.int _ _)) _ _ _); (refine' code37 ?N2 ?m2 ?v2 ?l2 ?_; (case N2 => with_reducible assumption); (case m2 => walk_at "mMem"); (case v2 => with_reducible assumption); (case l2 => with_reducible assumption)); intro _ _ _; (try dsimp only)) | ((with_reducible show wpAny _ _ (subscriptTail _ _ (Value.ref _) (Value.int _ _)) _ _ _); walk_at "subscriptTail")) | ((with_reducible show wpAny _ _ (call _ _) _ _ _); first | ((with_reducible show wpAny _ _ (call (Value.builtin "str.join") _) _ _ _); ((refine' join37 (News.isList ?N3 ?m3) ?S3 ?b3 ?n3 ?_; (case N3 => with_reducible assumption); (case m3 => exact .head _); (case S3 => first | exact (trivial : StrsAre [] []) | exact StrsAre.one _ _ | with_reducible assumption); (case b3 => first | with_reducible assumption | (intro a ha; cases ha; done) | (intro a ha; rw [List.mem_singleton.mp ha]; exact Nat.le_of_ble_eq_true rfl)); (case n3 => first | exact Nat.le_of_ble_eq_true rfl | lia)); intro _ _ _ _)) | ((with_reducible show wpAny _ _ (call (Value.builtin "chr") _) _ _ _); (refine chr_of_range (by lia) (by lia) ?_)) | ((with_reducible show wpAny _ _ (call (Value.builtin "list.append") [Value.ref _, _]) _ _ _); (k_dflt (refine' append_K ?F7 ?N7 ?U7 ?_ ?z7; (case F7 => with_reducible assumption); (case N7 => with_reducible assumption); (case U7 => walk_at "mUpd"); (case z7 => (simp only [sizeLine_eq, List.size_toArray, List.length_append, List.length_cons, List.length_nil]; lia))); intro h' F' N'; (try simp only [List.push_toArray] at N')))) | ((with_reducible show wpAny _ _ (assign _ _ _) _ _ _); first | ((with_reducible show wpAny _ _ (assign (Expr.Tuple _ _ _) _ (Value.ref _)) _ _ _); ((refine' unpack37 ?F4 ?N4 ?m4 ?h4 ?n4 ?s4 ?_; (case F4 => with_reducible assumption); (case N4 => with_reducible assumption); (case m4 => walk_at "mMem"); (case h4 => exact rfl); (case n4 => exact rfl); (case s4 => exact rfl)); intro _ _ _)) | ((with_reducible show wpAny _ _ (assign (Expr.Tuple _ _ _) _ (Value.ref _)) _ _ _); ((refine' unpackB37 ?F5 ?N5 ?m5 ?h5 ?n5 ?s5 ?_; (case F5 => with_reducible assumption); (case N5 => with_reducible assumption); (case m5 => with_reducible assumption); (case h5 => exact rfl); (case n5 => exact rfl); (case s5 => exact rfl)); intro _ _ _))) | walk1 | (dsimp only; walk1))))
    rename Fr _ _ _ _ => Fz
    rename News _ _ _ _ => Nz
    refine newSet37 rfl Fz Nz (by walk_at "mMem") hnvs (by lia) ?_
    clear Fz Nz
    ((repeat (with_reducible rename News _ _ _ _ => Nq; clear Nq)); (repeat (with_reducible rename Fr _ _ _ _ => Fq; clear Fq)); (repeat (with_reducible rename IsRange _ _ _ _ _ _ _ _ => Rq; clear Rq)))
    intro Sa h4 tk4 F4 N4 hSa
    (repeat' (first | walk_at "mGo" | ((try with_reducible show wpAny _ _ _ _ _ _); (fail_if_success (walk_at "mSt")); first | ((with_reducible show wpAny _ _ (binaryOp Operator.Pow (Value.int 4 _) (Value.int _ _)) _ _ _); ((refine pow437 (by lia) (by lia) ?_; intro _ _ _))) | ((with_reducible show wpAny _ _ (subscriptTail _ _ _ _) _ _ _); first | ((with_reducible show wpAny _ _ (subscriptTail (Expr.Name (Str.ofString "codes") _) _ (Value.ref _) (Value.int _ _)) _ _ _); (refine' code37 ?N2 ?m2 ?v2 ?l2 ?_; (case N2 => with_reducible assumption); (case m2 => walk_at "mMem"); (case v2 => with_reducible assumption); (case l2 => with_reducible assumption)); intro _ _ _; (try dsimp only)) | ((with_reducible show wpAny _ _ (subscriptTail _ _ (Value.ref _) (Value.int _ _)) _ _ _); walk_at "subscriptTail")) | ((with_reducible show wpAny _ _ (call _ _) _ _ _); first | ((with_reducible show wpAny _ _ (call (Value.builtin "str.join") _) _ _ _); ((refine' join37 (News.isList ?N3 ?m3) ?S3 ?b3 ?n3 ?_; (case N3 => with_reducible assumption); (case m3 => exact .head _); (case S3 => first | exact (trivial : StrsAre [] []) | exact StrsAre.one _ _ | with_reducible assumption); (case b3 => first | with_reducible assumption | (intro a ha; cases ha; done) | (intro a ha; rw [List.mem_singleton.mp ha]; exact Nat.le_of_ble_eq_true rfl)); (case n3 => first | exact Nat.le_of_ble_eq_true rfl | lia)); intro _ _ _ _)) | ((with_reducible show wpAny _ _ (call (Value.builtin "chr") _) _ _ _); (refine chr_of_range (by lia) (by lia) ?_)) | ((with_reducible show wpAny _ _ (call (Value.builtin "list.append") [Value.ref _, _]) _ _ _); (k_dflt (refine' append_K ?F7 ?N7 ?U7 ?_ ?z7; (case F7 => with_reducible assumption); (case N7 => with_reducible assumption); (case U7 => walk_at "mUpd"); (case z7 => (simp only [sizeLine_eq, List.size_toArray, List.length_append, List.length_cons, List.length_nil]; lia))); intro h' F' N'; (try simp only [List.push_toArray] at N')))) | ((with_reducible show wpAny _ _ (assign _ _ _) _ _ _); first | ((with_reducible show wpAny _ _ (assign (Expr.Tuple _ _ _) _ (Value.ref _)) _ _ _); ((refine' unpack37 ?F4 ?N4 ?m4 ?h4 ?n4 ?s4 ?_; (case F4 => with_reducible assumption); (case N4 => with_reducible assumption); (case m4 => walk_at "mMem"); (case h4 => exact rfl); (case n4 => exact rfl); (case s4 => exact rfl)); intro _ _ _)) | ((with_reducible show wpAny _ _ (assign (Expr.Tuple _ _ _) _ (Value.ref _)) _ _ _); ((refine' unpackB37 ?F5 ?N5 ?m5 ?h5 ?n5 ?s5 ?_; (case F5 => with_reducible assumption); (case N5 => with_reducible assumption); (case m5 => with_reducible assumption); (case h5 => exact rfl); (case n5 => exact rfl); (case s5 => exact rfl)); intro _ _ _))) | walk1 | (dsimp only; walk1))))
    rename Fr _ _ _ _ => Fz
    rename News _ _ _ _ => Nz
    refine sortedSet37 rfl Fz Nz hSa hd2 hd64 hdn ?_
    clear Fz Nz
    ((repeat (with_reducible rename News _ _ _ _ => Nq; clear Nq)); (repeat (with_reducible rename Fr _ _ _ _ => Fq; clear Fq)); (repeat (with_reducible rename IsRange _ _ _ _ _ _ _ _ => Rq; clear Rq)))
    intro D h5 tk5 dr vs5 zs e5 F5 N5 hz hzm hzs hzl
    obtain rfl : zs = fin := srt_ext hzs hsrt fun x => (hzm x).trans (hdd x)
    (repeat' (first | walk_at "mGo" | ((try with_reducible show wpAny _ _ _ _ _ _); (fail_if_success (walk_at "mSt")); first | ((with_reducible show wpAny _ _ (binaryOp Operator.Pow (Value.int 4 _) (Value.int _ _)) _ _ _); ((refine pow437 (by lia) (by lia) ?_; intro _ _ _))) | ((with_reducible show wpAny _ _ (subscriptTail _ _ _ _) _ _ _); first | ((with_reducible show wpAny _ _ (subscriptTail (Expr.Name (Str.ofString "codes") _) _ (Value.ref _) (Value.int _ _)) _ _ _); (refine' code37 ?N2 ?m2 ?v2 ?l2 ?_; (case N2 => with_reducible assumption); (case m2 => walk_at "mMem"); (case v2 => with_reducible assumption); (case l2 => with_reducible assumption)); intro _ _ _; (try dsimp only)) | ((with_reducible show wpAny _ _ (subscriptTail _ _ (Value.ref _) (Value.int _ _)) _ _ _); walk_at "subscriptTail")) | ((with_reducible show wpAny _ _ (call _ _) _ _ _); first | ((with_reducible show wpAny _ _ (call (Value.builtin "str.join") _) _ _ _); ((refine' join37 (News.isList ?N3 ?m3) ?S3 ?b3 ?n3 ?_; (case N3 => with_reducible assumption); (case m3 => exact .head _); (case S3 => first | exact (trivial : StrsAre [] []) | exact StrsAre.one _ _ | with_reducible assumption); (case b3 => first | with_reducible assumption | (intro a ha; cases ha; done) | (intro a ha; rw [List.mem_singleton.mp ha]; exact Nat.le_of_ble_eq_true rfl)); (case n3 => first | exact Nat.le_of_ble_eq_true rfl | lia)); intro _ _ _ _)) | ((with_reducible show wpAny _ _ (call (Value.builtin "chr") _) _ _ _); (refine chr_of_range (by lia) (by lia) ?_)) | ((with_reducible show wpAny _ _ (call (Value.builtin "list.append") [Value.ref _, _]) _ _ _); (k_dflt (refine' append_K ?F7 ?N7 ?U7 ?_ ?z7; (case F7 => with_reducible assumption); (case N7 => with_reducible assumption); (case U7 => walk_at "mUpd"); (case z7 => (simp only [sizeLine_eq, List.size_toArray, List.length_append, List.length_cons, List.length_nil]; lia))); intro h' F' N'; (try simp only [List.push_toArray] at N')))) | ((with_reducible show wpAny _ _ (assign _ _ _) _ _ _); first | ((with_reducible show wpAny _ _ (assign (Expr.Tuple _ _ _) _ (Value.ref _)) _ _ _); ((refine' unpack37 ?F4 ?N4 ?m4 ?h4 ?n4 ?s4 ?_; (case F4 => with_reducible assumption); (case N4 => with_reducible assumption); (case m4 => walk_at "mMem"); (case h4 => exact rfl); (case n4 => exact rfl); (case s4 => exact rfl)); intro _ _ _)) | ((with_reducible show wpAny _ _ (assign (Expr.Tuple _ _ _) _ (Value.ref _)) _ _ _); ((refine' unpackB37 ?F5 ?N5 ?m5 ?h5 ?n5 ?s5 ?_; (case F5 => with_reducible assumption); (case N5 => with_reducible assumption); (case m5 => with_reducible assumption); (case h5 => exact rfl); (case n5 => exact rfl); (case s5 => exact rfl)); intro _ _ _))) | walk1 | (dsimp only; walk1))))
    rename Fr _ _ _ _ => Fz
    rename News _ _ _ _ => Nz
    refine ne_strs37 (News.isList Nz (by walk_at "mMem")) (News.isList Nz (by walk_at "mMem")) hrv hz hok hok (by ktr_units) ?_
    simp only [decide_true, Bool.not_true]
    (repeat' (first | walk_at "mGo" | ((try with_reducible show wpAny _ _ _ _ _ _); (fail_if_success (walk_at "mSt")); first | ((with_reducible show wpAny _ _ (binaryOp Operator.Pow (Value.int 4 _) (Value.int _ _)) _ _ _); ((refine pow437 (by lia) (by lia) ?_; intro _ _ _))) | ((with_reducible show wpAny _ _ (subscriptTail _ _ _ _) _ _ _); first | ((with_reducible show wpAny _ _ (subscriptTail (Expr.Name (Str.ofString "codes") _) _ (Value.ref _) (Value.int _ _)) _ _ _); (refine' code37 ?N2 ?m2 ?v2 ?l2 ?_; (case N2 => with_reducible assumption); (case m2 => walk_at "mMem"); (case v2 => with_reducible assumption); (case l2 => with_reducible assumption)); intro _ _ _; (try dsimp only)) | ((with_reducible show wpAny _ _ (subscriptTail _ _ (Value.ref _) (Value.int _ _)) _ _ _); walk_at "subscriptTail")) | ((with_reducible show wpAny _ _ (call _ _) _ _ _); first | ((with_reducible show wpAny _ _ (call (Value.builtin "str.join") _) _ _ _); ((refine' join37 (News.isList ?N3 ?m3) ?S3 ?b3 ?n3 ?_; (case N3 => with_reducible assumption); (case m3 => exact .head _); (case S3 => first | exact (trivial : StrsAre [] []) | exact StrsAre.one _ _ | with_reducible assumption); (case b3 => first | with_reducible assumption | (intro a ha; cases ha; done) | (intro a ha; rw [List.mem_singleton.mp ha]; exact Nat.le_of_ble_eq_true rfl)); (case n3 => first | exact Nat.le_of_ble_eq_true rfl | lia)); intro _ _ _ _)) | ((with_reducible show wpAny _ _ (call (Value.builtin "chr") _) _ _ _); (refine chr_of_range (by lia) (by lia) ?_)) | ((with_reducible show wpAny _ _ (call (Value.builtin "list.append") [Value.ref _, _]) _ _ _); (k_dflt (refine' append_K ?F7 ?N7 ?U7 ?_ ?z7; (case F7 => with_reducible assumption); (case N7 => with_reducible assumption); (case U7 => walk_at "mUpd"); (case z7 => (simp only [sizeLine_eq, List.size_toArray, List.length_append, List.length_cons, List.length_nil]; lia))); intro h' F' N'; (try simp only [List.push_toArray] at N')))) | ((with_reducible show wpAny _ _ (assign _ _ _) _ _ _); first | ((with_reducible show wpAny _ _ (assign (Expr.Tuple _ _ _) _ (Value.ref _)) _ _ _); ((refine' unpack37 ?F4 ?N4 ?m4 ?h4 ?n4 ?s4 ?_; (case F4 => with_reducible assumption); (case N4 => with_reducible assumption); (case m4 => walk_at "mMem"); (case h4 => exact rfl); (case n4 => exact rfl); (case s4 => exact rfl)); intro _ _ _)) | ((with_reducible show wpAny _ _ (assign (Expr.Tuple _ _ _) _ (Value.ref _)) _ _ _); ((refine' unpackB37 ?F5 ?N5 ?m5 ?h5 ?n5 ?s5 ?_; (case F5 => with_reducible assumption); (case N5 => with_reducible assumption); (case m5 => with_reducible assumption); (case h5 => exact rfl); (case n5 => exact rfl); (case s5 => exact rfl)); intro _ _ _))) | walk1 | (dsimp only; walk1))))
    rename Fr _ _ _ _ => Fy
    rename News _ _ _ _ => Ny
    refine EndD.intro Fy (News.sub Ny (nx' := [(L + 1 + 1 + 1 + 1 + 1, o5), (P, _), (T1, _), (T2, _), (M, _), (Lt, _), (R, _)]) (by walk_at "mSub")) ?_
    exact ⟨.cons rfl (.cons rfl (.cons rfl (.cons rfl (.cons rfl .nil)))), rfl, hzl⟩
    --END
  clear F₉ N₉
  ((repeat (with_reducible rename News _ _ _ _ => Nq; clear Nq)); (repeat (with_reducible rename Fr _ _ _ _ => Fq; clear Fq)); (repeat (with_reducible rename IsRange _ _ _ _ _ _ _ _ => Rq; clear Rq)))
  rintro h₉ tk₉ dr m₉ nx F₉ N₉ ⟨hag, rfl, hf64⟩
  replace F₉ := hag.fr F₉
  clear hag
  show wpAny _ _ _ _ _ { s₁ with heap := h₉, toks := tk₉, drawn := dr }
  generalize hcell : cellG cst prs core letters letters.length 0 = res
  have htold : Told cst prs core letters res := by
    have h1 := (told_tab (c := cst) (pairs := prs) (core := core) hcl1 letters.length).1 letters rfl
    rw [← hcell]
    show Told cst prs core letters ((tab cst prs core letters.length).1 ((letters.drop 0).take letters.length))
    rw [List.drop_zero, List.take_length]
    exact h1
  have hnd2 : res.2.Nodup := by rw [← hcell]; exact nodup_tab _ _
  have hprice : res.1 ≤ 12 := by
    obtain ⟨h1, _⟩ := htold.low core 0 (2 * letters.length + 2 * core.length) .core (by simpa using (Al.all_del (c := cst) letters).append (Al.all_ins core))
    lia
  try walk_at "mGo"
  refine cut1 (h₀ := s₁.heap) (L := L) (LawJ12 L R re rv tt tx res) ?_ ?_
  · --BEGIN
    k_fold
    (repeat' (first | walk_at "mGo" | ((try with_reducible show wpAny _ _ _ _ _ _); (fail_if_success (walk_at "mSt")); first | ((with_reducible show wpAny _ _ (binaryOp Operator.Pow (Value.int 4 _) (Value.int _ _)) _ _ _); ((refine pow437 (by lia) (by lia) ?_; intro _ _ _))) | ((with_reducible show wpAny _ _ (subscriptTail _ _ _ _) _ _ _); first | ((with_reducible show wpAny _ _ (subscriptTail (Expr.Name (Str.ofString "codes") _) _ (Value.ref _) (Value.int _ _)) _ _ _); (refine' code37 ?N2 ?m2 ?v2 ?l2 ?_; (case N2 => with_reducible assumption); (case m2 => walk_at "mMem"); (case v2 => with_reducible assumption); (case l2 => with_reducible assumption)); intro _ _ _; (try dsimp only)) | ((with_reducible show wpAny _ _ (subscriptTail _ _ (Value.ref _) (Value.int _ _)) _ _ _); walk_at "subscriptTail")) | ((with_reducible show wpAny _ _ (call _ _) _ _ _); first | ((with_reducible show wpAny _ _ (call (Value.builtin "str.join") _) _ _ _); ((refine' join37 (News.isList ?N3 ?m3) ?S3 ?b3 ?n3 ?_; (case N3 => with_reducible assumption); (case m3 => exact .head _); (case S3 => first | exact (trivial : StrsAre [] []) | exact StrsAre.one _ _ | with_reducible assumption); (case b3 => first | with_reducible assumption | (intro a ha; cases ha; done) | (intro a ha; rw [List.mem_singleton.mp ha]; exact Nat.le_of_ble_eq_true rfl)); (case n3 => first | exact Nat.le_of_ble_eq_true rfl | lia)); intro _ _ _ _)) | ((with_reducible show wpAny _ _ (call (Value.builtin "chr") _) _ _ _); (refine chr_of_range (by lia) (by lia) ?_)) | ((with_reducible show wpAny _ _ (call (Value.builtin "list.append") [Value.ref _, _]) _ _ _); (k_dflt (refine' append_K ?F7 ?N7 ?U7 ?_ ?z7; (case F7 => with_reducible assumption); (case N7 => with_reducible assumption); (case U7 => walk_at "mUpd"); (case z7 => (simp only [sizeLine_eq, List.size_toArray, List.length_append, List.length_cons, List.length_nil]; lia))); intro h' F' N'; (try simp only [List.push_toArray] at N')))) | ((with_reducible show wpAny _ _ (assign _ _ _) _ _ _); first | ((with_reducible show wpAny _ _ (assign (Expr.Tuple _ _ _) _ (Value.ref _)) _ _ _); ((refine' unpack37 ?F4 ?N4 ?m4 ?h4 ?n4 ?s4 ?_; (case F4 => with_reducible assumption); (case N4 => with_reducible assumption); (case m4 => walk_at "mMem"); (case h4 => exact rfl); (case n4 => exact rfl); (case s4 => exact rfl)); intro _ _ _)) | ((with_reducible show wpAny _ _ (assign (Expr.Tuple _ _ _) _ (Value.ref _)) _ _ _); ((refine' unpackB37 ?F5 ?N5 ?m5 ?h5 ?n5 ?s5 ?_; (case F5 => with_reducible assumption); (case N5 => with_reducible assumption); (case m5 => with_reducible assumption); (case h5 => exact rfl); (case n5 => exact rfl); (case s5 => exact rfl)); intro _ _ _))) | walk1 | (dsimp only; walk1))))
    rename Fr _ _ _ _ => Fz
    rename News _ _ _ _ => Nz
    k_dflt (refine' use37 (f := 77) (nearest_contract _ w Lt P M T1 T2 lv mv le 0 me letters core p0 p1 p2 p3 v0 v1 v2 v3 hlv hmv hl1 hl5 (fun x hx => (l256 x hx).2) hcl1 (fun x hx => (m256 x hx).2) (cs256 _ hp0).2 (cs256 _ hp1).2 (cs256 _ hp2).2 (cs256 _ hp3).2) B₁ Fz X₁ Nz T₁ ?kK ?kd ?ku ⟨?g1, ?g2, ?g3, ?g4, ?g5⟩ ?_)
    case kK => exact rfl
    case kd => first | lia | ktr_room
    case ku => first | lia | ktr_units
    case g1 => exact (Nz (Lt, listOf lv.toArray le) (by walk_at "mMem")).1
    case g2 => exact (Nz (P, listOf [Value.ref T1, .ref T2].toArray 0) (by walk_at "mMem")).1
    case g3 => exact (Nz (M, listOf mv.toArray me) (by walk_at "mMem")).1
    case g4 => exact (Nz (T1, tupI p0 p1 v0 v1) (by walk_at "mMem")).1
    case g5 => exact (Nz (T2, tupI p2 p3 v2 v3) (by walk_at "mMem")).1
    rw [hprs, hcell]
    clear Fz Nz
    ((repeat (with_reducible rename News _ _ _ _ => Nq; clear Nq)); (repeat (with_reducible rename Fr _ _ _ _ => Fq; clear Fq)); (repeat (with_reducible rename IsRange _ _ _ _ _ _ _ _ => Rq; clear Rq)))
    rintro r' new' h' tk' ⟨T, Nn, tp, nvs, ne, near, rfl, rfl, hnv, hnear⟩ hne F' N'
    simp only [List.cons_append, List.nil_append] at N'
    have hn1 := hne _ (.head _) (L + 1 + 1 + 1 + 1 + 1, o5) (by walk_at "mMem")
    have hn2 := hne _ (.tail _ (.head _)) (L + 1 + 1 + 1 + 1 + 1, o5) (by walk_at "mMem")
    dsimp only at hn1 hn2
    clear hne
    refine hideG ?_; intro Gh kGh
    obtain ⟨v5, d5⟩ := d5
    obtain ⟨g1, g2⟩ := fP
    obtain ⟨g3, g4⟩ := fT1
    obtain ⟨g5, g6⟩ := fT2
    obtain ⟨g7, g8⟩ := fM
    obtain ⟨g9, g10⟩ := fLt
    obtain ⟨g11, g12⟩ := fR
    refine kGh ?_; clear kGh Gh
    (repeat' (first | walk_at "mGo" | ((try with_reducible show wpAny _ _ _ _ _ _); (fail_if_success (walk_at "mSt")); first | ((with_reducible show wpAny _ _ (binaryOp Operator.Pow (Value.int 4 _) (Value.int _ _)) _ _ _); ((refine pow437 (by lia) (by lia) ?_; intro _ _ _))) | ((with_reducible show wpAny _ _ (subscriptTail _ _ _ _) _ _ _); first | ((with_reducible show wpAny _ _ (subscriptTail (Expr.Name (Str.ofString "codes") _) _ (Value.ref _) (Value.int _ _)) _ _ _); (refine' code37 ?N2 ?m2 ?v2 ?l2 ?_; (case N2 => with_reducible assumption); (case m2 => walk_at "mMem"); (case v2 => with_reducible assumption); (case l2 => with_reducible assumption)); intro _ _ _; (try dsimp only)) | ((with_reducible show wpAny _ _ (subscriptTail _ _ (Value.ref _) (Value.int _ _)) _ _ _); walk_at "subscriptTail")) | ((with_reducible show wpAny _ _ (call _ _) _ _ _); first | ((with_reducible show wpAny _ _ (call (Value.builtin "str.join") _) _ _ _); ((refine' join37 (News.isList ?N3 ?m3) ?S3 ?b3 ?n3 ?_; (case N3 => with_reducible assumption); (case m3 => exact .head _); (case S3 => first | exact (trivial : StrsAre [] []) | exact StrsAre.one _ _ | with_reducible assumption); (case b3 => first | with_reducible assumption | (intro a ha; cases ha; done) | (intro a ha; rw [List.mem_singleton.mp ha]; exact Nat.le_of_ble_eq_true rfl)); (case n3 => first | exact Nat.le_of_ble_eq_true rfl | lia)); intro _ _ _ _)) | ((with_reducible show wpAny _ _ (call (Value.builtin "chr") _) _ _ _); (refine chr_of_range (by lia) (by lia) ?_)) | ((with_reducible show wpAny _ _ (call (Value.builtin "list.append") [Value.ref _, _]) _ _ _); (k_dflt (refine' append_K ?F7 ?N7 ?U7 ?_ ?z7; (case F7 => with_reducible assumption); (case N7 => with_reducible assumption); (case U7 => walk_at "mUpd"); (case z7 => (simp only [sizeLine_eq, List.size_toArray, List.length_append, List.length_cons, List.length_nil]; lia))); intro h' F' N'; (try simp only [List.push_toArray] at N')))) | ((with_reducible show wpAny _ _ (assign _ _ _) _ _ _); first | ((with_reducible show wpAny _ _ (assign (Expr.Tuple _ _ _) _ (Value.ref _)) _ _ _); ((refine' unpack37 ?F4 ?N4 ?m4 ?h4 ?n4 ?s4 ?_; (case F4 => with_reducible assumption); (case N4 => with_reducible assumption); (case m4 => walk_at "mMem"); (case h4 => exact rfl); (case n4 => exact rfl); (case s4 => exact rfl)); intro _ _ _)) | ((with_reducible show wpAny _ _ (assign (Expr.Tuple _ _ _) _ (Value.ref _)) _ _ _); ((refine' unpackB37 ?F5 ?N5 ?m5 ?h5 ?n5 ?s5 ?_; (case F5 => with_reducible assumption); (case N5 => with_reducible assumption); (case m5 => with_reducible assumption); (case h5 => exact rfl); (case n5 => exact rfl); (case s5 => exact rfl)); intro _ _ _))) | walk1 | (dsimp only; walk1))))
    rename Obj.data _ = Data.cell (some (Value.int _ _)) => dz
    rename Fr _ _ _ _ => Fz
    rename News _ _ _ _ => Nz
    refine EndL.intro Fz (News.sub Nz (nx' := [(L + 1 + 1 + 1 + 1 + 1, _), (R, _), (Nn, _)]) (by walk_at "mSub")) ?_
    exact ⟨_, tp, Nn, nvs, ne, near, .cons rfl (.cons rfl (.cons rfl .nil)), rfl, dz, hnv, hnear, hn2⟩
    --END
  clear F₉ N₉ d5
  ((repeat (with_reducible rename News _ _ _ _ => Nq; clear Nq)); (repeat (with_reducible rename Fr _ _ _ _ => Fq; clear Fq)); (repeat (with_reducible rename IsRange _ _ _ _ _ _ _ _ => Rq; clear Rq)))
  rintro h₁₀ tk₁₀ m₁₀ nx F₁₀ N₁₀ ⟨o5, tp, Nn, nvs, ne, near, hag, rfl, d5, hnv, hnear, nNn⟩
  replace F₁₀ := hag.fr F₁₀
  clear hag
  show wpAny _ _ _ _ _ { s₁ with heap := h₁₀, toks := tk₁₀, drawn := dr }
  have htxl : tx.length ≤ 40 := by rw [← lst_length, htx]; lia
  have hrl := hrv.length
  have hfn : ∀ x ∈ fin, x.length ≤ 5 := by
    intro x hx
    obtain ⟨k, hk, h⟩ := (NW_nest 2 _).mp ((hfin x).mp hx)
    have := h.length
    rw [lst_length] at this
    lia
  have hlaw : ∀ x ∈ fin, ∀ z : Int, LevOk tx x (res.1 : Int) z → (z ≤ (res.1 : Int) ↔ lst x ∈ res.2) ∧ (z ≤ (res.1 : Int) → z = (res.1 : Int)) := by
    rintro x hx z ⟨n, hd, hz⟩
    have hxN := (hfin x).mp hx
    obtain ⟨k, hk, hN⟩ := (NW_nest 2 _).mp hxN
    rw [htx] at hd
    refine turn_law htold hN hk (fun a ha b hb => ?_) hd hz
    have h1 := hlin a ha
    have h2 := hNcs _ hxN b hb
    rw [← hcs] at h1 h2
    exact cc_cst hf hg h1 h2
  try walk_at "mGo"
  refine cut2 (h₀ := s₁.heap) (L := L) (LawJ13 L Nn ne o5 nvs res fin) ?_ ?_
  · --BEGIN
    k_fold
    (repeat' (first | walk_at "mGo" | ((try with_reducible show wpAny _ _ _ _ _ _); (fail_if_success (walk_at "mSt")); first | ((with_reducible show wpAny _ _ (binaryOp Operator.Pow (Value.int 4 _) (Value.int _ _)) _ _ _); ((refine pow437 (by lia) (by lia) ?_; intro _ _ _))) | ((with_reducible show wpAny _ _ (subscriptTail _ _ _ _) _ _ _); first | ((with_reducible show wpAny _ _ (subscriptTail (Expr.Name (Str.ofString "codes") _) _ (Value.ref _) (Value.int _ _)) _ _ _); (refine' code37 ?N2 ?m2 ?v2 ?l2 ?_; (case N2 => with_reducible assumption); (case m2 => walk_at "mMem"); (case v2 => with_reducible assumption); (case l2 => with_reducible assumption)); intro _ _ _; (try dsimp only)) | ((with_reducible show wpAny _ _ (subscriptTail _ _ (Value.ref _) (Value.int _ _)) _ _ _); walk_at "subscriptTail")) | ((with_reducible show wpAny _ _ (call _ _) _ _ _); first | ((with_reducible show wpAny _ _ (call (Value.builtin "str.join") _) _ _ _); ((refine' join37 (News.isList ?N3 ?m3) ?S3 ?b3 ?n3 ?_; (case N3 => with_reducible assumption); (case m3 => exact .head _); (case S3 => first | exact (trivial : StrsAre [] []) | exact StrsAre.one _ _ | with_reducible assumption); (case b3 => first | with_reducible assumption | (intro a ha; cases ha; done) | (intro a ha; rw [List.mem_singleton.mp ha]; exact Nat.le_of_ble_eq_true rfl)); (case n3 => first | exact Nat.le_of_ble_eq_true rfl | lia)); intro _ _ _ _)) | ((with_reducible show wpAny _ _ (call (Value.builtin "chr") _) _ _ _); (refine chr_of_range (by lia) (by lia) ?_)) | ((with_reducible show wpAny _ _ (call (Value.builtin "list.append") [Value.ref _, _]) _ _ _); (k_dflt (refine' append_K ?F7 ?N7 ?U7 ?_ ?z7; (case F7 => with_reducible assumption); (case N7 => with_reducible assumption); (case U7 => walk_at "mUpd"); (case z7 => (simp only [sizeLine_eq, List.size_toArray, List.length_append, List.length_cons, List.length_nil]; lia))); intro h' F' N'; (try simp only [List.push_toArray] at N')))) | ((with_reducible show wpAny _ _ (assign _ _ _) _ _ _); first | ((with_reducible show wpAny _ _ (assign (Expr.Tuple _ _ _) _ (Value.ref _)) _ _ _); ((refine' unpack37 ?F4 ?N4 ?m4 ?h4 ?n4 ?s4 ?_; (case F4 => with_reducible assumption); (case N4 => with_reducible assumption); (case m4 => walk_at "mMem"); (case h4 => exact rfl); (case n4 => exact rfl); (case s4 => exact rfl)); intro _ _ _)) | ((with_reducible show wpAny _ _ (assign (Expr.Tuple _ _ _) _ (Value.ref _)) _ _ _); ((refine' unpackB37 ?F5 ?N5 ?m5 ?h5 ?n5 ?s5 ?_; (case F5 => with_reducible assumption); (case N5 => with_reducible assumption); (case m5 => with_reducible assumption); (case h5 => exact rfl); (case n5 => exact rfl); (case s5 => exact rfl)); intro _ _ _))) | walk1 | (dsimp only; walk1))))
    try walk_at "mGo"
    refine for_start ?_
    (repeat' (first | walk_at "mGo" | ((try with_reducible show wpAny _ _ _ _ _ _); (fail_if_success (walk_at "mSt")); first | ((with_reducible show wpAny _ _ (binaryOp Operator.Pow (Value.int 4 _) (Value.int _ _)) _ _ _); ((refine pow437 (by lia) (by lia) ?_; intro _ _ _))) | ((with_reducible show wpAny _ _ (subscriptTail _ _ _ _) _ _ _); first | ((with_reducible show wpAny _ _ (subscriptTail (Expr.Name (Str.ofString "codes") _) _ (Value.ref _) (Value.int _ _)) _ _ _); (refine' code37 ?N2 ?m2 ?v2 ?l2 ?_; (case N2 => with_reducible assumption); (case m2 => walk_at "mMem"); (case v2 => with_reducible assumption); (case l2 => with_reducible assumption)); intro _ _ _; (try dsimp only)) | ((with_reducible show wpAny _ _ (subscriptTail _ _ (Value.ref _) (Value.int _ _)) _ _ _); walk_at "subscriptTail")) | ((with_reducible show wpAny _ _ (call _ _) _ _ _); first | ((with_reducible show wpAny _ _ (call (Value.builtin "str.join") _) _ _ _); ((refine' join37 (News.isList ?N3 ?m3) ?S3 ?b3 ?n3 ?_; (case N3 => with_reducible assumption); (case m3 => exact .head _); (case S3 => first | exact (trivial : StrsAre [] []) | exact StrsAre.one _ _ | with_reducible assumption); (case b3 => first | with_reducible assumption | (intro a ha; cases ha; done) | (intro a ha; rw [List.mem_singleton.mp ha]; exact Nat.le_of_ble_eq_true rfl)); (case n3 => first | exact Nat.le_of_ble_eq_true rfl | lia)); intro _ _ _ _)) | ((with_reducible show wpAny _ _ (call (Value.builtin "chr") _) _ _ _); (refine chr_of_range (by lia) (by lia) ?_)) | ((with_reducible show wpAny _ _ (call (Value.builtin "list.append") [Value.ref _, _]) _ _ _); (k_dflt (refine' append_K ?F7 ?N7 ?U7 ?_ ?z7; (case F7 => with_reducible assumption); (case N7 => with_reducible assumption); (case U7 => walk_at "mUpd"); (case z7 => (simp only [sizeLine_eq, List.size_toArray, List.length_append, List.length_cons, List.length_nil]; lia))); intro h' F' N'; (try simp only [List.push_toArray] at N')))) | ((with_reducible show wpAny _ _ (assign _ _ _) _ _ _); first | ((with_reducible show wpAny _ _ (assign (Expr.Tuple _ _ _) _ (Value.ref _)) _ _ _); ((refine' unpack37 ?F4 ?N4 ?m4 ?h4 ?n4 ?s4 ?_; (case F4 => with_reducible assumption); (case N4 => with_reducible assumption); (case m4 => walk_at "mMem"); (case h4 => exact rfl); (case n4 => exact rfl); (case s4 => exact rfl)); intro _ _ _)) | ((with_reducible show wpAny _ _ (assign (Expr.Tuple _ _ _) _ (Value.ref _)) _ _ _); ((refine' unpackB37 ?F5 ?N5 ?m5 ?h5 ?n5 ?s5 ?_; (case F5 => with_reducible assumption); (case N5 => with_reducible assumption); (case m5 => with_reducible assumption); (case h5 => exact rfl); (case n5 => exact rfl); (case s5 => exact rfl)); intro _ _ _))) | walk1 | (dsimp only; walk1))))
    rename Fr _ _ _ _ => Fz
    rename News _ _ _ _ => Nz
    rename (_ ∧ _) => lFd
    rename_i Fd hFa hFd tkF _ _
    try walk_at "mGo"
    refine for_list (vs := rv) (lo := listOf rv.toArray re) (LawJ14 L R re Nn ne Fd o5 rv nvs tt tx res fin)
      rfl rfl ⟨_, rfl⟩ ?_ (.inl ⟨_, _, rfl⟩) Fz (News.sub Nz (nx' := [(L + 1 + 1 + 1 + 1 + 1, o5), (R, _), (Nn, _), (Fd, _)]) (by walk_at "mSub")) ⟨[], 0, [], .cons rfl (.cons rfl (.cons rfl (.cons rfl .nil))), rfl, .nil, List.forall_mem_nil _⟩ ?_ ?_
    · rintro i m₁ nx₁ h ⟨fvs, fe, X, _, rfl, _⟩ _ N
      exact (N _ (.tail _ (.head _))).1
    · clear Fz Nz
      ((repeat (with_reducible rename News _ _ _ _ => Nq; clear Nq)); (repeat (with_reducible rename Fr _ _ _ _ => Fq; clear Fq)); (repeat (with_reducible rename IsRange _ _ _ _ _ _ _ _ => Rq; clear Rq)))
      rintro i v m₁ nx h₁ tk₁ I io hv ⟨fvs, fe, X, hag, rfl, hfvs, hoX⟩ hI F₁ N₁
      replace F₁ := hag.fr F₁
      clear hag
      refine hideG ?_; intro Gh kGh
      obtain ⟨x, tx', hx, rfl⟩ := hrv.at hv
      refine kGh ?_; clear kGh Gh
      have hxf := List.mem_of_getElem? hx
      have hx5 := hfn x hxf
      have hnext := filter_next (p := isNear res.2) hx
      have hfl := hfvs.length
      have hfl2 : ((fin.take i).filter (isNear res.2)).length ≤ 64 := by
        have h1 := List.length_filter_le (isNear res.2) (fin.take i)
        rw [List.length_take] at h1
        lia
      have i1 := hI _ (.head _)
      have i2 := hI _ (.tail _ (.head _))
      have i3 := hI _ (.tail _ (.tail _ (.head _)))
      have i4 := hI _ (.tail _ (.tail _ (.tail _ (.head _))))
      have iX : ∀ p ∈ X, p.1 ≠ I := fun p hp => hI p (.tail _ (.tail _ (.tail _ (.tail _ hp))))
      dsimp only at i1 i2 i3 i4
      clear hI
      refine and3 lFd ?_; intro n1 n2 n3; clear lFd
      (repeat' (first | walk_at "mGo" | ((try with_reducible show wpAny _ _ _ _ _ _); (fail_if_success (walk_at "mSt")); first | ((with_reducible show wpAny _ _ (binaryOp Operator.Pow (Value.int 4 _) (Value.int _ _)) _ _ _); ((refine pow437 (by lia) (by lia) ?_; intro _ _ _))) | ((with_reducible show wpAny _ _ (subscriptTail _ _ _ _) _ _ _); first | ((with_reducible show wpAny _ _ (subscriptTail (Expr.Name (Str.ofString "codes") _) _ (Value.ref _) (Value.int _ _)) _ _ _); (refine' code37 ?N2 ?m2 ?v2 ?l2 ?_; (case N2 => with_reducible assumption); (case m2 => walk_at "mMem"); (case v2 => with_reducible assumption); (case l2 => with_reducible assumption)); intro _ _ _; (try dsimp only)) | ((with_reducible show wpAny _ _ (subscriptTail _ _ (Value.ref _) (Value.int _ _)) _ _ _); walk_at "subscriptTail")) | ((with_reducible show wpAny _ _ (call _ _) _ _ _); first | ((with_reducible show wpAny _ _ (call (Value.builtin "str.join") _) _ _ _); ((refine' join37 (News.isList ?N3 ?m3) ?S3 ?b3 ?n3 ?_; (case N3 => with_reducible assumption); (case m3 => exact .head _); (case S3 => first | exact (trivial : StrsAre [] []) | exact StrsAre.one _ _ | with_reducible assumption); (case b3 => first | with_reducible assumption | (intro a ha; cases ha; done) | (intro a ha; rw [List.mem_singleton.mp ha]; exact Nat.le_of_ble_eq_true rfl)); (case n3 => first | exact Nat.le_of_ble_eq_true rfl | lia)); intro _ _ _ _)) | ((with_reducible show wpAny _ _ (call (Value.builtin "chr") _) _ _ _); (refine chr_of_range (by lia) (by lia) ?_)) | ((with_reducible show wpAny _ _ (call (Value.builtin "list.append") [Value.ref _, _]) _ _ _); (k_dflt (refine' append_K ?F7 ?N7 ?U7 ?_ ?z7; (case F7 => with_reducible assumption); (case N7 => with_reducible assumption); (case U7 => walk_at "mUpd"); (case z7 => (simp only [sizeLine_eq, List.size_toArray, List.length_append, List.length_cons, List.length_nil]; lia))); intro h' F' N'; (try simp only [List.push_toArray] at N')))) | ((with_reducible show wpAny _ _ (assign _ _ _) _ _ _); first | ((with_reducible show wpAny _ _ (assign (Expr.Tuple _ _ _) _ (Value.ref _)) _ _ _); ((refine' unpack37 ?F4 ?N4 ?m4 ?h4 ?n4 ?s4 ?_; (case F4 => with_reducible assumption); (case N4 => with_reducible assumption); (case m4 => walk_at "mMem"); (case h4 => exact rfl); (case n4 => exact rfl); (case s4 => exact rfl)); intro _ _ _)) | ((with_reducible show wpAny _ _ (assign (Expr.Tuple _ _ _) _ (Value.ref _)) _ _ _); ((refine' unpackB37 ?F5 ?N5 ?m5 ?h5 ?n5 ?s5 ?_; (case F5 => with_reducible assumption); (case N5 => with_reducible assumption); (case m5 => with_reducible assumption); (case h5 => exact rfl); (case n5 => exact rfl); (case s5 => exact rfl)); intro _ _ _))) | walk1 | (dsimp only; walk1))))
      rename Fr _ _ _ _ => Fz
      rename News _ _ _ _ => Nz
      k_dflt (refine' use37 (f := 28) (lev_contract _ w tx x (res.1 : Int) tt tx' tp htxl (by lia) (by lia) (by lia)) B₁ Fz X₁ Nz T₁ ?kK ?kd ?ku trivial ?_)
      case kK => exact rfl
      case kd => first | lia | ktr_room
      case ku => first | lia | ktr_units
      clear Fz Nz
      ((repeat (with_reducible rename News _ _ _ _ => Nq; clear Nq)); (repeat (with_reducible rename Fr _ _ _ _ => Fq; clear Fq)); (repeat (with_reducible rename IsRange _ _ _ _ _ _ _ _ => Rq; clear Rq)))
      rintro r' new' h' tk' ⟨rfl, tz, z, rfl, hz⟩ _ F' N'
      simp only [List.nil_append] at N'
      obtain ⟨z1, z2⟩ := hlaw x hxf z hz
      (repeat' (first | walk_at "mGo" | ((try with_reducible show wpAny _ _ _ _ _ _); (fail_if_success (walk_at "mSt")); first | ((with_reducible show wpAny _ _ (binaryOp Operator.Pow (Value.int 4 _) (Value.int _ _)) _ _ _); ((refine pow437 (by lia) (by lia) ?_; intro _ _ _))) | ((with_reducible show wpAny _ _ (subscriptTail _ _ _ _) _ _ _); first | ((with_reducible show wpAny _ _ (subscriptTail (Expr.Name (Str.ofString "codes") _) _ (Value.ref _) (Value.int _ _)) _ _ _); (refine' code37 ?N2 ?m2 ?v2 ?l2 ?_; (case N2 => with_reducible assumption); (case m2 => walk_at "mMem"); (case v2 => with_reducible assumption); (case l2 => with_reducible assumption)); intro _ _ _; (try dsimp only)) | ((with_reducible show wpAny _ _ (subscriptTail _ _ (Value.ref _) (Value.int _ _)) _ _ _); walk_at "subscriptTail")) | ((with_reducible show wpAny _ _ (call _ _) _ _ _); first | ((with_reducible show wpAny _ _ (call (Value.builtin "str.join") _) _ _ _); ((refine' join37 (News.isList ?N3 ?m3) ?S3 ?b3 ?n3 ?_; (case N3 => with_reducible assumption); (case m3 => exact .head _); (case S3 => first | exact (trivial : StrsAre [] []) | exact StrsAre.one _ _ | with_reducible assumption); (case b3 => first | with_reducible assumption | (intro a ha; cases ha; done) | (intro a ha; rw [List.mem_singleton.mp ha]; exact Nat.le_of_ble_eq_true rfl)); (case n3 => first | exact Nat.le_of_ble_eq_true rfl | lia)); intro _ _ _ _)) | ((with_reducible show wpAny _ _ (call (Value.builtin "chr") _) _ _ _); (refine chr_of_range (by lia) (by lia) ?_)) | ((with_reducible show wpAny _ _ (call (Value.builtin "list.append") [Value.ref _, _]) _ _ _); (k_dflt (refine' append_K ?F7 ?N7 ?U7 ?_ ?z7; (case F7 => with_reducible assumption); (case N7 => with_reducible assumption); (case U7 => walk_at "mUpd"); (case z7 => (simp only [sizeLine_eq, List.size_toArray, List.length_append, List.length_cons, List.length_nil]; lia))); intro h' F' N'; (try simp only [List.push_toArray] at N')))) | ((with_reducible show wpAny _ _ (assign _ _ _) _ _ _); first | ((with_reducible show wpAny _ _ (assign (Expr.Tuple _ _ _) _ (Value.ref _)) _ _ _); ((refine' unpack37 ?F4 ?N4 ?m4 ?h4 ?n4 ?s4 ?_; (case F4 => with_reducible assumption); (case N4 => with_reducible assumption); (case m4 => walk_at "mMem"); (case h4 => exact rfl); (case n4 => exact rfl); (case s4 => exact rfl)); intro _ _ _)) | ((with_reducible show wpAny _ _ (assign (Expr.Tuple _ _ _) _ (Value.ref _)) _ _ _); ((refine' unpackB37 ?F5 ?N5 ?m5 ?h5 ?n5 ?s5 ?_; (case F5 => with_reducible assumption); (case N5 => with_reducible assumption); (case m5 => with_reducible assumption); (case h5 => exact rfl); (case n5 => exact rfl); (case s5 => exact rfl)); intro _ _ _))) | walk1 | (dsimp only; walk1))))
      · rename z ≤ (res.1 : Int) => hle
        rename (_ ∧ _) => lD
        rename Fr _ _ _ _ => Fz
        rename News _ _ _ _ => Nz
        refine hideG ?_; intro Gh kGh
        refine and6 lD ?_; intro b1 b2 b3 b4 b5 b6; clear lD
        refine kGh ?_; clear kGh Gh
        have hp : isNear res.2 x = true := by simp [isNear, z1.mp hle]
        obtain rfl := z2 hle
        refine FTurn.next ?_
        refine EndL.intro Fz (News.sub Nz (nx' := (I, io) :: (L + 1 + 1 + 1 + 1 + 1, o5) :: (R, _) :: (Nn, _) :: (Fd, _) :: (_, _) :: X) (by walk_at "mSub")) ?_
        refine ⟨_, rfl, ?_, fvs ++ [_], _, _, .cons rfl (.cons rfl (.cons rfl (.cons rfl .nil))), rfl, ?_, ?_⟩
        · simp only [List.forall_mem_cons]
          exact ⟨i1, i2, i3, i4, Nat.ne_of_gt b1, iX⟩
        · rw [hnext, if_pos hp]
          exact (hfvs.mono fun _ _ q => FoundX.mono (fun p hp => .tail _ hp) q).snoc ⟨_, _, _, rfl, .head _⟩
        · simp only [List.forall_mem_cons]
          exact ⟨Nat.ne_of_gt b5, hoX⟩
      · rename ¬ z ≤ (res.1 : Int) => hle
        rename Fr _ _ _ _ => Fz
        rename News _ _ _ _ => Nz
        have hp : ¬ isNear res.2 x = true := by
          intro h
          exact hle (z1.mpr (of_decide_eq_true h))
        refine FTurn.next ?_
        refine EndL.intro Fz Nz ?_
        refine ⟨_, rfl, ?_, fvs, fe, X, .cons rfl (.cons rfl (.cons rfl (.cons rfl .nil))), rfl, ?_, hoX⟩
        · simp only [List.forall_mem_cons]
          exact ⟨i1, i2, i3, i4, iX⟩
        · rw [hnext, if_neg hp, List.append_nil]
          exact hfvs
    · clear Fz Nz
      ((repeat (with_reducible rename News _ _ _ _ => Nq; clear Nq)); (repeat (with_reducible rename Fr _ _ _ _ => Fq; clear Fq)); (repeat (with_reducible rename IsRange _ _ _ _ _ _ _ _ => Rq; clear Rq)))
      rintro m₁ nx h4 tk4 ⟨fvs, fe, X, hag, rfl, hfvs, hoX⟩ F4 N4
      replace F4 := hag.fr F4
      clear hag
      simp only [kstB] at F4
      rw [hrl, List.take_length] at hfvs
      (repeat' (first | walk_at "mGo" | ((try with_reducible show wpAny _ _ _ _ _ _); (fail_if_success (walk_at "mSt")); first | ((with_reducible show wpAny _ _ (binaryOp Operator.Pow (Value.int 4 _) (Value.int _ _)) _ _ _); ((refine pow437 (by lia) (by lia) ?_; intro _ _ _))) | ((with_reducible show wpAny _ _ (subscriptTail _ _ _ _) _ _ _); first | ((with_reducible show wpAny _ _ (subscriptTail (Expr.Name (Str.ofString "codes") _) _ (Value.ref _) (Value.int _ _)) _ _ _); (refine' code37 ?N2 ?m2 ?v2 ?l2 ?_; (case N2 => with_reducible assumption); (case m2 => walk_at "mMem"); (case v2 => with_reducible assumption); (case l2 => with_reducible assumption)); intro _ _ _; (try dsimp only)) | ((with_reducible show wpAny _ _ (subscriptTail _ _ (Value.ref _) (Value.int _ _)) _ _ _); walk_at "subscriptTail")) | ((with_reducible show wpAny _ _ (call _ _) _ _ _); first | ((with_reducible show wpAny _ _ (call (Value.builtin "str.join") _) _ _ _); ((refine' join37 (News.isList ?N3 ?m3) ?S3 ?b3 ?n3 ?_; (case N3 => with_reducible assumption); (case m3 => exact .head _); (case S3 => first | exact (trivial : StrsAre [] []) | exact StrsAre.one _ _ | with_reducible assumption); (case b3 => first | with_reducible assumption | (intro a ha; cases ha; done) | (intro a ha; rw [List.mem_singleton.mp ha]; exact Nat.le_of_ble_eq_true rfl)); (case n3 => first | exact Nat.le_of_ble_eq_true rfl | lia)); intro _ _ _ _)) | ((with_reducible show wpAny _ _ (call (Value.builtin "chr") _) _ _ _); (refine chr_of_range (by lia) (by lia) ?_)) | ((with_reducible show wpAny _ _ (call (Value.builtin "list.append") [Value.ref _, _]) _ _ _); (k_dflt (refine' append_K ?F7 ?N7 ?U7 ?_ ?z7; (case F7 => with_reducible assumption); (case N7 => with_reducible assumption); (case U7 => walk_at "mUpd"); (case z7 => (simp only [sizeLine_eq, List.size_toArray, List.length_append, List.length_cons, List.length_nil]; lia))); intro h' F' N'; (try simp only [List.push_toArray] at N')))) | ((with_reducible show wpAny _ _ (assign _ _ _) _ _ _); first | ((with_reducible show wpAny _ _ (assign (Expr.Tuple _ _ _) _ (Value.ref _)) _ _ _); ((refine' unpack37 ?F4 ?N4 ?m4 ?h4 ?n4 ?s4 ?_; (case F4 => with_reducible assumption); (case N4 => with_reducible assumption); (case m4 => walk_at "mMem"); (case h4 => exact rfl); (case n4 => exact rfl); (case s4 => exact rfl)); intro _ _ _)) | ((with_reducible show wpAny _ _ (assign (Expr.Tuple _ _ _) _ (Value.ref _)) _ _ _); ((refine' unpackB37 ?F5 ?N5 ?m5 ?h5 ?n5 ?s5 ?_; (case F5 => with_reducible assumption); (case N5 => with_reducible assumption); (case m5 => with_reducible assumption); (case h5 => exact rfl); (case n5 => exact rfl); (case s5 => exact rfl)); intro _ _ _))) | walk1 | (dsimp only; walk1))))
      rename Fr _ _ _ _ => Fz
      rename News _ _ _ _ => Nz
      refine EndL.intro Fz (News.sub Nz (nx' := (L + 1 + 1 + 1 + 1 + 1, o5) :: (Nn, _) :: (Fd, _) :: X) (by walk_at "mSub")) ?_
      exact ⟨Fd, fvs, fe, X, .cons rfl (.cons rfl .nil), rfl, hfvs⟩
    --END
  clear F₁₀ N₁₀
  ((repeat (with_reducible rename News _ _ _ _ => Nq; clear Nq)); (repeat (with_reducible rename Fr _ _ _ _ => Fq; clear Fq)); (repeat (with_reducible rename IsRange _ _ _ _ _ _ _ _ => Rq; clear Rq)))
  rintro h₁₁ tk₁₁ m₁₁ nx F₁₁ N₁₁ ⟨Fd, fvs, fe, X, hag, rfl, hfvs⟩
  replace F₁₁ := hag.fr F₁₁
  clear hag
  show wpAny _ _ _ _ _ { s₁ with heap := h₁₁, toks := tk₁₁, drawn := dr }
  have hnod : near.Nodup := by
    have h1 : (near.map lst).Nodup := by rw [hnear]; exact hnd2
    exact List.Pairwise.of_map lst (fun a b hne e => hne (by rw [e])) h1
  have hnf : ∀ x ∈ near, x ∈ fin := by
    intro x hx
    have h1 : lst x ∈ res.2 := by rw [← hnear]; exact List.mem_map_of_mem hx
    refine hideG ?_; intro Gh kGh
    obtain ⟨⟨k, hk, hN⟩, _⟩ := htold.sound _ h1
    refine kGh ?_; clear kGh Gh
    rw [hfin, NW_nest]
    exact ⟨k, hk, hN⟩
  have hn64 : near.length < 64 := Nat.lt_of_le_of_lt (nodup_len hnod hnf) hf64
  have hnvl := hnv.length
  (repeat' (first | walk_at "mGo" | ((try with_reducible show wpAny _ _ _ _ _ _); (fail_if_success (walk_at "mSt")); first | ((with_reducible show wpAny _ _ (binaryOp Operator.Pow (Value.int 4 _) (Value.int _ _)) _ _ _); ((refine pow437 (by lia) (by lia) ?_; intro _ _ _))) | ((with_reducible show wpAny _ _ (subscriptTail _ _ _ _) _ _ _); first | ((with_reducible show wpAny _ _ (subscriptTail (Expr.Name (Str.ofString "codes") _) _ (Value.ref _) (Value.int _ _)) _ _ _); (refine' code37 ?N2 ?m2 ?v2 ?l2 ?_; (case N2 => with_reducible assumption); (case m2 => walk_at "mMem"); (case v2 => with_reducible assumption); (case l2 => with_reducible assumption)); intro _ _ _; (try dsimp only)) | ((with_reducible show wpAny _ _ (subscriptTail _ _ (Value.ref _) (Value.int _ _)) _ _ _); walk_at "subscriptTail")) | ((with_reducible show wpAny _ _ (call _ _) _ _ _); first | ((with_reducible show wpAny _ _ (call (Value.builtin "str.join") _) _ _ _); ((refine' join37 (News.isList ?N3 ?m3) ?S3 ?b3 ?n3 ?_; (case N3 => with_reducible assumption); (case m3 => exact .head _); (case S3 => first | exact (trivial : StrsAre [] []) | exact StrsAre.one _ _ | with_reducible assumption); (case b3 => first | with_reducible assumption | (intro a ha; cases ha; done) | (intro a ha; rw [List.mem_singleton.mp ha]; exact Nat.le_of_ble_eq_true rfl)); (case n3 => first | exact Nat.le_of_ble_eq_true rfl | lia)); intro _ _ _ _)) | ((with_reducible show wpAny _ _ (call (Value.builtin "chr") _) _ _ _); (refine chr_of_range (by lia) (by lia) ?_)) | ((with_reducible show wpAny _ _ (call (Value.builtin "list.append") [Value.ref _, _]) _ _ _); (k_dflt (refine' append_K ?F7 ?N7 ?U7 ?_ ?z7; (case F7 => with_reducible assumption); (case N7 => with_reducible assumption); (case U7 => walk_at "mUpd"); (case z7 => (simp only [sizeLine_eq, List.size_toArray, List.length_append, List.length_cons, List.length_nil]; lia))); intro h' F' N'; (try simp only [List.push_toArray] at N')))) | ((with_reducible show wpAny _ _ (assign _ _ _) _ _ _); first | ((with_reducible show wpAny _ _ (assign (Expr.Tuple _ _ _) _ (Value.ref _)) _ _ _); ((refine' unpack37 ?F4 ?N4 ?m4 ?h4 ?n4 ?s4 ?_; (case F4 => with_reducible assumption); (case N4 => with_reducible assumption); (case m4 => walk_at "mMem"); (case h4 => exact rfl); (case n4 => exact rfl); (case s4 => exact rfl)); intro _ _ _)) | ((with_reducible show wpAny _ _ (assign (Expr.Tuple _ _ _) _ (Value.ref _)) _ _ _); ((refine' unpackB37 ?F5 ?N5 ?m5 ?h5 ?n5 ?s5 ?_; (case F5 => with_reducible assumption); (case N5 => with_reducible assumption); (case m5 => with_reducible assumption); (case h5 => exact rfl); (case n5 => exact rfl); (case s5 => exact rfl)); intro _ _ _))) | walk1 | (dsimp only; walk1))))
  refine LCg.ListComp_U (F₀ := by k_asm) (by with_unfolding_all rfl) (by decide) (by rfl) (by decide) (by rfl) ?_
  (repeat' (first | walk_at "mGo" | ((try with_reducible show wpAny _ _ _ _ _ _); (fail_if_success (walk_at "mSt")); first | ((with_reducible show wpAny _ _ (binaryOp Operator.Pow (Value.int 4 _) (Value.int _ _)) _ _ _); ((refine pow437 (by lia) (by lia) ?_; intro _ _ _))) | ((with_reducible show wpAny _ _ (subscriptTail _ _ _ _) _ _ _); first | ((with_reducible show wpAny _ _ (subscriptTail (Expr.Name (Str.ofString "codes") _) _ (Value.ref _) (Value.int _ _)) _ _ _); (refine' code37 ?N2 ?m2 ?v2 ?l2 ?_; (case N2 => with_reducible assumption); (case m2 => walk_at "mMem"); (case v2 => with_reducible assumption); (case l2 => with_reducible assumption)); intro _ _ _; (try dsimp only)) | ((with_reducible show wpAny _ _ (subscriptTail _ _ (Value.ref _) (Value.int _ _)) _ _ _); walk_at "subscriptTail")) | ((with_reducible show wpAny _ _ (call _ _) _ _ _); first | ((with_reducible show wpAny _ _ (call (Value.builtin "str.join") _) _ _ _); ((refine' join37 (News.isList ?N3 ?m3) ?S3 ?b3 ?n3 ?_; (case N3 => with_reducible assumption); (case m3 => exact .head _); (case S3 => first | exact (trivial : StrsAre [] []) | exact StrsAre.one _ _ | with_reducible assumption); (case b3 => first | with_reducible assumption | (intro a ha; cases ha; done) | (intro a ha; rw [List.mem_singleton.mp ha]; exact Nat.le_of_ble_eq_true rfl)); (case n3 => first | exact Nat.le_of_ble_eq_true rfl | lia)); intro _ _ _ _)) | ((with_reducible show wpAny _ _ (call (Value.builtin "chr") _) _ _ _); (refine chr_of_range (by lia) (by lia) ?_)) | ((with_reducible show wpAny _ _ (call (Value.builtin "list.append") [Value.ref _, _]) _ _ _); (k_dflt (refine' append_K ?F7 ?N7 ?U7 ?_ ?z7; (case F7 => with_reducible assumption); (case N7 => with_reducible assumption); (case U7 => walk_at "mUpd"); (case z7 => (simp only [sizeLine_eq, List.size_toArray, List.length_append, List.length_cons, List.length_nil]; lia))); intro h' F' N'; (try simp only [List.push_toArray] at N')))) | ((with_reducible show wpAny _ _ (assign _ _ _) _ _ _); first | ((with_reducible show wpAny _ _ (assign (Expr.Tuple _ _ _) _ (Value.ref _)) _ _ _); ((refine' unpack37 ?F4 ?N4 ?m4 ?h4 ?n4 ?s4 ?_; (case F4 => with_reducible assumption); (case N4 => with_reducible assumption); (case m4 => walk_at "mMem"); (case h4 => exact rfl); (case n4 => exact rfl); (case s4 => exact rfl)); intro _ _ _)) | ((with_reducible show wpAny _ _ (assign (Expr.Tuple _ _ _) _ (Value.ref _)) _ _ _); ((refine' unpackB37 ?F5 ?N5 ?m5 ?h5 ?n5 ?s5 ?_; (case F5 => with_reducible assumption); (case N5 => with_reducible assumption); (case m5 => with_reducible assumption); (case h5 => exact rfl); (case n5 => exact rfl); (case s5 => exact rfl)); intro _ _ _))) | walk1 | (dsimp only; walk1))))
  rename Fr _ _ _ _ => Fz
  rename News _ _ _ _ => Nz
  refine sortedList37 Fz Nz (by walk_at "mMem") hnv hn64 ?_
  clear Fz Nz
  ((repeat (with_reducible rename News _ _ _ _ => Nq; clear Nq)); (repeat (with_reducible rename Fr _ _ _ _ => Fq; clear Fq)); (repeat (with_reducible rename IsRange _ _ _ _ _ _ _ _ => Rq; clear Rq)))
  intro Sd h2 vs2 zs e2 F2 N2 hz2 hzp hzs
  have hzsrt : Srt zs := srt_of hzs (hzp.nodup_iff.mpr hnod)
  have hzf : fin.filter (isNear res.2) = zs := by
    refine srt_ext (srt_filter hsrt) hzsrt fun x => ?_
    rw [List.mem_filter, hzp.mem_iff]
    constructor
    · rintro ⟨_, h⟩
      have h1 : lst x ∈ res.2 := of_decide_eq_true h
      rw [← hnear] at h1
      obtain ⟨y, hy, e⟩ := List.mem_map.mp h1
      exact lst_inj e ▸ hy
    · intro h
      refine ⟨hnf x h, decide_eq_true ?_⟩
      rw [← hnear]
      exact List.mem_map_of_mem h
  rw [hzf] at hfvs
  have hzok : zs.all PyData.strOk = true := List.all_eq_true.mpr fun x hx => List.all_eq_true.mp hok x (hnf x (hzp.mem_iff.mp hx))
  have hzl : vs2.length = zs.length := hz2.length
  have hzn : zs.length < 64 := by rw [hzp.length_eq]; exact hn64
  refine LCg.CompSrc.ledger (by rfl) F2 (News.sub N2 (nx' := (L + 1 + 1 + 1 + 1 + 1, o5) :: (Sd, listOf vs2.toArray e2) :: (Fd, listOf fvs.toArray fe) :: X) (by walk_at "mSub")) (.tail _ (.head _)) (by rw [List.size_toArray, sizeLine_eq]; lia) ?_
  intro g
  refine comp_led (fun i ys nx => ∃ Z : Led, nx = (L + 1 + 1 + 1 + 1 + 1, o5) :: (Sd, listOf vs2.toArray e2) :: (Fd, listOf fvs.toArray fe) :: Z ∧ (∀ p ∈ X, p ∈ Z) ∧ All2 (FoundX res.1 Z) ys (zs.take i)) ⟨X, rfl, fun _ h => h, .nil⟩ ?_ ?_
  · clear F2 N2
    ((repeat (with_reducible rename News _ _ _ _ => Nq; clear Nq)); (repeat (with_reducible rename Fr _ _ _ _ => Fq; clear Fq)); (repeat (with_reducible rename IsRange _ _ _ _ _ _ _ _ => Rq; clear Rq)))
    rintro j ys nx v I oI C2 oC2 D3 m₃ h4 tk4 E4 hj ⟨Z, rfl, hXZ, hys⟩ hv hns2 hm2 F4 N4 off4 ne4
    refine hideG ?_; intro Gh kGh
    obtain ⟨x, tv, hx, rfl⟩ := hz2.at (k := j) (v := v) (by simpa using hv)
    obtain ⟨hjz, hxe⟩ := List.getElem?_eq_some_iff.mp hx
    refine kGh ?_; clear kGh Gh
    have hte : zs.take (j + 1) = zs.take j ++ [x] := by rw [List.take_succ_eq_append_getElem hjz, hxe]
    (repeat' (first | walk_at "mGo" | ((try with_reducible show wpAny _ _ _ _ _ _); (fail_if_success (walk_at "mSt")); first | ((with_reducible show wpAny _ _ (binaryOp Operator.Pow (Value.int 4 _) (Value.int _ _)) _ _ _); ((refine pow437 (by lia) (by lia) ?_; intro _ _ _))) | ((with_reducible show wpAny _ _ (subscriptTail _ _ _ _) _ _ _); first | ((with_reducible show wpAny _ _ (subscriptTail (Expr.Name (Str.ofString "codes") _) _ (Value.ref _) (Value.int _ _)) _ _ _); (refine' code37 ?N2 ?m2 ?v2 ?l2 ?_; (case N2 => with_reducible assumption); (case m2 => walk_at "mMem"); (case v2 => with_reducible assumption); (case l2 => with_reducible assumption)); intro _ _ _; (try dsimp only)) | ((with_reducible show wpAny _ _ (subscriptTail _ _ (Value.ref _) (Value.int _ _)) _ _ _); walk_at "subscriptTail")) | ((with_reducible show wpAny _ _ (call _ _) _ _ _); first | ((with_reducible show wpAny _ _ (call (Value.builtin "str.join") _) _ _ _); ((refine' join37 (News.isList ?N3 ?m3) ?S3 ?b3 ?n3 ?_; (case N3 => with_reducible assumption); (case m3 => exact .head _); (case S3 => first | exact (trivial : StrsAre [] []) | exact StrsAre.one _ _ | with_reducible assumption); (case b3 => first | with_reducible assumption | (intro a ha; cases ha; done) | (intro a ha; rw [List.mem_singleton.mp ha]; exact Nat.le_of_ble_eq_true rfl)); (case n3 => first | exact Nat.le_of_ble_eq_true rfl | lia)); intro _ _ _ _)) | ((with_reducible show wpAny _ _ (call (Value.builtin "chr") _) _ _ _); (refine chr_of_range (by lia) (by lia) ?_)) | ((with_reducible show wpAny _ _ (call (Value.builtin "list.append") [Value.ref _, _]) _ _ _); (k_dflt (refine' append_K ?F7 ?N7 ?U7 ?_ ?z7; (case F7 => with_reducible assumption); (case N7 => with_reducible assumption); (case U7 => walk_at "mUpd"); (case z7 => (simp only [sizeLine_eq, List.size_toArray, List.length_append, List.length_cons, List.length_nil]; lia))); intro h' F' N'; (try simp only [List.push_toArray] at N')))) | ((with_reducible show wpAny _ _ (assign _ _ _) _ _ _); first | ((with_reducible show wpAny _ _ (assign (Expr.Tuple _ _ _) _ (Value.ref _)) _ _ _); ((refine' unpack37 ?F4 ?N4 ?m4 ?h4 ?n4 ?s4 ?_; (case F4 => with_reducible assumption); (case N4 => with_reducible assumption); (case m4 => walk_at "mMem"); (case h4 => exact rfl); (case n4 => exact rfl); (case s4 => exact rfl)); intro _ _ _)) | ((with_reducible show wpAny _ _ (assign (Expr.Tuple _ _ _) _ (Value.ref _)) _ _ _); ((refine' unpackB37 ?F5 ?N5 ?m5 ?h5 ?n5 ?s5 ?_; (case F5 => with_reducible assumption); (case N5 => with_reducible assumption); (case m5 => with_reducible assumption); (case h5 => exact rfl); (case n5 => exact rfl); (case s5 => exact rfl)); intro _ _ _))) | walk1 | (dsimp only; walk1))))
    rename Fr _ _ _ _ => Fz
    rename News _ _ _ _ => Nz
    rename (_ ∧ _) => lz
    refine hideG ?_; intro Gh kGh
    refine and7 lz ?_; intro y1 y2 y3 y4 y5 y6 y7; clear lz
    refine and4 off4 ?_; intro q1 q2 q3 q4; clear off4
    refine kGh ?_; clear kGh Gh
    refine LCg.CompEnd.intro Fz Nz ((L + 1 + 1 + 1 + 1 + 1, o5) :: (Sd, _) :: (Fd, _) :: (_, _) :: Z) (by walk_at "mSub") ⟨q1, q2, q3, ⟨Nat.ne_of_gt y1, Nat.ne_of_gt y2, Nat.ne_of_gt y3⟩, q4⟩ (.inr ⟨_, .tail _ (.head _), rfl, _, rfl⟩) ⟨_ :: Z, rfl, fun p hp => .tail _ (hXZ p hp), ?_⟩
    rw [hte]
    exact (hys.mono fun _ _ q => FoundX.mono (fun p hp => .tail _ hp) q).snoc ⟨_, _, _, rfl, .head _⟩
  · clear F2 N2
    ((repeat (with_reducible rename News _ _ _ _ => Nq; clear Nq)); (repeat (with_reducible rename Fr _ _ _ _ => Fq; clear Fq)); (repeat (with_reducible rename IsRange _ _ _ _ _ _ _ _ => Rq; clear Rq)))
    rintro ys nx ⟨Z, rfl, hXZ, hys⟩
    intro D4 h5 tk5 F5 N5 o5'
    rw [List.size_toArray, hzl, List.take_length] at hys
    (repeat' (first | walk_at "mGo" | ((try with_reducible show wpAny _ _ _ _ _ _); (fail_if_success (walk_at "mSt")); first | ((with_reducible show wpAny _ _ (binaryOp Operator.Pow (Value.int 4 _) (Value.int _ _)) _ _ _); ((refine pow437 (by lia) (by lia) ?_; intro _ _ _))) | ((with_reducible show wpAny _ _ (subscriptTail _ _ _ _) _ _ _); first | ((with_reducible show wpAny _ _ (subscriptTail (Expr.Name (Str.ofString "codes") _) _ (Value.ref _) (Value.int _ _)) _ _ _); (refine' code37 ?N2 ?m2 ?v2 ?l2 ?_; (case N2 => with_reducible assumption); (case m2 => walk_at "mMem"); (case v2 => with_reducible assumption); (case l2 => with_reducible assumption)); intro _ _ _; (try dsimp only)) | ((with_reducible show wpAny _ _ (subscriptTail _ _ (Value.ref _) (Value.int _ _)) _ _ _); walk_at "subscriptTail")) | ((with_reducible show wpAny _ _ (call _ _) _ _ _); first | ((with_reducible show wpAny _ _ (call (Value.builtin "str.join") _) _ _ _); ((refine' join37 (News.isList ?N3 ?m3) ?S3 ?b3 ?n3 ?_; (case N3 => with_reducible assumption); (case m3 => exact .head _); (case S3 => first | exact (trivial : StrsAre [] []) | exact StrsAre.one _ _ | with_reducible assumption); (case b3 => first | with_reducible assumption | (intro a ha; cases ha; done) | (intro a ha; rw [List.mem_singleton.mp ha]; exact Nat.le_of_ble_eq_true rfl)); (case n3 => first | exact Nat.le_of_ble_eq_true rfl | lia)); intro _ _ _ _)) | ((with_reducible show wpAny _ _ (call (Value.builtin "chr") _) _ _ _); (refine chr_of_range (by lia) (by lia) ?_)) | ((with_reducible show wpAny _ _ (call (Value.builtin "list.append") [Value.ref _, _]) _ _ _); (k_dflt (refine' append_K ?F7 ?N7 ?U7 ?_ ?z7; (case F7 => with_reducible assumption); (case N7 => with_reducible assumption); (case U7 => walk_at "mUpd"); (case z7 => (simp only [sizeLine_eq, List.size_toArray, List.length_append, List.length_cons, List.length_nil]; lia))); intro h' F' N'; (try simp only [List.push_toArray] at N')))) | ((with_reducible show wpAny _ _ (assign _ _ _) _ _ _); first | ((with_reducible show wpAny _ _ (assign (Expr.Tuple _ _ _) _ (Value.ref _)) _ _ _); ((refine' unpack37 ?F4 ?N4 ?m4 ?h4 ?n4 ?s4 ?_; (case F4 => with_reducible assumption); (case N4 => with_reducible assumption); (case m4 => walk_at "mMem"); (case h4 => exact rfl); (case n4 => exact rfl); (case s4 => exact rfl)); intro _ _ _)) | ((with_reducible show wpAny _ _ (assign (Expr.Tuple _ _ _) _ (Value.ref _)) _ _ _); ((refine' unpackB37 ?F5 ?N5 ?m5 ?h5 ?n5 ?s5 ?_; (case F5 => with_reducible assumption); (case N5 => with_reducible assumption); (case m5 => with_reducible assumption); (case h5 => exact rfl); (case n5 => exact rfl); (case s5 => exact rfl)); intro _ _ _))) | walk1 | (dsimp only; walk1))))
    rename Fr _ _ _ _ => Fz
    rename News _ _ _ _ => Nz
    refine eq_found37 Nz (X := X) (Y := Z) (by walk_at "mMem") (by walk_at "mMem") (fun p hp => .tail _ (.tail _ (.tail _ (.tail _ (hXZ p hp))))) (fun p hp => .tail _ (.tail _ (.tail _ (.tail _ hp)))) hfvs hys hzok (by ktr_units) ?_
    (repeat' (first | walk_at "mGo" | ((try with_reducible show wpAny _ _ _ _ _ _); (fail_if_success (walk_at "mSt")); first | ((with_reducible show wpAny _ _ (binaryOp Operator.Pow (Value.int 4 _) (Value.int _ _)) _ _ _); ((refine pow437 (by lia) (by lia) ?_; intro _ _ _))) | ((with_reducible show wpAny _ _ (subscriptTail _ _ _ _) _ _ _); first | ((with_reducible show wpAny _ _ (subscriptTail (Expr.Name (Str.ofString "codes") _) _ (Value.ref _) (Value.int _ _)) _ _ _); (refine' code37 ?N2 ?m2 ?v2 ?l2 ?_; (case N2 => with_reducible assumption); (case m2 => walk_at "mMem"); (case v2 => with_reducible assumption); (case l2 => with_reducible assumption)); intro _ _ _; (try dsimp only)) | ((with_reducible show wpAny _ _ (subscriptTail _ _ (Value.ref _) (Value.int _ _)) _ _ _); walk_at "subscriptTail")) | ((with_reducible show wpAny _ _ (call _ _) _ _ _); first | ((with_reducible show wpAny _ _ (call (Value.builtin "str.join") _) _ _ _); ((refine' join37 (News.isList ?N3 ?m3) ?S3 ?b3 ?n3 ?_; (case N3 => with_reducible assumption); (case m3 => exact .head _); (case S3 => first | exact (trivial : StrsAre [] []) | exact StrsAre.one _ _ | with_reducible assumption); (case b3 => first | with_reducible assumption | (intro a ha; cases ha; done) | (intro a ha; rw [List.mem_singleton.mp ha]; exact Nat.le_of_ble_eq_true rfl)); (case n3 => first | exact Nat.le_of_ble_eq_true rfl | lia)); intro _ _ _ _)) | ((with_reducible show wpAny _ _ (call (Value.builtin "chr") _) _ _ _); (refine chr_of_range (by lia) (by lia) ?_)) | ((with_reducible show wpAny _ _ (call (Value.builtin "list.append") [Value.ref _, _]) _ _ _); (k_dflt (refine' append_K ?F7 ?N7 ?U7 ?_ ?z7; (case F7 => with_reducible assumption); (case N7 => with_reducible assumption); (case U7 => walk_at "mUpd"); (case z7 => (simp only [sizeLine_eq, List.size_toArray, List.length_append, List.length_cons, List.length_nil]; lia))); intro h' F' N'; (try simp only [List.push_toArray] at N')))) | ((with_reducible show wpAny _ _ (assign _ _ _) _ _ _); first | ((with_reducible show wpAny _ _ (assign (Expr.Tuple _ _ _) _ (Value.ref _)) _ _ _); ((refine' unpack37 ?F4 ?N4 ?m4 ?h4 ?n4 ?s4 ?_; (case F4 => with_reducible assumption); (case N4 => with_reducible assumption); (case m4 => walk_at "mMem"); (case h4 => exact rfl); (case n4 => exact rfl); (case s4 => exact rfl)); intro _ _ _)) | ((with_reducible show wpAny _ _ (assign (Expr.Tuple _ _ _) _ (Value.ref _)) _ _ _); ((refine' unpackB37 ?F5 ?N5 ?m5 ?h5 ?n5 ?s5 ?_; (case F5 => with_reducible assumption); (case N5 => with_reducible assumption); (case m5 => with_reducible assumption); (case h5 => exact rfl); (case n5 => exact rfl); (case s5 => exact rfl)); intro _ _ _))) | walk1 | (dsimp only; walk1))))
    exact hgood _ _ _ _ Fz
end PartT6
end Mine
set_option maxRecDepth 100000 in
set_option maxHeartbeats 8000000 in
theorem PySem.Challenge.cw_rl0037_01_holds : PySem.Challenge.rw_rl0037_01.Holds :=
  Mine.law_all
