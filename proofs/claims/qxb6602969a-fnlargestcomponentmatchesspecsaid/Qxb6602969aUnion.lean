/-
  THE PLAIN LAW of the union-find model: a parent row p and the roots r that it leads to. No Go in sight.
-/
import Derived.Test.Qxb6602969aDfs
namespace Go.Proofs.Qxb6602969a

/-- p leads to the roots r: parents are not above their children, lead to the same root, and who is its own parent is its own root. -/
structure UF (n : Nat) (p r : Nat → Nat) : Prop where
  le : ∀ i, i < n → p i ≤ i
  step : ∀ i, i < n → r (p i) = r i
  fix : ∀ i, i < n → p i = i → r i = i
  rle : ∀ i, i < n → r i ≤ i

theorem UF.start (n : Nat) : UF n (fun i => i) (fun i => i) := ⟨fun _ _ => Nat.le_refl _, fun _ _ => rfl, fun _ _ _ => rfl, fun _ _ => Nat.le_refl _⟩

theorem UF.congr {n : Nat} {p q r : Nat → Nat} (h : UF n p r) (e : ∀ i, i < n → p i = q i) : UF n q r :=
  ⟨fun i hi => by rw [← e i hi]; exact h.le i hi, fun i hi => by rw [← e i hi]; exact h.step i hi, fun i hi h1 => h.fix i hi (by rw [e i hi]; exact h1), h.rle⟩

/-- The path is halved. -/
theorem UF.halve {n x : Nat} {p r : Nat → Nat} (h : UF n p r) (hx : x < n) : UF n (upd p x (p (p x))) r := by
  have h1 := h.le x hx
  have h2 := h.le (p x) (by omega)
  refine ⟨fun i hi => ?_, fun i hi => ?_, fun i hi hfix => ?_, h.rle⟩
  · by_cases e : i = x
    · subst e; rw [upd_same]; omega
    · rw [upd_other _ _ e]; exact h.le i hi
  · by_cases e : i = x
    · subst e; rw [upd_same, h.step _ (by omega), h.step _ hi]
    · rw [upd_other _ _ e]; exact h.step i hi
  · by_cases e : i = x
    · subst e
      rw [upd_same] at hfix
      exact h.fix i hi (by omega)
    · rw [upd_other _ _ e] at hfix
      exact h.fix i hi hfix

/-- Two roots are joined under the smaller one. -/
theorem UF.join {n a b : Nat} {p r : Nat → Nat} (h : UF n p r) (hab : a < b) (hra : r a = a) (hrb : r b = b) : UF n (upd p b a) (fun i => if r i = b then a else r i) := by
  refine ⟨fun i hi => ?_, fun i hi => ?_, fun i hi hfix => ?_, fun i hi => ?_⟩
  · by_cases e : i = b
    · subst e; rw [upd_same]; omega
    · rw [upd_other _ _ e]; exact h.le i hi
  · by_cases e : i = b
    · subst e
      rw [upd_same, hra, hrb]
      rw [if_pos rfl]
      split <;> rfl
    · rw [upd_other _ _ e, h.step i hi]
  · by_cases e : i = b
    · subst e; rw [upd_same] at hfix; omega
    · rw [upd_other _ _ e] at hfix
      have := h.fix i hi hfix
      simp only [this, e, if_false]
  · have := h.rle i hi
    show (if r i = b then a else r i) ≤ i
    split <;> omega

/-- A root is its own root. -/
theorem UF.idem {n : Nat} {p r : Nat → Nat} (h : UF n p r) : ∀ i, i < n → r (r i) = r i := by
  intro i
  induction i using Nat.strongRecOn with
  | _ i ih =>
    intro hi
    have h1 := h.le i hi
    by_cases e : p i = i
    · rw [h.fix i hi e, h.fix i hi e]
    · have := ih (p i) (by omega) (by omega)
      rw [h.step i hi] at this
      exact this

/-- The roots after the links of the first k nodes, and the first j of node k, have been joined. -/
structure UEdge (rows : List (List Int)) (r : Nat → Nat) (k j : Nat) : Prop where
  conn : ∀ i, i < rows.length → Conn rows i (r i)
  all : ∀ v, v < k → ∀ u ∈ rows.getD v [], r u.toNat = r v
  some : ∀ i, i < j → i < (rows.getD k []).length → r ((rows.getD k []).getD i 0).toNat = r k

theorem UEdge.start (rows : List (List Int)) : UEdge rows (fun i => i) 0 0 := ⟨fun _ _ => Conn.refl _ _, fun _ h => absurd h (Nat.not_lt_zero _), fun _ h => absurd h (Nat.not_lt_zero _)⟩

theorem UEdge.same {rows : List (List Int)} {r : Nat → Nat} {k j : Nat} (h : UEdge rows r k j) (he : r ((rows.getD k []).getD j 0).toNat = r k) : UEdge rows r k (j + 1) :=
  ⟨h.conn, h.all, fun i hi hl => by
    by_cases e : i = j
    · subst e; exact he
    · exact h.some i (by omega) hl⟩

theorem Conn.symm {rows : List (List Int)} {a b : Nat} (h : Conn rows a b) : Conn rows b a := fun f hf => (h f hf).symm

theorem UEdge.join {rows : List (List Int)} {r : Nat → Nat} {k j a b : Nat} (h : UEdge rows r k j) (hab : Conn rows b a) (he : (r k = a ∧ r ((rows.getD k []).getD j 0).toNat = b) ∨ (r k = b ∧ r ((rows.getD k []).getD j 0).toNat = a)) :
    UEdge rows (fun i => if r i = b then a else r i) k (j + 1) := by
  refine ⟨fun i hi => ?_, fun v hv u hu => ?_, fun i hi hl => ?_⟩
  · show Conn rows i (if r i = b then a else r i)
    split
    · next e => exact (e ▸ h.conn i hi).trans hab
    · exact h.conn i hi
  · show (if r u.toNat = b then a else r u.toNat) = (if r v = b then a else r v)
    rw [h.all v hv u hu]
  · show (if r ((rows.getD k []).getD i 0).toNat = b then a else r ((rows.getD k []).getD i 0).toNat) = (if r k = b then a else r k)
    by_cases e : i = j
    · subst e
      rcases he with ⟨h1, h2⟩ | ⟨h1, h2⟩
      · rw [h1, h2]; simp
      · rw [h1, h2]; simp
    · rw [h.some i (by omega) hl]

theorem UEdge.next {rows : List (List Int)} {r : Nat → Nat} {k j : Nat} (h : UEdge rows r k j) (hj : (rows.getD k []).length ≤ j) : UEdge rows r (k + 1) 0 :=
  ⟨h.conn, fun v hv u hu => by
    by_cases e : v = k
    · subst e
      obtain ⟨i, hi, rfl⟩ := List.getElem_of_mem hu
      have h1 := h.some i (by omega) hi
      rw [List.getD, List.getElem?_eq_getElem hi] at h1
      exact h1
    · exact h.all v (by omega) u hu, fun _ h => absurd h (Nat.not_lt_zero _)⟩

theorem UEdge.lab {rows : List (List Int)} {p r : Nat → Nat} (h : UEdge rows r rows.length 0) (hu : UF rows.length p r) : Lab rows r :=
  ⟨h.conn, fun v hv u hu => h.all v hv u hu, hu.rle⟩

end Go.Proofs.Qxb6602969a
