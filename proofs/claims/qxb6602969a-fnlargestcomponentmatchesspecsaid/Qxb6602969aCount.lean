/-
  THE PLAIN LAW of the largest component: how many nodes bear a label, which they are, and the label that no other outnumbers. No Go in sight.
-/
import Derived.Test.Qxb6602969aDfs
namespace Go.Proofs.Qxb6602969a

/-- How many of the first k nodes bear the label l. -/
def cnt (c : Nat → Nat) (l : Nat) : Nat → Nat
  | 0 => 0
  | k + 1 => cnt c l k + (if c k = l then 1 else 0)

/-- Which of the first k nodes bear the label l. -/
def mbr (c : Nat → Nat) (l : Nat) : Nat → List Nat
  | 0 => []
  | k + 1 => mbr c l k ++ (if c k = l then [k] else [])

theorem cnt_le (c : Nat → Nat) (l k : Nat) : cnt c l k ≤ k := by
  induction k with
  | zero => exact Nat.le_refl _
  | succ k ih => rw [cnt]; split <;> omega

theorem mbr_length (c : Nat → Nat) (l k : Nat) : (mbr c l k).length = cnt c l k := by
  induction k with
  | zero => rfl
  | succ k ih => rw [mbr, cnt, List.length_append, ih]; split <;> rfl

theorem mem_mbr (c : Nat → Nat) (l k u : Nat) : u ∈ mbr c l k ↔ u < k ∧ c u = l := by
  induction k with
  | zero => simp [mbr]
  | succ k ih =>
    rw [mbr, List.mem_append, ih]
    constructor
    · rintro (⟨h1, h2⟩ | h)
      · exact ⟨by omega, h2⟩
      · split at h
        · next e => rw [List.mem_singleton] at h; subst h; exact ⟨by omega, e⟩
        · cases h
    · rintro ⟨h1, h2⟩
      by_cases e : u = k
      · subst e; right; rw [if_pos h2]; simp
      · left; exact ⟨by omega, h2⟩

theorem mbr_asc (c : Nat → Nat) (l k : Nat) : (mbr c l k).Pairwise (· < ·) := by
  induction k with
  | zero => exact List.Pairwise.nil
  | succ k ih =>
    rw [mbr, List.pairwise_append]
    refine ⟨ih, ?_, fun a ha b hb => ?_⟩
    · split <;> simp
    · split at hb
      · rw [List.mem_singleton] at hb
        have := ((mem_mbr c l k a).1 ha).1
        omega
      · cases hb

theorem cnt_congr {c d : Nat → Nat} {n : Nat} (h : ∀ v, v < n → c v = d v) (l k : Nat) (hk : k ≤ n) : cnt c l k = cnt d l k := by
  induction k with
  | zero => rfl
  | succ k ih => rw [cnt, cnt, ih (by omega), h k (by omega)]

/-- L is the first of those that none of the first k outnumbers. -/
structure BigTo (f : Nat → Nat) (k L : Nat) : Prop where
  le : ∀ l, l < k → f l ≤ f L
  lt : ∀ l, l < L → f l < f L
  in_ : L < k ∨ L = 0

theorem BigTo.start (f : Nat → Nat) : BigTo f 0 0 := ⟨fun _ h => absurd h (Nat.not_lt_zero _), fun _ h => absurd h (Nat.not_lt_zero _), .inr rfl⟩

theorem BigTo.up {f : Nat → Nat} {k L : Nat} (h : BigTo f k L) (hk : f L < f k) : BigTo f (k + 1) k :=
  ⟨fun l hl => by
    by_cases e : l = k
    · rw [e]; exact Nat.le_refl _
    · have := h.le l (by omega); omega, fun l hl => by have := h.le l hl; omega, .inl (by omega)⟩

theorem BigTo.stay {f : Nat → Nat} {k L : Nat} (h : BigTo f k L) (hk : ¬ f L < f k) : BigTo f (k + 1) L :=
  ⟨fun l hl => by
    by_cases e : l = k
    · rw [e]; omega
    · exact h.le l (by omega), h.lt, h.in_.elim (fun e => .inl (by omega)) .inr⟩

/-- What is known of the members of the largest component. -/
theorem big_facts {rows : List (List Int)} {c : Nat → Nat} {n L : Nat} (hn : n = rows.length) (h0 : 0 < n) (hc : Lab rows c) (hb : BigTo (fun l => cnt c l n) n L) :
    0 < cnt c L n ∧ L < n ∧ c L = L ∧ (mbr c L n).getD 0 0 = L := by
  have hLn : L < n := by
    rcases hb.in_ with h | h
    · exact h
    · omega
  have hc0 : c 0 = 0 := by have := hc.le 0 (by omega); omega
  have h1 : 0 < cnt c 0 n := by
    rw [← mbr_length]
    exact List.length_pos_of_mem ((mem_mbr c 0 n 0).2 ⟨h0, hc0⟩)
  have h2 := hb.le 0 h0
  have hpos : 0 < cnt c L n := Nat.lt_of_lt_of_le h1 h2
  have hlen : 0 < (mbr c L n).length := by rw [mbr_length]; exact hpos
  have hm0 := (mem_mbr c L n _).1 (List.getElem_mem hlen)
  have hcL : c L = L := by
    have h3 := hc.fix (v := (mbr c L n)[0]) (by rw [← hn]; exact hm0.1)
    rw [hm0.2] at h3
    exact h3
  refine ⟨hpos, hLn, hcL, ?_⟩
  have hget : (mbr c L n).getD 0 0 = (mbr c L n)[0] := by simp [List.getD, List.getElem?_eq_getElem hlen]
  rw [hget]
  have hle : L ≤ (mbr c L n)[0] := by
    have := hc.le (mbr c L n)[0] (by rw [← hn]; exact hm0.1)
    rw [hm0.2] at this
    exact this
  obtain ⟨i, hi, e⟩ := List.getElem_of_mem ((mem_mbr c L n L).2 ⟨hLn, hcL⟩)
  by_cases hi0 : i = 0
  · subst hi0; exact e
  · have := List.pairwise_iff_getElem.1 (mbr_asc c L n) 0 i hlen hi (by omega)
    omega

theorem mbr_get {c : Nat → Nat} {L n i : Nat} (hi : i < cnt c L n) : (mbr c L n).getD i 0 < n ∧ c ((mbr c L n).getD i 0) = L := by
  rw [← mbr_length] at hi
  have : (mbr c L n).getD i 0 ∈ mbr c L n := by simp [List.getD, List.getElem?_eq_getElem hi]
  exact (mem_mbr c L n _).1 this

theorem mbr_lt {c : Nat → Nat} {L n i j : Nat} (hij : i < j) (hj : j < cnt c L n) : (mbr c L n).getD i 0 < (mbr c L n).getD j 0 := by
  rw [← mbr_length] at hj
  have hi : i < (mbr c L n).length := by omega
  have := List.pairwise_iff_getElem.1 (mbr_asc c L n) i j hi hj hij
  simpa [List.getD, List.getElem?_eq_getElem hi, List.getElem?_eq_getElem hj] using this

end Go.Proofs.Qxb6602969a
