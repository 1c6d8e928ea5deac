/-
  THE PLAIN LAW: no Go in sight. A graph is a list of rows of numbers. Labels that keep to the links, stand on a node that is linked to theirs, and are never above their node, are the only ones of their kind.
-/
namespace Go.Proofs.Qxb6602969a

/-- Every neighbour is a node, and every link goes both ways. -/
structure WF (rows : List (List Int)) : Prop where
  range : ∀ v, v < rows.length → ∀ u ∈ rows.getD v [], 0 ≤ u ∧ u < (rows.length : Int)
  back : ∀ v, v < rows.length → ∀ u ∈ rows.getD v [], (v : Int) ∈ rows.getD u.toNat []

/-- f is the same at both ends of every link. -/
def Keeps (rows : List (List Int)) (f : Nat → Nat) : Prop := ∀ v, v < rows.length → ∀ u ∈ rows.getD v [], f u.toNat = f v

/-- a and b are joined: no function that keeps to the links tells them apart. -/
def Conn (rows : List (List Int)) (a b : Nat) : Prop := ∀ f, Keeps rows f → f a = f b

structure Lab (rows : List (List Int)) (c : Nat → Nat) : Prop where
  conn : ∀ v, v < rows.length → Conn rows v (c v)
  keeps : Keeps rows c
  le : ∀ v, v < rows.length → c v ≤ v

theorem Lab.fix {rows : List (List Int)} {c : Nat → Nat} (h : Lab rows c) {v : Nat} (hv : v < rows.length) : c (c v) = c v := (h.conn v hv c h.keeps).symm

theorem Lab.unique {rows : List (List Int)} {c d : Nat → Nat} (hc : Lab rows c) (hd : Lab rows d) {v : Nat} (hv : v < rows.length) : c v = d v := by
  have h1 : c v = c (d v) := hd.conn v hv c hc.keeps
  have h2 : d v = d (c v) := hc.conn v hv d hd.keeps
  have h3 := hc.le (d v) (Nat.lt_of_le_of_lt (hd.le v hv) hv)
  have h4 := hd.le (c v) (Nat.lt_of_le_of_lt (hc.le v hv) hv)
  omega

/-- The graph that links each node to its label and back has the same labels. -/
theorem Lab.star {rows hs : List (List Int)} {c d : Nat → Nat} (hc : Lab rows c) (hd : Lab hs d) (hl : hs.length = rows.length)
    (hto : ∀ v, v < rows.length → c v ≠ v → ((c v : Nat) : Int) ∈ hs.getD v [])
    (hfrom : ∀ v, v < rows.length → ∀ u ∈ hs.getD v [], c u.toNat = c v) {v : Nat} (hv : v < rows.length) : d v = c v := by
  have h1 : c v = c (d v) := hd.conn v (by omega) c (fun x hx u hu => hfrom x (by omega) u hu)
  have h2 : d (c v) = d v := by
    by_cases e : c v = v
    · rw [e]
    · have := hd.keeps v (by omega) _ (hto v hv e)
      simpa using this
  have h3 := hc.le (d v) (Nat.lt_of_le_of_lt (hd.le v (by omega)) hv)
  have h4 := hd.le (c v) (by have := hc.le v hv; omega)
  omega

end Go.Proofs.Qxb6602969a
