/-
  THE STAR GRAPH: the graph that links each node to its label and back, as lists; and as slices of slices of the call's own that are appended to, each row in a block of its own.
-/
import Derived.Test.Qxb6602969aDfs
import Derived.Test.Qxb6602969aMem
import Derived.Deep.AppendLies
namespace Go.Proofs.Qxb6602969a
open Go.RowKit

/-- The lists after k nodes have been looked at. -/
structure Star (cl : Nat → Nat) (n k : Nat) (hs : Nat → List Nat) : Prop where
  len : ∀ v, (hs v).length ≤ k
  to : ∀ v, v < k → cl v ≠ v → cl v ∈ hs v
  mem : ∀ v u, u ∈ hs v → u < n ∧ v < n ∧ cl u = cl v ∧ v ∈ hs u

theorem Star.start (cl : Nat → Nat) (n : Nat) : Star cl n 0 (fun _ => []) := ⟨fun _ => Nat.le_refl _, fun v h => absurd h (Nat.not_lt_zero _), fun _ _ h => by cases h⟩

theorem Star.skip {cl : Nat → Nat} {n k : Nat} {hs : Nat → List Nat} (h : Star cl n k hs) (hk : cl k = k) : Star cl n (k + 1) hs :=
  ⟨fun v => Nat.le_succ_of_le (h.len v), fun v hv hne => h.to v (by
    by_cases e : v = k
    · exact absurd (e ▸ hk) hne
    · omega) hne, h.mem⟩

theorem Star.step {cl : Nat → Nat} {n k l : Nat} {hs : Nat → List Nat} (h : Star cl n k hs) (hl : cl k = l) (hne : l ≠ k) (hfix : cl l = l) (hk : k < n) (hln : l < n) :
    Star cl n (k + 1) (upd (upd hs k (hs k ++ [l])) l (hs l ++ [k])) := by
  have hval : ∀ v, upd (upd hs k (hs k ++ [l])) l (hs l ++ [k]) v = if v = l then hs l ++ [k] else if v = k then hs k ++ [l] else hs v := fun v => rfl
  have hin : ∀ v u, u ∈ upd (upd hs k (hs k ++ [l])) l (hs l ++ [k]) v ↔ u ∈ hs v ∨ (v = l ∧ u = k) ∨ (v = k ∧ u = l) := by
    intro v u
    rw [hval]
    by_cases e1 : v = l
    · subst e1
      simp [hne]
    · rw [if_neg e1]
      by_cases e2 : v = k
      · subst e2
        simp [e1]
      · simp [e1, e2]
  refine ⟨fun v => ?_, fun v hv hv2 => ?_, fun v u hu => ?_⟩
  · rw [hval]
    have h1 := h.len v
    have h2 := h.len l
    have h3 := h.len k
    split
    · simp; omega
    · split
      · simp; omega
      · omega
  · rw [hin]
    by_cases e : v = k
    · subst e
      exact .inr (.inr ⟨rfl, hl⟩)
    · exact .inl (h.to v (by omega) hv2)
  · rw [hin] at hu ⊢
    rcases hu with hu | ⟨rfl, rfl⟩ | ⟨rfl, rfl⟩
    · obtain ⟨a, b, c, d⟩ := h.mem v u hu
      exact ⟨a, b, c, .inl d⟩
    · exact ⟨hk, hln, by rw [hfix, hl], .inr (.inr ⟨rfl, rfl⟩)⟩
    · exact ⟨hln, hk, by rw [hfix, hl], .inr (.inl ⟨rfl, rfl⟩)⟩

/-- The lists as a graph. -/
def starRows (n : Nat) (hs : Nat → List Nat) : List (List Int) := (List.range n).map fun v => (hs v).map fun (u : Nat) => (u : Int)

theorem starRows_length (n : Nat) (hs : Nat → List Nat) : (starRows n hs).length = n := by simp [starRows]
theorem starRows_get {n v : Nat} (hs : Nat → List Nat) (hv : v < n) : (starRows n hs).getD v [] = (hs v).map fun (u : Nat) => (u : Int) := by simp [starRows, List.getD, hv]

theorem Star.wf {cl : Nat → Nat} {n k : Nat} {hs : Nat → List Nat} (h : Star cl n k hs) : WF (starRows n hs) := by
  refine ⟨fun v hv u hu => ?_, fun v hv u hu => ?_⟩
  · rw [starRows_length] at hv ⊢
    rw [starRows_get hs hv] at hu
    obtain ⟨x, hx, rfl⟩ := List.mem_map.1 hu
    have := (h.mem v x hx).1
    omega
  · rw [starRows_length] at hv
    rw [starRows_get hs hv] at hu
    obtain ⟨x, hx, rfl⟩ := List.mem_map.1 hu
    obtain ⟨h1, -, -, h4⟩ := h.mem v x hx
    rw [Int.toNat_natCast, starRows_get hs h1]
    exact List.mem_map.2 ⟨v, h4, rfl⟩

/-- The same labels. -/
theorem Star.same {rows : List (List Int)} {cl d : Nat → Nat} {n : Nat} {hs : Nat → List Nat} (h : Star cl n n hs) (hn : n = rows.length) (hc : Lab rows cl) (hd : Lab (starRows n hs) d) {v : Nat} (hv : v < n) : d v = cl v := by
  refine hc.star hd (by rw [starRows_length, hn]) (fun v hv hne => ?_) (fun v hv u hu => ?_) (by omega)
  · rw [starRows_get hs (by omega)]
    exact List.mem_map.2 ⟨_, h.to v (by omega) hne, rfl⟩
  · rw [starRows_get hs (by omega)] at hu
    obtain ⟨x, hx, rfl⟩ := List.mem_map.1 hu
    rw [Int.toNat_natCast]
    exact (h.mem v x hx).2.2.1

/-- Rows of the call's own, each in a block of its own behind the row of rows. -/
structure HMem (w wr : World) (n : Nat) (F : Nat → Value) (hs : Nat → List Nat) : Prop where
  below : Below w.heap.size w wr
  lt : w.heap.size < wr.heap.size
  top : wr.rowIs w.heap.size 27 n F
  rows : ∀ v, v < n → wr.ownsRow (w.heap.size + 1) 31 1 (F v) (hs v).length ((hs v).map fun (u : Nat) => Value.int .i64 (u : Int))
  apart : ∀ v u, v < n → u < n → v ≠ u → (F v).ownBlock = none ∨ (F v).ownBlock ≠ (F u).ownBlock

theorem HMem.start (w : World) (n : Nat) : HMem w (w.alloc (.cells (madeCells #[.slice none 0 0] n) 27)) n (fun _ => .slice none 0 0) (fun _ => []) :=
  ⟨(Below.refl _ _).alloc (Nat.le_refl _) _, by simp, World.rowIs_made w _ n 27, fun _ _ => World.ownsRow_nil _ _ _ _, fun _ _ _ _ _ => .inl rfl⟩

theorem HMem.shape {w wr : World} {n : Nat} {F : Nat → Value} {hs : Nat → List Nat} (h : HMem w wr n F hs) {v : Nat} (hv : v < n) : ∃ a c, F v = .slice a (hs v).length c := by
  rcases (h.rows v hv).2 with ⟨e, h0⟩ | ⟨g, cap, cur, e, -⟩
  · exact ⟨none, 0, by rw [e, h0]⟩
  · exact ⟨_, _, e⟩

theorem HMem.put {w wr w1 : World} {n v x g1 cap1 : Nat} {F : Nat → Value} {hs : Nat → List Nat} {o : Obj} (h : HMem w wr n F hs) (hv : v < n) (hgr : (wr.alloc o).grownBy w1 (F v).ownBlock) (hat : (F v).ownBlock = some g1 ∨ g1 = wr.heap.size + 1)
    (ho : w1.ownsRow (w.heap.size + 1) 31 1 (.slice (some ⟨g1, 0, none⟩) ((hs v).length + 1) cap1) ((hs v).length + 1) (((hs v).map fun (u : Nat) => Value.int .i64 (u : Int)) ++ [.int .i64 (x : Int)])) :
    HMem w (w1.setCell ⟨w.heap.size, v, none⟩ (.slice (some ⟨g1, 0, none⟩) ((hs v).length + 1) cap1)) n (upd F v (.slice (some ⟨g1, 0, none⟩) ((hs v).length + 1) cap1)) (upd hs v (hs v ++ [x])) := by
  have hlt := h.lt
  have hown : ∀ u k, u < n → (F u).ownBlock = some k → w.heap.size + 1 ≤ k ∧ k < wr.heap.size := fun u k hu e => (h.rows u hu).lt k e
  have hsz := hgr.size
  rw [show (wr.alloc o).heap.size = wr.heap.size + 1 by simp] at hsz
  have hbl : w1.heap[w.heap.size]? = wr.heap[w.heap.size]? := by
    rw [hgr.block _ (by simp; omega) (fun e => by have := hown v _ hv e.symm; omega)]
    exact Below.heap_alloc _ _ _ (by omega)
  refine ⟨?_, by rw [size_setCell]; omega, ((h.top.of_block hbl).set v _).congr (fun i _ => rfl), fun u hu => ?_, fun u y hu hy hne => ?_⟩
  · exact ((h.below.alloc (by omega) o).grown hgr (by simp; omega) (fun k e => by have := hown v k hv e; omega)).setCell (Nat.le_refl _) _
  · by_cases e : u = v
    · subst e
      rw [upd_same, upd_same]
      refine ownsRow_setCell_below ?_ (by show w.heap.size < w.heap.size + 1; omega) _
      simpa using ho
    · rw [upd_other _ _ e, upd_other _ _ e]
      exact ownsRow_setCell_below (((h.rows u hu).alloc o).kept hgr (h.apart u v hu hv e)) (by show w.heap.size < w.heap.size + 1; omega) _
  · by_cases e1 : u = v
    · subst e1
      rw [upd_same, upd_other _ _ (fun e => hne e.symm)]
      right
      show some g1 ≠ _
      intro e
      have h2 := hown y g1 hy e.symm
      rcases hat with h3 | h3
      · rcases h.apart u y hu hy hne with h4 | h4
        · rw [h3] at h4; cases h4
        · exact h4 (by rw [h3, e])
      · omega
    · rw [upd_other _ _ e1]
      by_cases e2 : y = v
      · subst e2
        rw [upd_same]
        cases h5 : (F u).ownBlock with
        | none => exact .inl rfl
        | some k =>
          right
          show some k ≠ some g1
          intro e
          rw [Option.some.inj e] at h5
          have h2 := hown u g1 hu h5
          rcases hat with h3 | h3
          · rcases h.apart u y hu hy e1 with h4 | h4
            · rw [h5] at h4; cases h4
            · exact h4 (by rw [h3, h5])
          · omega
      · rw [upd_other _ _ e2]
        exact h.apart u y hu hy hne

/-- The cell that is stored into behind the append. -/
theorem HMem.spot {w wr w1 : World} {n v : Nat} {F : Nat → Value} {hs : Nat → List Nat} {o : Obj} (h : HMem w wr n F hs) (hv : v < n) (hgr : (wr.alloc o).grownBy w1 (F v).ownBlock) :
    w1.cell? ⟨w.heap.size, v, none⟩ = some (F v) ∧ w1.frozen? ⟨w.heap.size, v, none⟩ = false := by
  have hlt := h.lt
  have hbl : w1.heap[w.heap.size]? = wr.heap[w.heap.size]? := by
    rw [hgr.block _ (by simp; omega) (fun e => by have := (h.rows v hv).lt _ e.symm; omega)]
    exact Below.heap_alloc _ _ _ (by omega)
  exact ⟨(h.top.of_block hbl).cell hv, (h.top.of_block hbl).frozen v⟩

theorem HMem.graph {w wr : World} {n : Nat} {F : Nat → Value} {hs : Nat → List Nat} (h : HMem w wr n F hs) (hn : n ≤ 131072) (hl : ∀ v, (hs v).length ≤ n) : GraphAt wr wr.heap.size (.slice (some ⟨w.heap.size, 0, none⟩) n n) (starRows n hs) := by
  refine ⟨_, w.heap.size, 0, n, by rw [starRows_length], by rw [starRows_length]; omega, fun _ => ⟨rfl, h.lt⟩, fun i hi => ?_⟩
  rw [starRows_length] at hi
  refine ⟨F i, by rw [Nat.zero_add]; exact h.top.cell hi, ?_⟩
  rw [starRows_get hs hi]
  have hli := hl i
  have hr := h.rows i hi
  rcases hr.2 with ⟨e, h0⟩ | ⟨g, cap, cur, e, -, hg, -⟩
  · exact ⟨none, 0, 0, 0, by rw [e]; simp [h0], by simp; omega, fun h1 => by simp [h0] at h1, fun j hj => by simp [h0] at hj⟩
  · refine ⟨_, g, 0, cap, by rw [e]; simp, by simp; omega, fun _ => ⟨rfl, (Array.getElem?_eq_some_iff.1 hg).1⟩, fun j hj => ?_⟩
    have hj' : j < (hs i).length := by simpa using hj
    rw [e] at hr
    rw [Nat.zero_add, hr.cellAt j (by omega)]
    simp [List.getD, hj']

end Go.Proofs.Qxb6602969a
