/-
  MEMORY WORDS OF THIS SEAT: a slice of numbers that lies in a world ('RowAt'), a slice of such slices ('GraphAt'), and how both outlive a call that turns nothing below a block number.
-/
import Derived.WalkKit
import Derived.Deep.OwnRows
import Derived.Deep.Draws
import Derived.WalkSmall
namespace Go.Proofs.Qxb6602969a
open Go.RowKit

theorem getD_mem {ys : List Int} {i : Nat} (h : i < ys.length) : ys.getD i 0 ∈ ys := by
  simp [List.getD, List.getElem?_eq_getElem h]

/-- The slice value v holds the numbers zs in the world w; its block lies below B. -/
def RowAt (w : World) (B : Nat) (v : Value) (zs : List Int) : Prop :=
  ∃ (a : Option Addr) (b o c : Nat), v = .slice a zs.length c ∧ zs.length ≤ 9223372036854775807 ∧ (0 < zs.length → a = some ⟨b, o, none⟩ ∧ b < B) ∧
    ∀ j, j < zs.length → w.cell? ⟨b, o + j, none⟩ = some (.int .i64 (zs.getD j 0))

/-- The slice value v holds slices that hold the rows. -/
def GraphAt (w : World) (B : Nat) (v : Value) (rows : List (List Int)) : Prop :=
  ∃ (a : Option Addr) (b o c : Nat), v = .slice a rows.length c ∧ rows.length ≤ 9223372036854775807 ∧ (0 < rows.length → a = some ⟨b, o, none⟩ ∧ b < B) ∧
    ∀ i, i < rows.length → ∃ u, w.cell? ⟨b, o + i, none⟩ = some u ∧ RowAt w B u (rows.getD i [])

theorem RowAt.below {w w' : World} {B : Nat} {v : Value} {zs : List Int} (h : RowAt w B v zs) (hb : Below B w w') : RowAt w' B v zs := by
  obtain ⟨a, b, o, c, hv, hl, ha, hc⟩ := h
  exact ⟨a, b, o, c, hv, hl, ha, fun j hj => by rw [hb.cell (p := ⟨b, o + j, none⟩) (ha (by omega)).2]; exact hc j hj⟩

theorem GraphAt.below {w w' : World} {B : Nat} {v : Value} {rows : List (List Int)} (h : GraphAt w B v rows) (hb : Below B w w') : GraphAt w' B v rows := by
  obtain ⟨a, b, o, c, hv, hl, ha, hc⟩ := h
  refine ⟨a, b, o, c, hv, hl, ha, fun j hj => ?_⟩
  obtain ⟨u, hu, hr⟩ := hc j hj
  exact ⟨u, by rw [hb.cell (p := ⟨b, o + j, none⟩) (ha (by omega)).2]; exact hu, hr.below hb⟩

theorem RowAt.mono {w : World} {B B' : Nat} {v : Value} {zs : List Int} (h : RowAt w B v zs) (hb : B ≤ B') : RowAt w B' v zs := by
  obtain ⟨a, b, o, c, hv, hl, ha, hc⟩ := h
  exact ⟨a, b, o, c, hv, hl, fun h0 => ⟨(ha h0).1, Nat.lt_of_lt_of_le (ha h0).2 hb⟩, hc⟩

theorem GraphAt.mono {w : World} {B B' : Nat} {v : Value} {rows : List (List Int)} (h : GraphAt w B v rows) (hb : B ≤ B') : GraphAt w B' v rows := by
  obtain ⟨a, b, o, c, hv, hl, ha, hc⟩ := h
  refine ⟨a, b, o, c, hv, hl, fun h0 => ⟨(ha h0).1, Nat.lt_of_lt_of_le (ha h0).2 hb⟩, fun j hj => ?_⟩
  obtain ⟨u, hu, hr⟩ := hc j hj
  exact ⟨u, hu, hr.mono hb⟩

/-- A row, laid out for a walk: its length and its numbers behind letters. -/
theorem RowAt.parts {w : World} {B : Nat} {v : Value} {zs : List Int} (h : RowAt w B v zs) :
    ∃ (a : Option Addr) (b o c L : Nat) (f : Nat → Int), v = .slice a L c ∧ Hid (L = zs.length) ∧ L ≤ 9223372036854775807 ∧ (0 < L → a = some ⟨b, o, none⟩ ∧ b < B) ∧
      (∀ j, j < L → w.cell? ⟨b, o + j, none⟩ = some (.int .i64 (f j))) ∧ Hid (∀ j, j < L → f j = zs.getD j 0) ∧ Hid (∀ j, j < L → f j ∈ zs) := by
  obtain ⟨a, b, o, c, hv, hl, ha, hc⟩ := h
  exact ⟨a, b, o, c, zs.length, fun j => zs.getD j 0, hv, rfl, hl, ha, hc, fun _ _ => rfl, fun j hj => getD_mem hj⟩

/-- A graph, laid out for a walk. -/
theorem GraphAt.parts {w : World} {B : Nat} {v : Value} {rows : List (List Int)} (h : GraphAt w B v rows) :
    ∃ (a : Option Addr) (b o c n : Nat), v = .slice a n c ∧ Hid (n = rows.length) ∧ n ≤ 9223372036854775807 ∧ (0 < n → a = some ⟨b, o, none⟩ ∧ b < B) ∧
      Hid (∀ i, i < n → ∃ u, w.cell? ⟨b, o + i, none⟩ = some u ∧ RowAt w B u (rows.getD i [])) := by
  obtain ⟨a, b, o, c, hv, hl, ha, hc⟩ := h
  exact ⟨a, b, o, c, rows.length, hv, rfl, hl, ha, hc⟩

/-- Block g is a row of n numbers f, of type t, none frozen. -/
def RowI (w : World) (g : Nat) (t : TypeId) (n : Nat) (f : Nat → Int) : Prop := w.rowIs g t n (fun i => .int .i64 (f i))

theorem RowI.cell {w : World} {g t n : Nat} {f : Nat → Int} (h : RowI w g t n f) {i : Nat} (hi : i < n) : w.cell? ⟨g, i, none⟩ = some (.int .i64 (f i)) := World.rowIs.cell h hi
theorem RowI.frozen {w : World} {g t n : Nat} {f : Nat → Int} (h : RowI w g t n f) (i : Nat) : w.frozen? ⟨g, i, none⟩ = false := World.rowIs.frozen h i
theorem RowI.lt {w : World} {g t n : Nat} {f : Nat → Int} (h : RowI w g t n f) : g < w.heap.size := World.rowIs.lt h
theorem RowI.of_block {w w' : World} {g t n : Nat} {f : Nat → Int} (h : RowI w g t n f) (e : w'.heap[g]? = w.heap[g]?) : RowI w' g t n f := World.rowIs.of_block h e
theorem RowI.congr {w : World} {g t n : Nat} {f f' : Nat → Int} (h : RowI w g t n f) (e : ∀ i, i < n → f i = f' i) : RowI w g t n f' := World.rowIs.congr h (fun i hi => by rw [e i hi])
theorem RowI.set {w : World} {g t n : Nat} {f : Nat → Int} (h : RowI w g t n f) (k : Nat) (x : Int) : RowI (w.setCell ⟨g, k, none⟩ (.int .i64 x)) g t n (fun j => if j = k then x else f j) :=
  (World.rowIs.set h k (.int .i64 x)).congr (fun i _ => by by_cases e : i = k <;> simp [e])
theorem RowI.other {w : World} {g t n : Nat} {f : Nat → Int} (h : RowI w g t n f) {a : Addr} (ha : g ≠ a.block) (v : Value) : RowI (w.setCell a v) g t n f := World.rowIs.setOther h ha v
theorem RowI.alloc {w : World} {g t n : Nat} {f : Nat → Int} (h : RowI w g t n f) (o : Obj) : RowI (w.alloc o) g t n f := World.rowIs.alloc h o
theorem RowI.drewN {w : World} {g t n : Nat} {f : Nat → Int} (h : RowI w g t n f) (k : Nat) : RowI (w.drewN k) g t n f := h
theorem RowI.below {w w' : World} {g t n B : Nat} {f : Nat → Int} (h : RowI w g t n f) (hb : Below B w w') (hg : g < B) : RowI w' g t n f := h.of_block (hb.block g hg)
theorem RowI.made (w : World) (n : Nat) (t : TypeId) : RowI (w.alloc (.cells (madeCells #[.int .i64 0] n) t)) w.heap.size t n (fun _ => 0) := World.rowIs_made w (.int .i64 0) n t

/-- A row of the call's own as a slice of numbers. -/
theorem RowI.rowAt {w : World} {g t n c : Nat} {f : Nat → Int} (h : RowI w g t n f) (hn : n ≤ 9223372036854775807) : RowAt w w.heap.size (.slice (some ⟨g, 0, none⟩) n c) ((List.range n).map f) := by
  refine ⟨some ⟨g, 0, none⟩, g, 0, c, by simp, by simpa using hn, fun _ => ⟨rfl, h.lt⟩, fun j hj => ?_⟩
  have hj' : j < n := by simpa using hj
  rw [Nat.zero_add, h.cell hj']
  simp [hj']

/-- Below, and the number of blocks has not turned but by a store: a store into a block from B on. -/
theorem size_setCell (w : World) (a : Addr) (v : Value) : (w.setCell a v).heap.size = w.heap.size := by simp [World.setCell]

end Go.Proofs.Qxb6602969a
