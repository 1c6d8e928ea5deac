/-
  slices.SortFunc AT RowOrder's CALL: the shelf's contract, at the elements 0 .. n-1 (as 'Fin n') and the comparison by lines.
-/
import Derived.Test.Qxb6602969aOrder
import Derived.Test.Qxb6602969aClosure
import Derived.Test.Qxb6602969aLaid
import Derived.Shelf.SlSortCmp.Kit1
namespace Go.Proofs.Qxb6602969a
open Go.Shelf Go.RowKit Go.Lib Go.Sort

/-- An id as a value. -/
def encId (k : Nat) (x : Fin (k + 1)) : Value := .int .i64 (x.val : Int)
/-- The difference of two lines. -/
def cfLine (zs : List Int) (k : Nat) (x y : Fin (k + 1)) : Int := zs.getD x.val 0 - zs.getD y.val 0

theorem ltLine (zs : List Int) (k : Nat) (x y : Fin (k + 1)) : ltOf (cfLine zs k) x y = decide (zs.getD x.val 0 < zs.getD y.val 0) := by
  unfold ltOf cfLine
  by_cases h : zs.getD x.val 0 < zs.getD y.val 0
  · have : zs.getD x.val 0 - zs.getD y.val 0 < 0 := by omega
    simp only [h, this]
  · have : ¬ zs.getD x.val 0 - zs.getD y.val 0 < 0 := by omega
    simp only [h, this]

theorem swoLine (zs : List Int) (k : Nat) : SWO (ltOf (cfLine zs k)) where
  irrefl x := by rw [ltLine]; simp
  trans x y z h1 h2 := by
    rw [ltLine, decide_eq_true_eq] at *
    omega
  ntrans x y z h1 h2 := by
    rw [ltLine, decide_eq_false_iff_not] at *
    omega

/-- The ids in their order. -/
def idsOf (k : Nat) : Array (Fin (k + 1)) := Array.ofFn id
theorem idsOf_size (k : Nat) : (idsOf k).size = k + 1 := by simp [idsOf]
theorem idsOf_get (k j : Nat) (h : j < k + 1) : (idsOf k)[j]! = ⟨j, h⟩ := by
  rw [getElem!_pos _ j (by rw [idsOf_size]; exact h)]
  simp [idsOf]

/-- A cell of another block, in a world of the sort's. -/
theorem cell_sort {k : Nat} {W : World} {g m : Nat} {dk : Array (Fin (k + 1))} {os : Array Obj} {a : Addr} {v : Value} (ha : a.block < W.heap.size) (hne : a.block ≠ g) (h : W.cell? a = some v) : (sortWorld (encId k) W g 0 m dk os).cell? a = some v := by
  unfold sortWorld
  rw [cell?_grow _ _ _ (by rw [size_putRow]; exact ha), cell?_putRow_other _ _ _ _ _ _ (.inl hne)]
  exact h

theorem cmpLine (k fb b o m lc g : Nat) (zs : List Int) (W : World) (hfb : fb < W.heap.size) (hfg : fb ≠ g) (h2 : W.cell? ⟨fb, 2, none⟩ = some (.slice (some ⟨b, o, none⟩) m lc)) (hb : b < W.heap.size) (hbg : b ≠ g) (hkm : k + 1 ≤ m)
    (hc : ∀ i, i < m → W.cell? ⟨b, o + i, none⟩ = some (.int .i64 (zs.getD i 0))) (h0 : ∀ i, i < k + 1 → 0 ≤ zs.getD i 0) (h1 : ∀ i, i < k + 1 → zs.getD i 0 ≤ 9223372036854775807) :
    CmpReads Try.prog 33 #[.pointer (some ⟨fb, 0, none⟩)] (encId k) (cfLine zs k) g 0 (k + 1) W := by
  intro mm os dk _ x y
  have hx := x.isLt
  have hy := y.isLt
  exact closure33 fb b o m lc x.val y.val (zs.getD x.val 0) (zs.getD y.val 0) _ (cell_sort hfb hfg h2) (by omega) (by omega)
    (cell_sort (a := ⟨b, o + x.val, none⟩) hb hbg (hc _ (by omega))) (cell_sort (a := ⟨b, o + y.val, none⟩) hb hbg (hc _ (by omega))) (h0 _ hx) (h1 _ hx) (h0 _ hy) (h1 _ hy)

/-- What a world of the sort's holds: the row; nothing else has turned. -/
theorem sort_row {k : Nat} {W : World} {g m : Nat} {d : Array (Fin (k + 1))} {os : Array Obj} {f : Nat → Int} (hr : RowI W g 3 (k + 1) f) (hd : d.size = k + 1) :
    RowI (sortWorld (encId k) W g 0 m d os) g 3 (k + 1) (fun i => ((d[i]!).val : Int)) ∧ W.grownBy (sortWorld (encId k) W g 0 m d os) (some g) := by
  have hlt := hr.lt
  obtain ⟨c, hb, hn, hc⟩ := hr
  have hold : ∀ j, j < W.heap.size → (sortWorld (encId k) W g 0 m d os).heap[j]? = (putRow (encId k) (Sort.ahead W m) g 0 d).heap[j]? := fun j hj => heap_grow_old _ _ (by rw [size_putRow]; exact hj)
  refine ⟨⟨putCells (encId k) 0 d c, ?_, ?_, fun i hi => ?_⟩, ⟨rfl, rfl, rfl, ?_, fun j hj hne => ?_⟩⟩
  · rw [hold g hlt]
    show (W.heap.modify g (onCells (putCells (encId k) 0 d)))[g]? = _
    rw [Array.getElem?_modify, if_pos rfl, hb]
    rfl
  · simp [putCells, hn]
  · have hic : i < c.size := by omega
    simp only [putCells, Array.getElem?_mapIdx, Array.getElem?_eq_getElem hic, Option.map_some]
    rw [if_pos ⟨Nat.zero_le _, by omega⟩]
    rfl
  · show W.heap.size ≤ (grow (putRow (encId k) (Sort.ahead W m) g 0 d) os).heap.size
    rw [size_grow, size_putRow]
    exact Nat.le_add_right _ _
  · rw [hold j hj]
    show (W.heap.modify g (onCells (putCells (encId k) 0 d)))[j]? = _
    rw [Array.getElem?_modify, if_neg (fun e => hne (by rw [e]))]

/-- From the sort's own words to 'OrdOK'. -/
theorem ord_of (zs : List Int) (k : Nat) (d : Array (Fin (k + 1))) (hp : PermIn 0 (k + 1) (idsOf k) d) (hs : SortedIn (ltOf (cfLine zs k)) 0 (k + 1) d) : OrdOK (k + 1) zs (fun i => (d[i]!).val) := by
  have hsz : d.size = k + 1 := by rw [hp.1, idsOf_size]
  have hperm : d.toList.Perm (idsOf k).toList := by
    have := hp.2.2
    rw [Array.extract_eq_self_of_le (by omega), Array.extract_eq_self_of_le (by rw [idsOf_size]; omega)] at this
    exact this
  have hnd : (idsOf k).toList.Nodup := by
    unfold List.Nodup
    rw [List.pairwise_iff_getElem]
    intro i j hi hj hij e
    have e2 := congrArg Fin.val e
    rw [Array.getElem_toList, Array.getElem_toList] at e2
    simp only [idsOf, Array.getElem_ofFn, id] at e2
    omega
  have hnd2 : d.toList.Nodup := hperm.nodup_iff.2 hnd
  unfold List.Nodup at hnd2
  rw [List.pairwise_iff_getElem] at hnd2
  have key : ∀ (i j : Nat) (hi : i < d.size) (hj : j < d.size), i < j → d[i] ≠ d[j] := fun i j hi hj hij e =>
    hnd2 i j (by rw [Array.length_toList]; exact hi) (by rw [Array.length_toList]; exact hj) hij (by rw [Array.getElem_toList, Array.getElem_toList]; exact e)
  refine ⟨fun i _ => (d[i]!).isLt, fun i j hi hj e => ?_, fun i j hij hj => ?_⟩
  · have e2 : d[i]! = d[j]! := Fin.ext e
    rw [getElem!_pos d i (by omega), getElem!_pos d j (by omega)] at e2
    rcases Nat.lt_trichotomy i j with h | h | h
    · exact absurd e2 (key i j _ _ h)
    · exact h
    · exact absurd e2.symm (key j i _ _ h)
  · have := hs i j (Nat.zero_le _) hij hj
    rw [ltLine, decide_eq_false_iff_not] at this
    show zs.getD (d[i]!).val 0 ≤ zs.getD (d[j]!).val 0
    omega

end Go.Proofs.Qxb6602969a
