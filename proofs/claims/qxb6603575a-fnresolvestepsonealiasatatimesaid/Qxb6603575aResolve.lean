/-
  THE WALKS of resolve, ZZresolve and FnResolveStepsOneAliasAtATime.
-/
import Derived.Test.Qxb6603575aRows
import Derived.WalkKit
import Derived.WalkSpells
import Derived.WalkLawsBesides
import Derived.Deep.LoopGhost
import Derived.Deep.OwnRows
import Derived.Deep.Light
import Derived.WalkSmall
import Derived.Deep.Cut
import Derived.LaidEqlPtr
import Derived.Lib.Builder
namespace Go.Proofs.Qxb6603575a.Res
open Go.RowKit

def TruePost (w : World) (e : Ending) (w' : World) : Prop := e = .returned (.bool true) ∧ Below w.heap.size w w'

set_option maxHeartbeats 400000 in
theorem resolve_alias (b : Nat) (q : Option Addr) (w : World) (h0 : w.cell? ⟨b, 0, none⟩ = some (.int .u8 4)) (h7 : w.cell? ⟨b, 7, none⟩ = some (.pointer q)) :
    Calls Try.prog 13 #[.pointer (some ⟨b, 0, none⟩)] w fun e w' => e = .returned (.pointer q) ∧ w' = w := by
  go_enter Try.func13, Try.ntmps13
  go_wp2
  go_ret
  exact ⟨rfl, rfl⟩

set_option maxHeartbeats 400000 in
theorem resolve_end (b : Nat) (k : Int) (w : World) (hk : (k == 4) = false) (h0 : w.cell? ⟨b, 0, none⟩ = some (.int .u8 k)) :
    Calls Try.prog 13 #[.pointer (some ⟨b, 0, none⟩)] w fun e w' => e = .returned (.pointer (some ⟨b, 0, none⟩)) ∧ w' = w := by
  go_enter Try.func13, Try.ntmps13
  go_wp2
  go_ret
  exact ⟨rfl, rfl⟩

theorem Try.info26 : (Try.prog.info? 26).map (fun i => (i.zero, i.size, i.bytes)) = some (some (.pointer none), 1, 8) := by kernel_rfl

theorem Try.info34 : (Try.prog.info? 34).isSome = true := by kernel_rfl

set_option maxHeartbeats 400000 in
theorem bytes12 (s : ByteArray) (x y z : Value) (w : World) (hs : s.size ≤ 9223372036854775807) :
    Calls Try.prog 12 #[x, y, .string s, z] w fun e w' => e = .returned (.bool (decide (s.size ≤ 1048576))) ∧ w' = w := by
  by_cases h : s.size ≤ 1048576
  · have hd : decide (s.size ≤ 1048576) = true := by simpa using h
    rw [hd]
    clear hd
    go_enter Try.func12, Try.ntmps12
    go_wp2
    go_ret
    exact ⟨rfl, rfl⟩
  · have hd : decide (s.size ≤ 1048576) = false := by simpa using h
    rw [hd]
    clear hd
    go_enter Try.func12, Try.ntmps12
    go_wp2
    go_ret
    exact ⟨rfl, rfl⟩

/-- The chain from node k on: the row of pointers in the first new block; each node in a block of its own behind it. -/
structure RMem (w wr : World) (d k : Nat) (kind : Int) (P : Nat → Value) (B : Nat → Nat) : Prop where
  below : Below w.heap.size w wr
  lt : w.heap.size < wr.heap.size
  row : wr.rowIs w.heap.size 26 (d + 1) P
  ptr : ∀ i, k ≤ i → i ≤ d → P i = .pointer (some ⟨B i, 0, none⟩) ∧ w.heap.size < B i ∧ B i < wr.heap.size
  link : ∀ i, k ≤ i → i < d → wr.cell? ⟨B i, 0, none⟩ = some (.int .u8 4) ∧ wr.cell? ⟨B i, 7, none⟩ = some (.pointer (some ⟨B (i + 1), 0, none⟩))
  fin : wr.cell? ⟨B d, 0, none⟩ = some (.int .u8 kind)

def upd {α : Type} (f : Nat → α) (u : Nat) (x : α) : Nat → α := fun j => if j = u then x else f j
theorem upd_same {α : Type} (f : Nat → α) (u : Nat) (x : α) : upd f u x u = x := by simp [upd]
theorem upd_other {α : Type} (f : Nat → α) {u j : Nat} (x : α) (h : j ≠ u) : upd f u x j = f j := by simp [upd, h]

theorem size_setCell (w : World) (a : Addr) (v : Value) : (w.setCell a v).heap.size = w.heap.size := by simp [World.setCell]

/-- A new node's cells. -/
theorem new_cell (w : World) (cs : Array Value) (t : TypeId) (o : Nat) (v : Value) (h : cs[o]? = some v) (a : Addr) (x : Value) (ha : a.block ≠ w.heap.size) : ((w.alloc (.cells cs t)).setCell a x).cell? ⟨w.heap.size, o, none⟩ = some v := by
  rw [World.cell?_setCell_other _ _ _ _ (fun e => ha (by rw [e]))]
  have := cell_of_row (w.alloc (.cells cs t)) w.heap.size o cs t (0, 0) (heap_alloc_new w _)
  rw [this]
  exact h

/-- An old cell. -/
theorem old_cell {w : World} {p a : Addr} {o : Obj} {x v : Value} (hlt : p.block < w.heap.size) (hne : a.block ≠ p.block) (h : w.cell? p = some v) : ((w.alloc o).setCell a x).cell? p = some v := by
  rw [World.cell?_setCell_other _ _ _ _ (fun e => hne (by rw [e])), World.cell?_alloc_old _ _ _ (by omega)]
  exact h

/-- The end of the chain. -/
theorem node_at {W0 : World} (a : Addr) (x : Value) (cs : Array Value) (n : Nat) (hn : W0.heap.size = n) (i : Nat) (v : Value) (hi : cs[i]? = some v) (o : Obj) :
    (((W0.setCell a x).alloc (.cells cs 34)).alloc o).cell? ⟨n, i, none⟩ = some v ∧ (((W0.setCell a x).alloc (.cells cs 34)).alloc o).frozen? ⟨n, i, none⟩ = false := by
  have hb : (((W0.setCell a x).alloc (.cells cs 34)).alloc o).heap[n]? = some (.cells cs 34 (0, 0)) := by
    rw [Below.heap_alloc _ _ _ (by simp [hn])]
    have := heap_alloc_new (W0.setCell a x) (.cells cs 34)
    rw [size_setCell, hn] at this
    exact this
  exact ⟨by rw [cell_of_row _ _ _ _ _ _ hb]; exact hi, by simp [World.frozen?, hb]⟩

theorem RMem.start {w W0 : World} {d : Nat} (hb : Below w.heap.size w W0) (hsz : W0.heap.size = w.heap.size + 1) (hr : W0.rowIs w.heap.size 26 (d + 1) (fun _ => .pointer none)) (cs : Array Value) (kind : Int) (hcs : cs[0]? = some (.int .u8 kind)) :
    RMem w ((W0.alloc (.cells cs 34)).setCell ⟨w.heap.size, d, none⟩ (.pointer (some ⟨W0.heap.size, 0, none⟩))) d d kind (upd (fun _ => .pointer none) d (.pointer (some ⟨W0.heap.size, 0, none⟩))) (fun _ => W0.heap.size) := by
  refine ⟨(hb.alloc (by omega) _).setCell (Nat.le_refl _) _, by rw [size_setCell]; simp; omega, ((hr.alloc _).set d _).congr (fun i _ => rfl), fun i h1 h2 => ?_, fun i h1 h2 => by omega, ?_⟩
  · obtain rfl : i = d := by omega
    exact ⟨upd_same _ _ _, by omega, by rw [size_setCell]; simp⟩
  · exact new_cell W0 cs 34 0 _ hcs _ _ (by show w.heap.size ≠ _; omega)

/-- The end's own Alias is set: nothing of the chain turns. -/
theorem RMem.stray {w wr : World} {d : Nat} {kind : Int} {P : Nat → Value} {B : Nat → Nat} (h : RMem w wr d d kind P B) (o : Obj) (x : Value) : RMem w ((wr.alloc o).setCell ⟨B d, 7, none⟩ x) d d kind P B := by
  obtain ⟨h1, h2, h3⟩ := h.ptr d (Nat.le_refl _) (Nat.le_refl _)
  have hlt := h.lt
  refine ⟨(h.below.alloc (by omega) _).setCell (by show w.heap.size ≤ B d; omega) _, by rw [size_setCell]; simp; omega, (h.row.alloc _).setOther (by show w.heap.size ≠ B d; omega) _, fun i i1 i2 => ?_, fun i i1 i2 => by omega, ?_⟩
  · obtain ⟨a1, a2, a3⟩ := h.ptr i i1 i2
    exact ⟨a1, a2, by rw [size_setCell]; simp; omega⟩
  · rw [World.cell?_setCell_other _ _ _ _ (by simp), World.cell?_alloc_old _ _ _ (by show B d ≠ _; omega)]
    exact h.fin

/-- One alias more ahead of the chain. -/
theorem RMem.cons {w wr : World} {d k : Nat} {kind : Int} {P : Nat → Value} {B : Nat → Nat} (h : RMem w wr d (k + 1) kind P B) (hk : k < d) (cs : Array Value) (h0 : cs[0]? = some (.int .u8 4)) (h7 : cs[7]? = some (.pointer (some ⟨B (k + 1), 0, none⟩))) :
    RMem w ((wr.alloc (.cells cs 34)).setCell ⟨w.heap.size, k, none⟩ (.pointer (some ⟨wr.heap.size, 0, none⟩))) d k kind (upd P k (.pointer (some ⟨wr.heap.size, 0, none⟩))) (upd B k wr.heap.size) := by
  have hlt := h.lt
  refine ⟨(h.below.alloc (by omega) _).setCell (Nat.le_refl _) _, by rw [size_setCell]; simp; omega, ((h.row.alloc _).set k _).congr (fun i _ => rfl), fun i i1 i2 => ?_, fun i i1 i2 => ?_, ?_⟩
  · by_cases e : i = k
    · subst e
      rw [upd_same, upd_same]
      exact ⟨rfl, by omega, by rw [size_setCell]; simp⟩
    · rw [upd_other _ _ e, upd_other _ _ e]
      obtain ⟨a1, a2, a3⟩ := h.ptr i (by omega) i2
      exact ⟨a1, a2, by rw [size_setCell]; simp; omega⟩
  · by_cases e : i = k
    · subst e
      rw [upd_same, upd_other _ _ (by omega)]
      exact ⟨new_cell wr cs 34 0 _ h0 _ _ (by show w.heap.size ≠ _; omega), new_cell wr cs 34 7 _ h7 _ _ (by show w.heap.size ≠ _; omega)⟩
    · rw [upd_other _ _ e, upd_other _ _ (by omega)]
      obtain ⟨a1, a2, a3⟩ := h.ptr i (by omega) (by omega)
      obtain ⟨b1, b2⟩ := h.link i (by omega) i2
      exact ⟨old_cell a3 (by show w.heap.size ≠ B i; omega) b1, old_cell a3 (by show w.heap.size ≠ B i; omega) b2⟩
  · rw [upd_other _ _ (by omega)]
    obtain ⟨a1, a2, a3⟩ := h.ptr d (by omega) (Nat.le_refl _)
    exact old_cell a3 (by show w.heap.size ≠ B d; omega) h.fin

set_option maxHeartbeats 2000000 in
set_option maxRecDepth 100000 in
theorem walk4 (x kind : Int) (s : ByteArray) (st : Bool) (w : World) (hs : s.size ≤ 9223372036854775807) (hx1 : -9223372036854775808 ≤ x) (hx2 : x ≤ 9223372036854775807) :
    Calls Try.prog 4 #[.int .i64 x, .int .u8 kind, .string s, .bool st] w fun e w' => TruePost w e w' := by
  by_cases hsz : s.size ≤ 1048576
  · have hd0 : decide (s.size ≤ 1048576) = true := by simpa using hsz
    have hd1 : decide ((1048576 : Int) < (s.size : Int)) = false := by simp; omega
    by_cases hx0 : x < 0
    · go_enter Try.func4, Try.ntmps4
      go_wp2_with fail
      refine (bytes12 s _ _ _ _ hs).mono ?_
      rintro e w1 ⟨rfl, hw⟩
      rw [hw, hd0]
      go_wp2_with fail
      go_ret
      exact ⟨rfl, Below.refl _ _⟩
    · obtain ⟨d, rfl⟩ : ∃ d : Nat, x = d := ⟨x.toNat, by omega⟩
      have hd2 : decide ((d : Int) < 0) = false := by simp
      clear hx0
      by_cases hdb : 65536 < d
      · go_enter Try.func4, Try.ntmps4
        go_wp2_with fail
        refine (bytes12 s _ _ _ _ hs).mono ?_
        rintro e w1 ⟨rfl, hw⟩
        rw [hw, hd0]
        go_wp2_with fail
        go_ret
        exact ⟨rfl, Below.refl _ _⟩
      · have hd3 : decide ((65536 : Int) < (d : Int)) = false := by simp; omega
        cases hk : (kind == 4) with
        | true =>
          go_enter Try.func4, Try.ntmps4
          go_wp2_with fail
          refine (bytes12 s _ _ _ _ hs).mono ?_
          rintro e w1 ⟨rfl, hw⟩
          rw [hw, hd0]
          go_wp2_with fail
          go_ret
          exact ⟨rfl, Below.refl _ _⟩
        | false =>
          have hmk := run_make_row' (P := Try.prog) 24 26 (.pointer none) 8 Try.underlying24 Try.info26 rfl .i64 .i64 (d + 1) (by omega) (by omega)
          have ec : ((d + 1 : Nat) : Int) = (d : Int) + 1 := by omega
          rw [ec] at hmk
          clear ec
          go_enter Try.func4, Try.ntmps4
          go_wp2_with fail
          refine (bytes12 s _ _ _ _ hs).mono ?_
          rintro e w1 ⟨rfl, hw⟩
          rw [hw, hd0]
          clear hw w1
          go_upto_region 10 with fail
          clear hmk
          obtain ⟨W0, hW0⟩ : ∃ W, W = w.alloc (.cells (madeCells #[.pointer none] (d + 1)) 26) := ⟨_, rfl⟩
          rw [← hW0]
          have hb0 : Below w.heap.size w W0 := by rw [hW0]; exact (Below.refl _ _).alloc (Nat.le_refl _) _
          have hsz0 : W0.heap.size = w.heap.size + 1 := by rw [hW0]; simp
          have hr0 : W0.rowIs w.heap.size 26 (d + 1) (fun _ => .pointer none) := by rw [hW0]; exact World.rowIs_made w _ _ _
          clear hW0
          have hst1 : ∀ o, (W0.alloc o).cell? ⟨w.heap.size, d, none⟩ = some (.pointer none) := fun o => (hr0.alloc o).cell (by omega)
          have hst2 : ∀ o, (W0.alloc o).frozen? ⟨w.heap.size, d, none⟩ = false := fun o => (hr0.alloc o).frozen d
          go_upto_region 11 with fail
          clear hst1 hst2
          have hM := RMem.start hb0 hsz0 hr0 #[.int .u8 kind, .bool false, .bool false, .int .i64 ((d : Int) + 1), .string s, .string ⟨#[]⟩, .slice none 0 0, .pointer none] kind rfl
          rw [World.setCell_alloc_past _ _ _ _ (by omega), hsz0] at hM
          have hn7 := fun o => node_at (W0 := W0) ⟨w.heap.size, d, none⟩ (.pointer (some ⟨w.heap.size + 1, 0, none⟩)) #[.int .u8 kind, .bool false, .bool false, .int .i64 ((d : Int) + 1), .string s, .string ⟨#[]⟩, .slice none 0 0, .pointer none] (w.heap.size + 1) hsz0 7 (.pointer none) rfl o
          obtain ⟨W1, hW1⟩ : ∃ W, W = (W0.setCell ⟨w.heap.size, d, none⟩ (.pointer (some ⟨w.heap.size + 1, 0, none⟩))).alloc (.cells #[.int .u8 kind, .bool false, .bool false, .int .i64 ((d : Int) + 1), .string s, .string ⟨#[]⟩, .slice none 0 0, .pointer none] 34) := ⟨_, rfl⟩
          have hsz1 : W1.heap.size = w.heap.size + 2 := by rw [hW1]; simp [hsz0]
          rw [← hW1] at hM hn7 ⊢
          clear hW1 hr0 hb0 hsz0
          have hcP := hM.row.cell (i := d) (by omega)
          rw [upd_same] at hcP
          have hst1 := fun o => (hn7 o).1
          have hst2 := fun o => (hn7 o).2
          clear hn7
          cases st with
          | false =>
            clear hst1 hst2 hcP hsz1
            go_wp2_with fail
            go_loopw [10] (fun y wr => ∃ (k : Nat) (P : Nat → Value) (B : Nat → Nat), k ≤ d ∧ y = .int .i64 ((k : Int) - 1) ∧ RMem w wr d k kind P B) (fun y _ => (intOf y + 1).toNat)
            case atStart => exact ⟨d, _, _, Nat.le_refl _, rfl, hM⟩
            case round =>
              clear hM
              obtain ⟨k, P, B, hk2, rfl, hM⟩ := hrel
              cases k with
              | succ i =>
                have e1 : (((i + 1 : Nat) : Int) - 1) = (i : Int) := by omega
                rw [e1]
                clear e1
                obtain ⟨p1, p2, p3⟩ := hM.ptr (i + 1) (Nat.le_refl _) hk2
                have hcP := hM.row.cell (i := i + 1) (by omega)
                rw [p1] at hcP
                have hst1 : ∀ o, (wr.alloc o).cell? ⟨w.heap.size, i, none⟩ = some (P i) := fun o => (hM.row.alloc o).cell (by omega)
                have hst2 : ∀ o, (wr.alloc o).frozen? ⟨w.heap.size, i, none⟩ = false := fun o => (hM.row.alloc o).frozen i
                have hlt := hM.lt
                have hM2 := hM.cons (by omega) #[.int .u8 4, .bool false, .bool false, .int .i64 ((i : Int) + 1), .string s, .string ⟨#[]⟩, .slice none 0 0, .pointer (some ⟨B (i + 1), 0, none⟩)] rfl rfl
                rw [World.setCell_alloc_past _ _ _ _ hlt] at hM2
                clear p1 p2 p3 hM
                go_wp2_with fail
                go_roundw
                case rel => go_light; exact ⟨i, _, _, by omega, rfl, hM2⟩
                case measure => go_light; simp [intOf]
              | zero =>
                have e0 : (((0 : Nat) : Int) - 1) = -1 := by omega
                rw [e0]
                clear e0
                obtain ⟨ji, hji⟩ := Option.isSome_iff_exists.1 Try.info34
                have hneq := fun (a : Addr) (w : World) => Lib.run_neq_ptr_same (P := Try.prog) w a Try.underlying26 hji
                have heql := fun (a : Addr) (w : World) => run_eql_ptr_same (P := Try.prog) w a Try.underlying26 hji
                clear hji
                obtain ⟨p1, p2, p3⟩ := hM.ptr 0 (Nat.le_refl _) (by omega)
                have hcP := hM.row.cell (i := 0) (by omega)
                rw [p1] at hcP
                clear p1 p2 p3
                go_wp2_with fail
                go_loop [11, 12] (fun c y => ∃ j : Nat, j ≤ d + 1 ∧ y = .int .i64 j ∧ c = .pointer (some ⟨B (min j d), 0, none⟩)) (fun _ y => d + 1 - (intOf y).toNat)
                case atStart => exact ⟨0, by omega, rfl, by rw [Nat.zero_min]⟩
                case round =>
                  clear hcP
                  obtain ⟨j, hj, rfl, rfl⟩ := hrel
                  by_cases hjd : j ≤ d
                  · have hjz : (j : Int) ≤ (d : Int) := by omega
                    rw [Nat.min_eq_left hjd]
                    obtain ⟨p1, p2, p3⟩ := hM.ptr j (by omega) hjd
                    have hcj := hM.row.cell (i := j) (by omega)
                    rw [p1] at hcj
                    clear p1 p2 p3
                    by_cases hjl : j < d
                    · obtain ⟨c1, c2⟩ := hM.link j (by omega) hjl
                      go_wp2_with (go_at_call 13; refine (resolve_alias _ _ _ c1 c2).mono ?_; rintro e w' ⟨rfl, rfl⟩)
                      go_round
                      case rel => go_light; exact ⟨j + 1, by omega, by go_num, by rw [Nat.min_eq_left (by omega)]⟩
                      case measure => go_light; simp [intOf]; omega
                    · have hjd2 : j = d := by omega
                      have c1 := hM.fin
                      rw [← hjd2] at c1
                      have HJ : Hid (j = d) := hjd2
                      clear hjd2
                      go_wp2_with (go_at_call 13; refine (resolve_end _ _ _ hk c1).mono ?_; rintro e w' ⟨rfl, rfl⟩)
                      go_round
                      case rel => go_light; exact ⟨j + 1, by omega, by go_num, by rw [Nat.min_eq_right (by omega), HJ.out]⟩
                      case measure => go_light; simp [intOf]; omega
                  · have hjz : decide ((j : Int) ≤ (d : Int)) = false := by simp; omega
                    rw [Nat.min_eq_right (by omega)]
                    obtain ⟨p1, p2, p3⟩ := hM.ptr d (by omega) (Nat.le_refl _)
                    have hcd := hM.row.cell (i := d) (by omega)
                    rw [p1] at hcd
                    clear p1 p2 p3
                    go_wp2_with fail
                    go_ret
                    exact ⟨rfl, hM.below⟩
          | true =>
            have hM2 := hM.stray (.cells #[.int .u8 1, .bool false, .bool false, .int .i64 0, .string s, .string ⟨#[]⟩, .slice none 0 0, .pointer none] 34) (.pointer (some ⟨w.heap.size + 2, 0, none⟩))
            rw [World.setCell_alloc_past _ _ _ _ (by show w.heap.size + 1 < _; omega)] at hM2
            go_wp2_with fail
            clear hst1 hst2 hcP hsz1 hM
            go_loopw [10] (fun y wr => ∃ (k : Nat) (P : Nat → Value) (B : Nat → Nat), k ≤ d ∧ y = .int .i64 ((k : Int) - 1) ∧ RMem w wr d k kind P B) (fun y _ => (intOf y + 1).toNat)
            case atStart => exact ⟨d, _, _, Nat.le_refl _, rfl, hM2⟩
            case round =>
              clear hM2
              obtain ⟨k, P, B, hk2, rfl, hM⟩ := hrel
              cases k with
              | succ i =>
                have e1 : (((i + 1 : Nat) : Int) - 1) = (i : Int) := by omega
                rw [e1]
                clear e1
                obtain ⟨p1, p2, p3⟩ := hM.ptr (i + 1) (Nat.le_refl _) hk2
                have hcP := hM.row.cell (i := i + 1) (by omega)
                rw [p1] at hcP
                have hst1 : ∀ o, (wr.alloc o).cell? ⟨w.heap.size, i, none⟩ = some (P i) := fun o => (hM.row.alloc o).cell (by omega)
                have hst2 : ∀ o, (wr.alloc o).frozen? ⟨w.heap.size, i, none⟩ = false := fun o => (hM.row.alloc o).frozen i
                have hlt := hM.lt
                have hM2 := hM.cons (by omega) #[.int .u8 4, .bool false, .bool false, .int .i64 ((i : Int) + 1), .string s, .string ⟨#[]⟩, .slice none 0 0, .pointer (some ⟨B (i + 1), 0, none⟩)] rfl rfl
                rw [World.setCell_alloc_past _ _ _ _ hlt] at hM2
                clear p1 p2 p3 hM
                go_wp2_with fail
                go_roundw
                case rel => go_light; exact ⟨i, _, _, by omega, rfl, hM2⟩
                case measure => go_light; simp [intOf]
              | zero =>
                have e0 : (((0 : Nat) : Int) - 1) = -1 := by omega
                rw [e0]
                clear e0
                obtain ⟨ji, hji⟩ := Option.isSome_iff_exists.1 Try.info34
                have hneq := fun (a : Addr) (w : World) => Lib.run_neq_ptr_same (P := Try.prog) w a Try.underlying26 hji
                have heql := fun (a : Addr) (w : World) => run_eql_ptr_same (P := Try.prog) w a Try.underlying26 hji
                clear hji
                obtain ⟨p1, p2, p3⟩ := hM.ptr 0 (Nat.le_refl _) (by omega)
                have hcP := hM.row.cell (i := 0) (by omega)
                rw [p1] at hcP
                clear p1 p2 p3
                go_wp2_with fail
                go_loop [11, 12] (fun c y => ∃ j : Nat, j ≤ d + 1 ∧ y = .int .i64 j ∧ c = .pointer (some ⟨B (min j d), 0, none⟩)) (fun _ y => d + 1 - (intOf y).toNat)
                case atStart => exact ⟨0, by omega, rfl, by rw [Nat.zero_min]⟩
                case round =>
                  clear hcP
                  obtain ⟨j, hj, rfl, rfl⟩ := hrel
                  by_cases hjd : j ≤ d
                  · have hjz : (j : Int) ≤ (d : Int) := by omega
                    rw [Nat.min_eq_left hjd]
                    obtain ⟨p1, p2, p3⟩ := hM.ptr j (by omega) hjd
                    have hcj := hM.row.cell (i := j) (by omega)
                    rw [p1] at hcj
                    clear p1 p2 p3
                    by_cases hjl : j < d
                    · obtain ⟨c1, c2⟩ := hM.link j (by omega) hjl
                      go_wp2_with (go_at_call 13; refine (resolve_alias _ _ _ c1 c2).mono ?_; rintro e w' ⟨rfl, rfl⟩)
                      go_round
                      case rel => go_light; exact ⟨j + 1, by omega, by go_num, by rw [Nat.min_eq_left (by omega)]⟩
                      case measure => go_light; simp [intOf]; omega
                    · have hjd2 : j = d := by omega
                      have c1 := hM.fin
                      rw [← hjd2] at c1
                      have HJ : Hid (j = d) := hjd2
                      clear hjd2
                      go_wp2_with (go_at_call 13; refine (resolve_end _ _ _ hk c1).mono ?_; rintro e w' ⟨rfl, rfl⟩)
                      go_round
                      case rel => go_light; exact ⟨j + 1, by omega, by go_num, by rw [Nat.min_eq_right (by omega), HJ.out]⟩
                      case measure => go_light; simp [intOf]; omega
                  · have hjz : decide ((j : Int) ≤ (d : Int)) = false := by simp; omega
                    rw [Nat.min_eq_right (by omega)]
                    obtain ⟨p1, p2, p3⟩ := hM.ptr d (by omega) (Nat.le_refl _)
                    have hcd := hM.row.cell (i := d) (by omega)
                    rw [p1] at hcd
                    clear p1 p2 p3
                    go_wp2_with fail
                    go_ret
                    exact ⟨rfl, hM.below⟩
  · have hd0 : decide (s.size ≤ 1048576) = false := by simpa using hsz
    go_enter Try.func4, Try.ntmps4
    go_wp2_with fail
    refine (bytes12 s _ _ _ _ hs).mono ?_
    rintro e w1 ⟨rfl, hw⟩
    rw [hw, hd0]
    go_wp2_with fail
    go_ret
    exact ⟨rfl, Below.refl _ _⟩

end Go.Proofs.Qxb6603575a.Res
