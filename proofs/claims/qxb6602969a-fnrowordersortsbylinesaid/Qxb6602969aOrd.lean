/-
  THE WALKS of RowOrder's law's small callees: zzBytes_.., zzRowOrderSmall, zzLinesOK, zzCloneInts.
-/
import Derived.Test.Qxb6602969aRows
import Derived.Test.Qxb6602969aMem
import Derived.WalkSpells
import Derived.WalkLawsBesides
import Derived.Deep.Light
import Derived.BigGuardPart
namespace Go.Proofs.Qxb6602969a
open Go.RowKit

theorem Try.infoO3 : (Try.prog.info? 3).map (fun i => (i.zero, i.size, i.bytes)) = some (some (.int .i64 0), 1, 8) := by kernel_rfl

def Bytes20Post (p n m : Nat) (w : World) (e : Ending) (w' : World) : Prop :=
  ∃ b : Bool, e = .returned (.bool b) ∧ w' = w ∧ (b = true → p ≤ 1048576 ∧ n ≤ 1048576 ∧ m ≤ 1048576)

set_option maxHeartbeats 1000000 in
theorem bytes20 (s : ByteArray) (pa la : Option Addr) (n m pc lc : Nat) (w : World) (hs : s.size ≤ 9223372036854775807) (hn : n ≤ 9223372036854775807) (hm : m ≤ 9223372036854775807) :
    Calls Try.prog 20 #[.string s, .slice pa n pc, .slice la m lc] w fun e w' => Bytes20Post s.size n m w e w' := by
  by_cases h1 : 1048576 < s.size
  · go_enter Try.func20, Try.ntmps20
    go_wp2
    go_ret
    exact ⟨false, rfl, rfl, fun h => by cases h⟩
  by_cases h2 : 1048576 < n
  · go_enter Try.func20, Try.ntmps20
    go_wp2
    go_ret
    exact ⟨false, rfl, rfl, fun h => by cases h⟩
  by_cases h3 : 1048576 < s.size + n
  · go_enter Try.func20, Try.ntmps20
    go_wp2
    go_ret
    exact ⟨false, rfl, rfl, fun h => by cases h⟩
  by_cases h4 : 1048576 < m
  · go_enter Try.func20, Try.ntmps20
    go_wp2
    go_ret
    exact ⟨false, rfl, rfl, fun h => by cases h⟩
  by_cases h5 : 1048576 < s.size + n + m
  · go_enter Try.func20, Try.ntmps20
    go_wp2
    go_ret
    exact ⟨false, rfl, rfl, fun h => by cases h⟩
  go_enter Try.func20, Try.ntmps20
  go_wp2
  go_ret
  exact ⟨true, rfl, rfl, fun _ => ⟨by omega, by omega, by omega⟩⟩

def Small21Post (n m : Nat) (w : World) (e : Ending) (w' : World) : Prop :=
  ∃ b : Bool, e = .returned (.bool b) ∧ w' = w ∧ (b = true → n ≤ 65536 ∧ m ≤ 131072)

set_option maxHeartbeats 1000000 in
theorem small21 (s : ByteArray) (pa la : Option Addr) (n m pc lc : Nat) (w : World) (hs : s.size ≤ 1048576) (hn : n ≤ 1048576) (hm : m ≤ 1048576) :
    Calls Try.prog 21 #[.string s, .slice pa n pc, .slice la m lc] w fun e w' => Small21Post n m w e w' := by
  have g1 : decide ((1048576 : Int) < (s.size : Int)) = false := by simp; omega
  by_cases h2 : 65536 < n
  · go_enter Try.func21, Try.ntmps21
    go_wp2
    go_ret
    exact ⟨false, rfl, rfl, fun h => by cases h⟩
  have g2 : decide ((65536 : Int) < (n : Int)) = false := by simp; omega
  by_cases h3 : 131072 < m
  · go_enter Try.func21, Try.ntmps21
    go_wp2
    go_ret
    exact ⟨false, rfl, rfl, fun h => by cases h⟩
  have g3 : decide ((131072 : Int) < (m : Int)) = false := by simp; omega
  go_enter Try.func21, Try.ntmps21
  go_wp2
  go_ret
  exact ⟨_, rfl, rfl, fun _ => ⟨by omega, by omega⟩⟩

def LinesPost (n : Nat) (la : Option Addr) (zs : List Int) (w : World) (e : Ending) (w' : World) : Prop :=
  ∃ b : Bool, e = .returned (.bool b) ∧ w' = w ∧ (b = true → la = none ∨ (n ≤ zs.length ∧ ∀ i, i < n → 0 ≤ zs.getD i 0))

set_option maxHeartbeats 1000000 in
theorem lines22 (n m lc : Nat) (la : Option Addr) (zs : List Int) (w : World) (B : Nat) (hr : RowAt w B (.slice la m lc) zs) :
    Calls Try.prog 22 #[.int .i64 (n : Int), .slice la m lc] w fun e w' => LinesPost n la zs w e w' := by
  obtain ⟨a, b, o, c, L, f, e, HL, hL, ha, hc, HF, HM⟩ := hr.parts
  cases e
  clear hr
  cases la with
  | none =>
    have hnil := fun w => Lib.run_eql_slice_nil (P := Try.prog) w 29 3 none m lc 0 0 Try.underlying29
    clear hc
    go_enter Try.func22, Try.ntmps22
    go_wp2
    go_ret
    exact ⟨true, rfl, rfl, fun _ => .inl rfl⟩
  | some ad =>
    have hnil := fun w => Lib.run_eql_slice_nil (P := Try.prog) w 29 3 (some ad) m lc 0 0 Try.underlying29
    by_cases hmn : m < n
    · clear hc
      go_enter Try.func22, Try.ntmps22
      go_wp2
      go_ret
      exact ⟨false, rfl, rfl, fun h => by cases h⟩
    · have hmd : decide ((m : Int) < (n : Int)) = false := by simp; omega
      go_enter Try.func22, Try.ntmps22
      go_wp2
      clear hnil
      go_loop [5] (fun x => ∃ k : Nat, k ≤ n ∧ x = .int .i64 k ∧ Hid (∀ i, i < k → 0 ≤ f i)) (fun x => n - (intOf x).toNat)
      case atStart => exact ⟨0, Nat.zero_le _, rfl, fun i hi => absurd hi (Nat.not_lt_zero _)⟩
      case round =>
        obtain ⟨k, hk, rfl, H1⟩ := hrel
        by_cases hlt : k < n
        · obtain ⟨e, hbB⟩ := ha (by omega)
          obtain rfl := Option.some.inj e
          clear e
          have hck := hc k (by omega)
          obtain ⟨y, hy⟩ : ∃ y, y = f k := ⟨_, rfl⟩
          rw [← hy] at hck
          have HY : Hid (y = f k) := hy
          clear hy hc
          by_cases hy0 : y < 0
          · go_wp2
            go_ret
            exact ⟨false, rfl, rfl, fun h => by cases h⟩
          · have hyd : decide (y < 0) = false := by simp; omega
            go_wp2
            go_round
            case rel =>
              go_light
              refine ⟨k + 1, by omega, by go_num, fun i hi => ?_⟩
              by_cases e : i = k
              · rw [e, ← HY.out]; omega
              · exact H1.out i (by omega)
            case measure => go_light; simp [intOf]; omega
        · clear hc
          go_wp2
          go_ret
          exact ⟨true, rfl, rfl, fun _ => .inr ⟨by rw [← HL.out]; omega, fun i hi => by rw [← HF.out i (by omega)]; exact H1.out i (by omega)⟩⟩

theorem RowAt.setOther {w : World} {B n c : Nat} {a : Option Addr} {zs : List Int} (h : RowAt w B (.slice a n c) zs) {p : Addr} (hp : ∀ ad, a = some ad → ad.block ≠ p.block) (x : Value) : RowAt (w.setCell p x) B (.slice a n c) zs := by
  obtain ⟨a', b, o, c', hv, hl, ha, hc⟩ := h
  refine ⟨a', b, o, c', hv, hl, ha, fun j hj => ?_⟩
  have hb := ha (by omega)
  injection hv with e1 e2 e3
  have := hp ⟨b, o, none⟩ (by rw [e1, hb.1])
  rw [World.cell?_setCell_other _ _ _ _ (fun e => this (by rw [e]))]
  exact hc j hj

/-- A copy: nil stays nil. -/
def CopyPost (la : Option Addr) (zs : List Int) (w : World) (e : Ending) (w' : World) : Prop :=
  ∃ (a' : Option Addr) (c' : Nat), e = .returned (.slice a' zs.length c') ∧ RowAt w' w'.heap.size (.slice a' zs.length c') zs ∧ (a' = none ↔ la = none) ∧ (∀ ad, a' = some ad → w.heap.size ≤ ad.block) ∧ Below w.heap.size w w'

/-- The row that is copied. -/
structure CopyIn (wr wi : World) (L j : Nat) (f : Nat → Int) : Prop where
  below : Below wr.heap.size wr wi
  row : ∃ f', RowI wi wr.heap.size 3 L f' ∧ ∀ i, i < j → f' i = f i

theorem CopyIn.start (wr : World) (L : Nat) (f : Nat → Int) : CopyIn wr (wr.alloc (.cells (madeCells #[.int .i64 0] L) 3)) L 0 f :=
  ⟨(Below.refl _ _).alloc (Nat.le_refl _) _, ⟨_, RowI.made wr L 3, fun _ h0 => absurd h0 (Nat.not_lt_zero _)⟩⟩

theorem CopyIn.put {wr wi : World} {L j : Nat} {f : Nat → Int} (h : CopyIn wr wi L j f) : CopyIn wr (wi.setCell ⟨wr.heap.size, j, none⟩ (.int .i64 (f j))) L (j + 1) f := by
  obtain ⟨hb, f', hf, hfz⟩ := h
  refine ⟨hb.setCell (Nat.le_refl _) _, ⟨_, hf.set j (f j), fun i hi => ?_⟩⟩
  by_cases e : i = j
  · simp [e]
  · simpa [e] using hfz i (by omega)

set_option maxHeartbeats 1000000 in
theorem copy24 (m lc : Nat) (la : Option Addr) (zs : List Int) (w : World) (hr : RowAt w w.heap.size (.slice la m lc) zs) (hm : m ≤ 131072) :
    Calls Try.prog 24 #[.slice la m lc] w fun e w' => CopyPost la zs w e w' := by
  obtain ⟨a, b, o, c, L, f, e, HL, hL, ha, hc, HF, HM⟩ := hr.parts
  cases e
  clear hr
  cases la with
  | none =>
    have hm0 : m = 0 := by
      by_cases h0 : 0 < m
      · exact absurd (ha h0).1 (by simp)
      · omega
    have HZ : Hid (zs.length = 0) := by rw [← HL.out]; exact hm0
    have hnil := fun w => Lib.run_eql_slice_nil (P := Try.prog) w 29 3 none m lc 0 0 Try.underlying29
    clear hc hm0
    go_enter Try.func24, Try.ntmps24
    go_wp2
    go_ret
    refine ⟨none, 0, ?_, ?_, ⟨fun _ => rfl, fun _ => rfl⟩, (fun _ h => by cases h), Below.refl _ _⟩
    · rw [HZ.out]; rfl
    · exact ⟨none, 0, 0, 0, rfl, by rw [HZ.out]; omega, fun h => by rw [HZ.out] at h; omega, fun j hj => by rw [HZ.out] at hj; omega⟩
  | some ad =>
    have hnil := fun w => Lib.run_eql_slice_nil (P := Try.prog) w 29 3 (some ad) m lc 0 0 Try.underlying29
    have hmk := run_make_row' (P := Try.prog) 29 3 (.int .i64 0) 8 Try.underlying29 Try.infoO3 rfl .i64 .i64 m (by omega) (by omega)
    go_enter Try.func24, Try.ntmps24
    go_wp2
    clear hnil hmk
    go_loopw [4] (fun x wi => ∃ j : Nat, j ≤ m ∧ x = .int .i64 j ∧ CopyIn w wi m j f) (fun x _ => m - (intOf x).toNat)
    case atStart => exact ⟨0, Nat.zero_le _, rfl, CopyIn.start w m f⟩
    case round =>
      obtain ⟨j, hj, rfl, hI⟩ := hrel
      by_cases hjm : j < m
      · obtain ⟨e, hbB⟩ := ha (by omega)
        obtain rfl := Option.some.inj e
        clear e
        have hcj : wr.cell? ⟨b, o + j, none⟩ = some (.int .i64 (f j)) := by rw [hI.below.cell (p := ⟨b, o + j, none⟩) hbB]; exact hc j hjm
        obtain ⟨f', hf', -⟩ := hI.row
        have hst1 := hf'.cell hjm
        have hst2 := hf'.frozen j
        clear hc hf'
        go_wp2
        go_roundw
        case rel => go_light; exact ⟨j + 1, by omega, by go_num, hI.put⟩
        case measure => go_light; simp [intOf]; omega
      · clear hc
        go_wp2
        go_ret
        obtain ⟨f', hf', hz⟩ := hI.row
        have e1 : zs = (List.range m).map f' := by
          apply List.ext_getElem?
          intro i
          by_cases hi : i < m
          · have h1 := HF.out i hi
            have h2 := hz i (by omega)
            have h3 : i < zs.length := by rw [← HL.out]; exact hi
            rw [List.getD, List.getElem?_eq_getElem h3] at h1
            simp [hi, List.getElem?_eq_getElem h3, h2, h1]
          · rw [List.getElem?_eq_none (by rw [← HL.out]; omega), List.getElem?_eq_none (by simp; omega)]
        refine ⟨some ⟨w.heap.size, 0, none⟩, m, by rw [← HL.out]; rfl, ?_, ⟨(fun h => by cases h), (fun h => by cases h)⟩, (fun ad h => by cases h; exact Nat.le_refl _), hI.below⟩
        rw [← HL.out, e1]
        exact hf'.rowAt (by omega)

end Go.Proofs.Qxb6602969a
