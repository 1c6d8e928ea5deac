/-
  THE WALK of zzSortInts: a slice of new memory, all of whose numbers are numbers of the given slice. (That it is sorted is not needed by the laws: zzSortedHas answers true only where it has seen the number.)
-/
import Derived.Test.Qxb6602969aRows
import Derived.Test.Qxb6602969aMem
import Derived.WalkSpells
import Derived.WalkLawsBesides
import Derived.Deep.QuietTactic
import Derived.BigQuiet
import Derived.Deep.Light
namespace Go.Proofs.Qxb6602969a
open Go.RowKit

theorem Try.info3 : (Try.prog.info? 3).map (fun i => (i.zero, i.size, i.bytes)) = some (some (.int .i64 0), 1, 8) := by kernel_rfl

def SortPost (zs : List Int) (w : World) (e : Ending) (w' : World) : Prop :=
  ∃ (g n : Nat) (f : Nat → Int), e = .returned (.slice (some ⟨g, 0, none⟩) n n) ∧ w.heap.size ≤ g ∧ n ≤ 131072 ∧ RowI w' g 3 n f ∧ (∀ i, i < n → f i ∈ zs) ∧ Below w.heap.size w w'

/-- The two rows of the sort: blocks s and t are N and N + 1 in some order; all numbers of s are of the list; the first k of t are. -/
structure SRows (zs : List Int) (w wr : World) (n s t k : Nat) : Prop where
  below : Below w.heap.size w wr
  size : wr.heap.size = w.heap.size + 2
  st : (s = w.heap.size ∧ t = w.heap.size + 1) ∨ (s = w.heap.size + 1 ∧ t = w.heap.size)
  src : ∃ f, RowI wr s 3 n f ∧ ∀ i, i < n → f i ∈ zs
  buf : ∃ f, RowI wr t 3 n f ∧ ∀ i, i < n → i < k → f i ∈ zs

theorem SRows.put {zs : List Int} {w wr : World} {n s t k : Nat} (h : SRows zs w wr n s t k) (m : Nat) {x : Int} (hx : x ∈ zs) :
    SRows zs w ((wr.drewN m).setCell ⟨t, k, none⟩ (.int .i64 x)) n s t (k + 1) := by
  obtain ⟨hb, hs, hst, ⟨f, hf, hfz⟩, ⟨g, hg, hgz⟩⟩ := h
  refine ⟨(below_drewN hb m).setCell (by show w.heap.size ≤ t; omega) _, by rw [size_setCell]; exact hs, hst, ⟨f, (hf.drewN m).other (by show s ≠ t; omega) _, hfz⟩, ⟨_, (hg.drewN m).set k x, fun i hi hik => ?_⟩⟩
  by_cases e : i = k
  · simpa [e] using hx
  · simpa [e] using hgz i hi (by omega)

theorem SRows.weak {zs : List Int} {w wr : World} {n s t k k' : Nat} (h : SRows zs w wr n s t k) (hk : n ≤ k ∨ k' ≤ k) : SRows zs w wr n s t k' := by
  obtain ⟨hb, hs, hst, hf, ⟨g, hg, hgz⟩⟩ := h
  exact ⟨hb, hs, hst, hf, ⟨g, hg, fun i hi h0 => hgz i hi (by omega)⟩⟩

theorem SRows.swap {zs : List Int} {w wr : World} {n s t k : Nat} (h : SRows zs w wr n s t k) (hk : n ≤ k) : SRows zs w wr n t s 0 := by
  obtain ⟨hb, hs, hst, ⟨f, hf, hfz⟩, ⟨g, hg, hgz⟩⟩ := h
  exact ⟨hb, hs, hst.elim (fun e => .inr ⟨e.2, e.1⟩) (fun e => .inl ⟨e.2, e.1⟩), ⟨g, hg, fun i hi => hgz i hi (by omega)⟩, ⟨f, hf, fun i _ h0 => absurd h0 (Nat.not_lt_zero _)⟩⟩

theorem SRows.out {zs : List Int} {w wr : World} {n s t k : Nat} (h : SRows zs w wr n s t k) (hn : n ≤ 131072) : SortPost zs w (.returned (.slice (some ⟨s, 0, none⟩) n n)) wr := by
  obtain ⟨hb, hs, hst, ⟨f, hf, hfz⟩, _⟩ := h
  exact ⟨s, n, f, rfl, by omega, hn, hf, hfz, hb⟩

/-- The copy's own row. -/
structure CRow (zs : List Int) (w wr : World) (n k : Nat) : Prop where
  below : Below w.heap.size w wr
  size : wr.heap.size = w.heap.size + 1
  src : ∃ f, RowI wr w.heap.size 3 n f ∧ ∀ i, i < n → i < k → f i ∈ zs

theorem CRow.start (zs : List Int) (w : World) (n : Nat) : CRow zs w (w.alloc (.cells (madeCells #[.int .i64 0] n) 3)) n 0 :=
  ⟨(Below.refl _ _).alloc (Nat.le_refl _) _, by simp, ⟨_, RowI.made w n 3, fun i _ h0 => absurd h0 (Nat.not_lt_zero _)⟩⟩

theorem CRow.put {zs : List Int} {w wr : World} {n k : Nat} (h : CRow zs w wr n k) {x : Int} (hx : x ∈ zs) : CRow zs w (wr.setCell ⟨w.heap.size, k, none⟩ (.int .i64 x)) n (k + 1) := by
  obtain ⟨hb, hs, ⟨g, hg, hgz⟩⟩ := h
  refine ⟨hb.setCell (by show w.heap.size ≤ w.heap.size; omega) _, by rw [size_setCell]; exact hs, ⟨_, hg.set k x, fun i hi hik => ?_⟩⟩
  by_cases e : i = k
  · simpa [e] using hx
  · simpa [e] using hgz i hi (by omega)

theorem CRow.buf {zs : List Int} {w wr : World} {n k : Nat} (h : CRow zs w wr n k) (hk : n ≤ k) :
    SRows zs w (wr.alloc (.cells (madeCells #[.int .i64 0] n) 3)) n w.heap.size (w.heap.size + 1) 0 := by
  obtain ⟨hb, hs, ⟨g, hg, hgz⟩⟩ := h
  refine ⟨hb.alloc (by omega) _, by simp [hs], .inl ⟨rfl, rfl⟩, ⟨g, hg.alloc _, fun i hi => hgz i hi (by omega)⟩, ⟨fun _ => 0, ?_, fun i _ h0 => absurd h0 (Nat.not_lt_zero _)⟩⟩
  have := RowI.made wr n 3
  rwa [hs] at this

set_option maxHeartbeats 4000000 in
set_option maxRecDepth 100000 in
theorem sort29 (zs : List Int) (v : Value) (w : World) (hg : RowAt w w.heap.size v zs) (hz : zs.length ≤ 131072) :
    Calls Try.prog 29 #[v] w fun e w' => SortPost zs w e w' := by
  obtain ⟨a, b, o, c, rfl, hl, ha, hc⟩ := hg
  obtain ⟨n, hn⟩ : ∃ n, n = zs.length := ⟨_, rfl⟩
  rw [← hn] at ha hl hc hz ⊢
  have HN : Hid (n = zs.length) := hn
  clear hn
  obtain ⟨f, hf⟩ : ∃ f : Nat → Int, f = fun i => zs.getD i 0 := ⟨_, rfl⟩
  have hc' : ∀ j, j < n → w.cell? ⟨b, o + j, none⟩ = some (.int .i64 (f j)) := fun j hj => by rw [hf]; exact hc j hj
  have HF : Hid (∀ i, i < n → f i ∈ zs) := fun i hi => by
    rw [hf]
    exact getD_mem (by rw [← HN.out]; exact hi)
  clear hf hc
  have hmk := run_make_row' (P := Try.prog) 29 3 (.int .i64 0) 8 Try.underlying29 Try.info3 rfl .i64 .i64 n (by omega) (by omega)
  go_enter Try.func29, Try.ntmps29
  go_wp2
  go_loopw [5] (fun i wr => ∃ k : Nat, k ≤ n ∧ i = .int .i64 k ∧ CRow zs w wr n k) (fun i _ => n - (intOf i).toNat)
  case atStart => exact ⟨0, Nat.zero_le _, rfl, CRow.start zs w n⟩
  case round =>
    obtain ⟨k, hk, rfl, hC⟩ := hrel
    by_cases hlt : k < n
    · obtain ⟨rfl, hbB⟩ := ha (by omega)
      have hcell : wr.cell? ⟨b, o + k, none⟩ = some (.int .i64 (f k)) := by rw [hC.below.cell (p := ⟨b, o + k, none⟩) hbB]; exact hc' k hlt
      obtain ⟨g, hg, _⟩ := hC.src
      have hst1 := hg.cell hlt
      have hst2 := hg.frozen k
      have hx := HF.out k hlt
      have HX : Hid (f k ∈ zs) := hx
      clear hx hc' hg
      go_wp2
      go_roundw
      case rel => exact ⟨k + 1, by omega, by go_num, hC.put HX.out⟩
      case measure => simp [intOf]; omega
    · have hkn : ¬ (k : Int) < n := by omega
      have hsz := hC.size
      have hS := hC.buf (by omega)
      clear hC hc' HF ha
      go_wp2
      clear hmk
      go_loopw [4, 6, 7] (fun s t x wr => ∃ bs bt W : Nat, 1 ≤ W ∧ W ≤ 262144 ∧ s = .slice (some ⟨bs, 0, none⟩) n n ∧ t = .slice (some ⟨bt, 0, none⟩) n n ∧ x = .int .i64 W ∧ SRows zs w wr n bs bt 0) (fun _ _ x _ => n - (intOf x).toNat)
      case atStart => exact ⟨_, _, 1, by omega, by omega, rfl, rfl, rfl, hS⟩
      case round =>
        clear hS hsz
        obtain ⟨bs, bt, W, hW1, hW2, rfl, rfl, rfl, hS⟩ := hrel
        by_cases hWn : W < n
        · have hWz : (W : Int) < (n : Int) := by omega
          go_wp2
          go_loopw [8] (fun x wr => ∃ l : Nat, l ≤ n + 2 * W ∧ x = .int .i64 l ∧ SRows zs w wr n bs bt l) (fun x _ => n - (intOf x).toNat)
          case atStart => exact ⟨0, Nat.zero_le _, rfl, hS⟩
          case round =>
            clear hS
            obtain ⟨l, hl2, rfl, hS⟩ := hrel
            by_cases hln : l < n
            · have hlz : (l : Int) < (n : Int) := by omega
              by_cases hm : n < l + W
              · have hh : n < l + 2 * W := by omega
                have hmb : decide ((n : Int) < (l : Int) + (W : Int)) = true := by simp; omega
                have hhb : decide ((n : Int) < (l : Int) + 2 * (W : Int)) = true := by simp; omega
                go_wp2
                go_loopw [11, 12, 13] (fun x y z wr => ∃ i j k : Nat, l ≤ i ∧ i ≤ n ∧ n ≤ j ∧ j ≤ n ∧ i + j = k + n ∧ x = .int .i64 i ∧ y = .int .i64 j ∧ z = .int .i64 k ∧ SRows zs w wr n bs bt k) (fun _ _ z _ => n - (intOf z).toNat)
                case atStart => exact ⟨l, n, l, by omega, by omega, by omega, by omega, by omega, rfl, by go_num, rfl, hS⟩
                case round =>
                  clear hS
                  obtain ⟨i, j, k, h1, h2, h3, h4, h5, rfl, rfl, rfl, hS⟩ := hrel
                  have H5 : Hid (i + j = k + n) := h5
                  obtain ⟨f, hf, hfz⟩ := hS.src
                  obtain ⟨g, hg, _⟩ := hS.buf
                  have h7 : k = i + j - (n) := by omega
                  have H7 : Hid (k = i + j - (n)) := h7
                  clear h5 h7
                  by_cases hk : k < n
                  · have hkz : (k : Int) < (n : Int) := by omega
                    have hkn : k < n := by omega
                    have hkn' : (k : Int) < (n : Int) := by omega
                    have hst1 := hg.cell hkn
                    have hst2 := hg.frozen k
                    by_cases him : i < n
                    · have hin : i < n := by omega
                      have himz : (i : Int) < (n : Int) := by omega
                      have hin' : (i : Int) < (n : Int) := by omega
                      have hci := hf.cell hin
                      have HX : Hid (f i ∈ zs) := hfz i hin
                      obtain ⟨x, hx⟩ : ∃ x, x = f i := ⟨_, rfl⟩
                      rw [← hx] at hci HX
                      by_cases hjh : n ≤ j
                      · have hjz : (n : Int) ≤ (j : Int) := by omega
                        clear hf hfz hg hx
                        go_wp2_with fail
                        go_quiet (fail)
                        go_wp2
                        go_roundw
                        case rel => go_light; exact ⟨i + 1, j, k + 1, by omega, by omega, by omega, by omega, by have := H5.out; omega, by go_num, rfl, by go_num, hS.put _ HX.out⟩
                        case measure => go_light; simp [intOf]; omega
                      · omega
                    · have := H5.out; omega
                  · have hkd : ¬ (k : Int) < (n : Int) := by omega
                    clear hf hfz hg
                    go_wp2
                    go_roundw
                    case rel => go_light; exact ⟨l + 2 * W, by omega, by go_num, hS.weak (by omega)⟩
                    case measure => go_light; simp [intOf]; omega
              · by_cases hh : n < l + 2 * W
                · have hmb : decide ((n : Int) < (l : Int) + (W : Int)) = false := by simp; omega
                  have hhb : decide ((n : Int) < (l : Int) + 2 * (W : Int)) = true := by simp; omega
                  go_wp2
                  go_loopw [11, 12, 13] (fun x y z wr => ∃ i j k : Nat, l ≤ i ∧ i ≤ l + W ∧ l + W ≤ j ∧ j ≤ n ∧ i + j = k + l + W ∧ x = .int .i64 i ∧ y = .int .i64 j ∧ z = .int .i64 k ∧ SRows zs w wr n bs bt k) (fun _ _ z _ => n - (intOf z).toNat)
                  case atStart => exact ⟨l, l + W, l, by omega, by omega, by omega, by omega, by omega, rfl, by go_num, rfl, hS⟩
                  case round =>
                    clear hS
                    obtain ⟨i, j, k, h1, h2, h3, h4, h5, rfl, rfl, rfl, hS⟩ := hrel
                    have H5 : Hid (i + j = k + l + W) := h5
                    obtain ⟨f, hf, hfz⟩ := hS.src
                    obtain ⟨g, hg, _⟩ := hS.buf
                    have h7 : k = i + j - (l + W) := by omega
                    have H7 : Hid (k = i + j - (l + W)) := h7
                    clear h5 h7
                    by_cases hk : k < n
                    · have hkz : (k : Int) < (n : Int) := by omega
                      have hkn : k < n := by omega
                      have hkn' : (k : Int) < (n : Int) := by omega
                      have hst1 := hg.cell hkn
                      have hst2 := hg.frozen k
                      by_cases him : i < l + W
                      · have hin : i < n := by omega
                        have himz : (i : Int) < ((l : Int) + (W : Int)) := by omega
                        have hin' : (i : Int) < (n : Int) := by omega
                        have hci := hf.cell hin
                        have HX : Hid (f i ∈ zs) := hfz i hin
                        obtain ⟨x, hx⟩ : ∃ x, x = f i := ⟨_, rfl⟩
                        rw [← hx] at hci HX
                        by_cases hjh : n ≤ j
                        · have hjz : (n : Int) ≤ (j : Int) := by omega
                          clear hf hfz hg hx
                          go_wp2_with fail
                          go_quiet (fail)
                          go_wp2
                          go_roundw
                          case rel => go_light; exact ⟨i + 1, j, k + 1, by omega, by omega, by omega, by omega, by have := H5.out; omega, by go_num, rfl, by go_num, hS.put _ HX.out⟩
                          case measure => go_light; simp [intOf]; omega
                        · have hjn : j < n := by omega
                          have hjn' : (j : Int) < (n : Int) := by omega
                          have hcj := hf.cell hjn
                          have HY : Hid (f j ∈ zs) := hfz j hjn
                          obtain ⟨y, hy⟩ : ∃ y, y = f j := ⟨_, rfl⟩
                          rw [← hy] at hcj HY
                          have hjd : decide ((n : Int) ≤ (j : Int)) = false := by simp; omega
                          clear hf hfz hg hx hy
                          by_cases hxy : x ≤ y
                          · go_wp2_with fail
                            go_quiet (fail)
                            go_wp2
                            go_roundw
                            case rel => go_light; exact ⟨i + 1, j, k + 1, by omega, by omega, by omega, by omega, by have := H5.out; omega, by go_num, rfl, by go_num, hS.put _ HX.out⟩
                            case measure => go_light; simp [intOf]; omega
                          · go_wp2_with fail
                            go_quiet (fail)
                            go_wp2
                            go_roundw
                            case rel => go_light; first | exact ⟨i, j + 1, k + 1, by omega, by omega, by omega, by omega, by have := H5.out; omega, rfl, by go_num, by go_num, hS.put _ HY.out⟩ | ((repeat apply Exists.intro); exact ⟨⟨i, j + 1, k + 1, by omega, by omega, by omega, by omega, by have := H5.out; omega, rfl, by go_num, by go_num, hS.put _ HY.out⟩, rfl⟩)
                            case measure => go_light; simp [intOf]; omega
                      · have hjn : j < n := by have := H5.out; omega
                        have hjn' : (j : Int) < (n : Int) := by omega
                        have hcj := hf.cell hjn
                        have HY : Hid (f j ∈ zs) := hfz j hjn
                        obtain ⟨y, hy⟩ : ∃ y, y = f j := ⟨_, rfl⟩
                        rw [← hy] at hcj HY
                        have hid : decide ((i : Int) < ((l : Int) + (W : Int))) = false := by simp; omega
                        clear hf hfz hg hy
                        go_wp2_with fail
                        go_quiet (fail)
                        go_wp2
                        go_roundw
                        case rel => go_light; first | exact ⟨i, j + 1, k + 1, by omega, by omega, by omega, by have := H5.out; omega, by have := H5.out; omega, rfl, by go_num, by go_num, hS.put _ HY.out⟩ | ((repeat apply Exists.intro); exact ⟨⟨i, j + 1, k + 1, by omega, by omega, by omega, by have := H5.out; omega, by have := H5.out; omega, rfl, by go_num, by go_num, hS.put _ HY.out⟩, rfl⟩)
                        case measure => go_light; simp [intOf]; omega
                    · have hkd : ¬ (k : Int) < (n : Int) := by omega
                      clear hf hfz hg
                      go_wp2
                      go_roundw
                      case rel => go_light; exact ⟨l + 2 * W, by omega, by go_num, hS.weak (by omega)⟩
                      case measure => go_light; simp [intOf]; omega
                · have hmb : decide ((n : Int) < (l : Int) + (W : Int)) = false := by simp; omega
                  have hhb : decide ((n : Int) < (l : Int) + 2 * (W : Int)) = false := by simp; omega
                  go_wp2
                  go_loopw [11, 12, 13] (fun x y z wr => ∃ i j k : Nat, l ≤ i ∧ i ≤ l + W ∧ l + W ≤ j ∧ j ≤ l + 2 * W ∧ i + j = k + l + W ∧ x = .int .i64 i ∧ y = .int .i64 j ∧ z = .int .i64 k ∧ SRows zs w wr n bs bt k) (fun _ _ z _ => n - (intOf z).toNat)
                  case atStart => exact ⟨l, l + W, l, by omega, by omega, by omega, by omega, by omega, rfl, by go_num, rfl, hS⟩
                  case round =>
                    clear hS
                    obtain ⟨i, j, k, h1, h2, h3, h4, h5, rfl, rfl, rfl, hS⟩ := hrel
                    have H5 : Hid (i + j = k + l + W) := h5
                    obtain ⟨f, hf, hfz⟩ := hS.src
                    obtain ⟨g, hg, _⟩ := hS.buf
                    have h7 : k = i + j - (l + W) := by omega
                    have H7 : Hid (k = i + j - (l + W)) := h7
                    clear h5 h7
                    by_cases hk : k < l + 2 * W
                    · have hkz : (k : Int) < ((l : Int) + 2 * (W : Int)) := by omega
                      have hkn : k < n := by omega
                      have hkn' : (k : Int) < (n : Int) := by omega
                      have hst1 := hg.cell hkn
                      have hst2 := hg.frozen k
                      by_cases him : i < l + W
                      · have hin : i < n := by omega
                        have himz : (i : Int) < ((l : Int) + (W : Int)) := by omega
                        have hin' : (i : Int) < (n : Int) := by omega
                        have hci := hf.cell hin
                        have HX : Hid (f i ∈ zs) := hfz i hin
                        obtain ⟨x, hx⟩ : ∃ x, x = f i := ⟨_, rfl⟩
                        rw [← hx] at hci HX
                        by_cases hjh : l + 2 * W ≤ j
                        · have hjz : ((l : Int) + 2 * (W : Int)) ≤ (j : Int) := by omega
                          clear hf hfz hg hx
                          go_wp2_with fail
                          go_quiet (fail)
                          go_wp2
                          go_roundw
                          case rel => go_light; exact ⟨i + 1, j, k + 1, by omega, by omega, by omega, by omega, by have := H5.out; omega, by go_num, rfl, by go_num, hS.put _ HX.out⟩
                          case measure => go_light; simp [intOf]; omega
                        · have hjn : j < n := by omega
                          have hjn' : (j : Int) < (n : Int) := by omega
                          have hcj := hf.cell hjn
                          have HY : Hid (f j ∈ zs) := hfz j hjn
                          obtain ⟨y, hy⟩ : ∃ y, y = f j := ⟨_, rfl⟩
                          rw [← hy] at hcj HY
                          have hjd : decide (((l : Int) + 2 * (W : Int)) ≤ (j : Int)) = false := by simp; omega
                          clear hf hfz hg hx hy
                          by_cases hxy : x ≤ y
                          · go_wp2_with fail
                            go_quiet (fail)
                            go_wp2
                            go_roundw
                            case rel => go_light; exact ⟨i + 1, j, k + 1, by omega, by omega, by omega, by omega, by have := H5.out; omega, by go_num, rfl, by go_num, hS.put _ HX.out⟩
                            case measure => go_light; simp [intOf]; omega
                          · go_wp2_with fail
                            go_quiet (fail)
                            go_wp2
                            go_roundw
                            case rel => go_light; first | exact ⟨i, j + 1, k + 1, by omega, by omega, by omega, by omega, by have := H5.out; omega, rfl, by go_num, by go_num, hS.put _ HY.out⟩ | ((repeat apply Exists.intro); exact ⟨⟨i, j + 1, k + 1, by omega, by omega, by omega, by omega, by have := H5.out; omega, rfl, by go_num, by go_num, hS.put _ HY.out⟩, rfl⟩)
                            case measure => go_light; simp [intOf]; omega
                      · have hjn : j < n := by have := H5.out; omega
                        have hjn' : (j : Int) < (n : Int) := by omega
                        have hcj := hf.cell hjn
                        have HY : Hid (f j ∈ zs) := hfz j hjn
                        obtain ⟨y, hy⟩ : ∃ y, y = f j := ⟨_, rfl⟩
                        rw [← hy] at hcj HY
                        have hid : decide ((i : Int) < ((l : Int) + (W : Int))) = false := by simp; omega
                        clear hf hfz hg hy
                        go_wp2_with fail
                        go_quiet (fail)
                        go_wp2
                        go_roundw
                        case rel => go_light; first | exact ⟨i, j + 1, k + 1, by omega, by omega, by omega, by have := H5.out; omega, by have := H5.out; omega, rfl, by go_num, by go_num, hS.put _ HY.out⟩ | ((repeat apply Exists.intro); exact ⟨⟨i, j + 1, k + 1, by omega, by omega, by omega, by have := H5.out; omega, by have := H5.out; omega, rfl, by go_num, by go_num, hS.put _ HY.out⟩, rfl⟩)
                        case measure => go_light; simp [intOf]; omega
                    · have hkd : ¬ (k : Int) < ((l : Int) + 2 * (W : Int)) := by omega
                      clear hf hfz hg
                      go_wp2
                      go_roundw
                      case rel => go_light; exact ⟨l + 2 * W, by omega, by go_num, hS.weak (by omega)⟩
                      case measure => go_light; simp [intOf]; omega
            · go_wp2
              go_roundw
              case rel => exact ⟨bt, bs, 2 * W, by omega, by omega, rfl, rfl, by go_num, hS.swap (by omega)⟩
              case measure => simp [intOf]; omega
        · go_wp2
          go_ret
          exact hS.out (by omega)

end Go.Proofs.Qxb6602969a
