/-
  THE WALK of zzGraphWellFormed: if it says true, every neighbour is a node and every link goes both ways.
-/
import Derived.Test.Qxb6602969aPlain
import Derived.Test.Qxb6602969aHas
import Derived.Test.Qxb6602969aSort
namespace Go.Proofs.Qxb6602969a
open Go.RowKit

theorem Try.info29 : (Try.prog.info? 29).map (fun i => (i.zero, i.size, i.bytes)) = some (some (.slice none 0 0), 1, 24) := by kernel_rfl

def WellPost (rows : List (List Int)) (w : World) (e : Ending) (w' : World) : Prop :=
  ∃ b : Bool, e = .returned (.bool b) ∧ Below w.heap.size w w' ∧ (b = true → WF rows)

/-- The rows sorted so far: the first k cells of the row of rows hold slices of the call's own, all of whose numbers are of the graph's row. -/
structure Srt (rows : List (List Int)) (w wr : World) (n k : Nat) : Prop where
  below : Below w.heap.size w wr
  lt : w.heap.size < wr.heap.size
  top : ∃ F : Nat → Value, wr.rowIs w.heap.size 29 n F ∧ ∀ v, v < k → ∃ (g m : Nat) (f : Nat → Int), F v = .slice (some ⟨g, 0, none⟩) m m ∧ w.heap.size < g ∧ m ≤ 131072 ∧ RowI wr g 3 m f ∧ ∀ i, i < m → f i ∈ rows.getD v []

theorem Srt.start (rows : List (List Int)) (w : World) (n : Nat) : Srt rows w (w.alloc (.cells (madeCells #[.slice none 0 0] n) 29)) n 0 :=
  ⟨(Below.refl _ _).alloc (Nat.le_refl _) _, by simp, ⟨_, World.rowIs_made w _ n 29, fun v h0 => absurd h0 (Nat.not_lt_zero _)⟩⟩

theorem Srt.put {rows : List (List Int)} {w wr w1 : World} {n k g m : Nat} {f : Nat → Int} (h : Srt rows w wr n k) (hb : Below wr.heap.size wr w1) (hg : wr.heap.size ≤ g) (hm : m ≤ 131072)
    (hf : RowI w1 g 3 m f) (hfz : ∀ i, i < m → f i ∈ rows.getD k []) :
    Srt rows w (w1.setCell ⟨w.heap.size, k, none⟩ (.slice (some ⟨g, 0, none⟩) m m)) n (k + 1) := by
  obtain ⟨hb0, hlt, F, hF, hFz⟩ := h
  refine ⟨(hb0.trans (hb.mono (by omega))).setCell (Nat.le_refl _) _, by rw [size_setCell]; have := hb.size; omega, ⟨_, (hF.of_block (hb.block _ hlt)).set k _, fun v hv => ?_⟩⟩
  by_cases e : v = k
  · subst e
    exact ⟨g, m, f, by simp, by omega, hm, hf.other (by show g ≠ w.heap.size; omega) _, hfz⟩
  · obtain ⟨g', m', f', h1, h2, h3, h4, h5⟩ := hFz v (by omega)
    exact ⟨g', m', f', by simp [e, h1], h2, h3, (h4.of_block (hb.block _ h4.lt)).other (by show g' ≠ w.heap.size; omega) _, h5⟩

theorem WF.mk' {rows : List (List Int)} {n : Nat} (hn : n = rows.length) (h1 : ∀ v, v < n → ∀ j, j < (rows.getD v []).length → 0 ≤ (rows.getD v []).getD j 0 ∧ (rows.getD v []).getD j 0 < (n : Int))
    (h2 : ∀ v, v < n → ∀ j, j < (rows.getD v []).length → (v : Int) ∈ rows.getD ((rows.getD v []).getD j 0).toNat []) : WF rows := by
  have hm : ∀ (zs : List Int) (u : Int), u ∈ zs → ∃ j, j < zs.length ∧ zs.getD j 0 = u := by
    intro zs u hu
    obtain ⟨j, hj, rfl⟩ := List.getElem_of_mem hu
    exact ⟨j, hj, by simp [List.getD, List.getElem?_eq_getElem hj]⟩
  subst hn
  refine ⟨fun v hv u hu => ?_, fun v hv u hu => ?_⟩
  · obtain ⟨j, hj, rfl⟩ := hm _ u hu
    exact h1 v hv j hj
  · obtain ⟨j, hj, rfl⟩ := hm _ u hu
    exact h2 v hv j hj

set_option maxHeartbeats 1000000 in
set_option maxRecDepth 100000 in
theorem well11 (rows : List (List Int)) (v : Value) (w : World) (hg : GraphAt w w.heap.size v rows) (hn1 : 3 * rows.length ≤ 131072) (hr1 : ∀ i, i < rows.length → (rows.getD i []).length ≤ 131072) :
    Calls Try.prog 11 #[v] w fun e w' => WellPost rows w e w' := by
  obtain ⟨a, b, o, c, n, rfl, HN, hl, ha, HC⟩ := hg.parts
  rw [← HN.out] at hn1 hr1
  have HR : Hid (∀ i, i < n → (rows.getD i []).length ≤ 131072) := hr1
  clear hr1 hg
  have hmk := run_make_row' (P := Try.prog) 22 29 (.slice none 0 0) 24 Try.underlying22 Try.info29 rfl .i64 .i64 n (by omega) (by omega)
  go_enter Try.func11, Try.ntmps11
  go_wp2
  -- THE FIRST LOOPS: every neighbour is a node
  go_loop [4] (fun x => ∃ k : Nat, k ≤ n ∧ x = .int .i64 k ∧ Hid (∀ v, v < k → ∀ j, j < (rows.getD v []).length → 0 ≤ (rows.getD v []).getD j 0 ∧ (rows.getD v []).getD j 0 < (n : Int))) (fun x => n - (intOf x).toNat)
  case atStart => exact ⟨0, Nat.zero_le _, rfl, fun v hv => absurd hv (Nat.not_lt_zero _)⟩
  case round =>
    obtain ⟨k, hk, rfl, H1⟩ := hrel
    by_cases hlt : k < n
    · obtain ⟨rfl, hbB⟩ := ha (by omega)
      obtain ⟨u, hu, hrow⟩ := HC.out k hlt
      obtain ⟨a', b', o', c', L, f, rfl, HL, hL, ha', hc', HF, HM⟩ := hrow.parts
      clear hrow
      go_wp2
      go_loop [6] (fun x => ∃ j : Nat, j ≤ L ∧ x = .int .i64 j ∧ Hid (∀ i, i < j → 0 ≤ f i ∧ f i < (n : Int))) (fun x => L - (intOf x).toNat)
      case atStart => exact ⟨0, Nat.zero_le _, rfl, fun v hv => absurd hv (Nat.not_lt_zero _)⟩
      case round =>
        obtain ⟨j, hj, rfl, H2⟩ := hrel
        by_cases hjL : j < L
        · obtain ⟨rfl, hbB'⟩ := ha' (by omega)
          have hcj := hc' j hjL
          obtain ⟨y, hy⟩ : ∃ y, y = f j := ⟨_, rfl⟩
          rw [← hy] at hcj
          have HY : Hid (y = f j) := hy
          clear hc' hy
          by_cases hy0 : y < 0
          · go_wp2
            go_ret
            exact ⟨false, rfl, Below.refl _ _, fun h => by cases h⟩
          · have hd0 : decide (y < 0) = false := by simp; omega
            by_cases hyn : y < n
            · have hdn : decide ((n : Int) ≤ y) = false := by simp; omega
              go_wp2
              go_round
              case rel =>
                refine ⟨j + 1, by omega, by go_num, fun i hi => ?_⟩
                by_cases e : i = j
                · subst e; rw [← HY.out]; omega
                · exact H2.out i (by omega)
              case measure => simp [intOf]; omega
            · go_wp2
              go_ret
              exact ⟨false, rfl, Below.refl _ _, fun h => by cases h⟩
        · clear hc'
          go_wp2
          go_round
          case rel =>
            refine ⟨k + 1, by omega, by go_num, fun v hv i hi => ?_⟩
            by_cases e : v = k
            · subst e
              rw [← HL.out] at hi
              rw [← HF.out i hi]
              exact H2.out i (by omega)
            · exact H1.out v (by omega) i hi
          case measure => simp [intOf]; omega
    · have hkn : ¬ (k : Int) < (n : Int) := by omega
      have H1' : Hid (∀ v, v < n → ∀ j, j < (rows.getD v []).length → 0 ≤ (rows.getD v []).getD j 0 ∧ (rows.getD v []).getD j 0 < (n : Int)) := fun v hv => H1.out v (by omega)
      clear H1
      go_wp2
      clear hmk
      -- THE SECOND LOOP: each row sorted
      go_loopw [8] (fun x wr => ∃ k : Nat, k ≤ n ∧ x = .int .i64 k ∧ Srt rows w wr n k) (fun x _ => n - (intOf x).toNat)
      case atStart => exact ⟨0, Nat.zero_le _, rfl, Srt.start rows w n⟩
      case round =>
        obtain ⟨k2, hk2, rfl, hS⟩ := hrel
        by_cases hlt2 : k2 < n
        · obtain ⟨rfl, hbB⟩ := ha (by omega)
          obtain ⟨u, hu0, hrow0⟩ := HC.out k2 hlt2
          have hu : wr.cell? ⟨b, o + k2, none⟩ = some u := by rw [hS.below.cell (p := ⟨b, o + k2, none⟩) hbB]; exact hu0
          have hrow : RowAt wr wr.heap.size u (rows.getD k2 []) := (hrow0.below hS.below).mono (by have := hS.lt; omega)
          have hlen := HR.out k2 hlt2
          have HLen : Hid ((rows.getD k2 []).length ≤ 131072) := hlen
          clear hu0 hrow0 hlen
          have hslice : ∃ a' L c', u = .slice a' L c' := by
            obtain ⟨a', b', o', c', L, f, e, -⟩ := hrow.parts
            exact ⟨a', L, c', e⟩
          obtain ⟨a', L, c', rfl⟩ := hslice
          have hlt3 := hS.lt
          go_wp2_with (go_at_call 29; refine (sort29 (rows.getD k2 []) _ _ hrow HLen.out).mono ?_; rintro e w1 ⟨g, m, f, rfl, hg1, hm1, hf1, hfz1, hb1⟩; have hst1 : ∃ x, w1.cell? ⟨w.heap.size, k2, none⟩ = some x := (by obtain ⟨F, hF, -⟩ := hS.top; exact ⟨_, (hF.of_block (hb1.block _ hlt3)).cell hlt2⟩); have hst2 : w1.frozen? ⟨w.heap.size, k2, none⟩ = false := (by obtain ⟨F, hF, -⟩ := hS.top; exact (hF.of_block (hb1.block _ hlt3)).frozen k2); obtain ⟨x1, hx1⟩ := hst1)
          go_roundw
          case rel => go_light; exact ⟨k2 + 1, by omega, by go_num, hS.put hb1 hg1 hm1 hf1 hfz1⟩
          case measure => go_light; simp [intOf]; omega
        · have hkn2 : ¬ (k2 : Int) < (n : Int) := by omega
          go_wp2
          -- THE THIRD LOOPS: every link goes both ways
          go_loop [9] (fun x => ∃ k : Nat, k ≤ n ∧ x = .int .i64 k ∧ Hid (∀ v, v < k → ∀ j, j < (rows.getD v []).length → (v : Int) ∈ rows.getD ((rows.getD v []).getD j 0).toNat [])) (fun x => n - (intOf x).toNat)
          case atStart => exact ⟨0, Nat.zero_le _, rfl, fun v hv => absurd hv (Nat.not_lt_zero _)⟩
          case round =>
            obtain ⟨k3, hk3, rfl, H3⟩ := hrel
            by_cases hlt3 : k3 < n
            · obtain ⟨rfl, hbB⟩ := ha (by omega)
              obtain ⟨u, hu0, hrow0⟩ := HC.out k3 hlt3
              have hu : wr.cell? ⟨b, o + k3, none⟩ = some u := by rw [hS.below.cell (p := ⟨b, o + k3, none⟩) hbB]; exact hu0
              have hrow := hrow0.below hS.below
              obtain ⟨a', b', o', c', L, f, rfl, HL, hL, ha', hc', HF, HM⟩ := hrow.parts
              clear hrow hrow0 hu0
              go_wp2
              go_loop [11] (fun x => ∃ j : Nat, j ≤ L ∧ x = .int .i64 j ∧ Hid (∀ i, i < j → (k3 : Int) ∈ rows.getD (f i).toNat [])) (fun x => L - (intOf x).toNat)
              case atStart => exact ⟨0, Nat.zero_le _, rfl, fun v hv => absurd hv (Nat.not_lt_zero _)⟩
              case round =>
                obtain ⟨j, hj, rfl, H4⟩ := hrel
                by_cases hjL : j < L
                · obtain ⟨rfl, hbB'⟩ := ha' (by omega)
                  have hcj := hc' j hjL
                  have hrange := H1'.out k3 hlt3 j (by rw [← HL.out]; exact hjL)
                  rw [← HF.out j hjL] at hrange
                  obtain ⟨q, hq⟩ : ∃ q : Nat, f j = q := ⟨(f j).toNat, by omega⟩
                  rw [hq] at hcj hrange
                  have HQ : Hid (f j = q) := hq
                  have hqn : q < n := by omega
                  obtain ⟨F, hF, hFz⟩ := hS.top
                  have hcq := hF.cell hqn
                  obtain ⟨g, m, f2, e1, hg2, hm2, hf2, hfz2⟩ := hFz q (by omega)
                  rw [e1] at hcq
                  have hrw := hf2.rowAt (c := m) (by omega)
                  have HZ : Hid (∀ i, i < m → f2 i ∈ rows.getD q []) := hfz2
                  clear hc' hq hrange hF hFz e1 hf2 hfz2
                  go_wp2_with (go_at_call 30; refine (has30 _ _ _ _ _ hrw).mono ?_; rintro e w1 ⟨bb, rfl, rfl, hbb⟩; have HB : Hid (bb = true → (k3 : Int) ∈ List.map f2 (List.range m)) := hbb; clear hbb)
                  · go_ret
                    exact ⟨false, rfl, hS.below, fun h => by cases h⟩
                  · go_round
                    case rel =>
                      go_light
                      refine ⟨j + 1, by omega, by go_num, fun i hi => ?_⟩
                      by_cases e : i = j
                      · subst e
                        rw [HQ.out]
                        have hnb : (!bb) = false := by assumption
                        have hbt : bb = true := by simpa using hnb
                        obtain ⟨x, hx, hx2⟩ := List.mem_map.1 (HB.out hbt)
                        have := HZ.out x (List.mem_range.1 hx)
                        rw [hx2] at this
                        simpa using this
                      · exact H4.out i (by omega)
                    case measure => go_light; simp [intOf]; omega
                · clear hc'
                  go_wp2
                  go_round
                  case rel =>
                    refine ⟨k3 + 1, by omega, by go_num, fun v hv i hi => ?_⟩
                    by_cases e : v = k3
                    · subst e
                      rw [← HL.out] at hi
                      rw [← HF.out i hi]
                      exact H4.out i (by omega)
                    · exact H3.out v (by omega) i hi
                  case measure => simp [intOf]; omega
            · go_wp2
              go_ret
              exact ⟨true, rfl, hS.below, fun _ => WF.mk' HN.out H1'.out (fun v hv => H3.out v (by omega))⟩

end Go.Proofs.Qxb6602969a
