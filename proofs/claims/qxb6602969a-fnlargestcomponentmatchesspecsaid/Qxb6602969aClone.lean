/-
  THE WALKS of zzCloneGraph and zzToNodes: a graph of new memory with the same rows.
-/
import Derived.Test.Qxb6602969aRows
import Derived.Test.Qxb6602969aMem
import Derived.WalkSpells
import Derived.WalkLawsBesides
import Derived.Deep.Light
namespace Go.Proofs.Qxb6602969a
open Go.RowKit

theorem Try.infoC3 : (Try.prog.info? 3).map (fun i => (i.zero, i.size, i.bytes)) = some (some (.int .i64 0), 1, 8) := by kernel_rfl
theorem Try.infoC29 : (Try.prog.info? 29).map (fun i => (i.zero, i.size, i.bytes)) = some (some (.slice none 0 0), 1, 24) := by kernel_rfl
theorem Try.infoC31 : (Try.prog.info? 31).map (fun i => (i.zero, i.size, i.bytes)) = some (some (.int .i64 0), 1, 8) := by kernel_rfl
theorem Try.infoC27 : (Try.prog.info? 27).map (fun i => (i.zero, i.size, i.bytes)) = some (some (.slice none 0 0), 1, 24) := by kernel_rfl

def ClonePost (rows : List (List Int)) (w : World) (e : Ending) (w' : World) : Prop :=
  ∃ v : Value, e = .returned v ∧ GraphAt w' w'.heap.size v rows ∧ Below w.heap.size w w'

theorem graphAt_nil (w : World) (B : Nat) {rows : List (List Int)} (h : rows.length = 0) : GraphAt w B (.slice none 0 0) rows :=
  ⟨none, 0, 0, 0, by rw [h], by omega, fun h0 => by omega, fun i hi => by omega⟩

/-- The rows copied so far: the first k cells of the new row of rows hold slices of the call's own with the graph's rows; the others are nil. -/
structure Cln (t q : TypeId) (rows : List (List Int)) (w wr : World) (n k : Nat) : Prop where
  below : Below w.heap.size w wr
  lt : w.heap.size < wr.heap.size
  top : ∃ F : Nat → Value, wr.rowIs w.heap.size t n F ∧ (∀ v, k ≤ v → F v = .slice none 0 0) ∧
    ∀ v, v < k → ∃ (a : Option Addr) (g m : Nat) (f : Nat → Int), F v = .slice a m m ∧ m = (rows.getD v []).length ∧ m ≤ 9223372036854775807 ∧ (0 < m → a = some ⟨g, 0, none⟩ ∧ w.heap.size < g ∧ RowI wr g q m f) ∧ ∀ i, i < m → f i = (rows.getD v []).getD i 0

theorem Cln.start (t q : TypeId) (rows : List (List Int)) (w : World) (n : Nat) : Cln t q rows w (w.alloc (.cells (madeCells #[.slice none 0 0] n) t)) n 0 :=
  ⟨(Below.refl _ _).alloc (Nat.le_refl _) _, by simp, ⟨_, World.rowIs_made w _ n t, fun _ _ => rfl, fun v h0 => absurd h0 (Nat.not_lt_zero _)⟩⟩

theorem Cln.skip {t q : TypeId} {rows : List (List Int)} {w wr : World} {n k : Nat} (h : Cln t q rows w wr n k) (h0 : (rows.getD k []).length = 0) : Cln t q rows w wr n (k + 1) := by
  obtain ⟨hb0, hlt, F, hF, hFn, hFz⟩ := h
  refine ⟨hb0, hlt, F, hF, fun v hv => hFn v (by omega), fun v hv => ?_⟩
  by_cases e : v = k
  · subst e
    exact ⟨none, 0, 0, fun _ => 0, hFn v (Nat.le_refl _), h0.symm, by omega, fun h => absurd h (Nat.not_lt_zero _), fun i hi => absurd hi (Nat.not_lt_zero _)⟩
  · exact hFz v (by omega)

theorem Cln.put {t q : TypeId} {rows : List (List Int)} {w wr w1 : World} {n k g m : Nat} {f : Nat → Int} (h : Cln t q rows w wr n k) (hb : Below wr.heap.size wr w1) (hg : wr.heap.size ≤ g) (hm : m = (rows.getD k []).length) (hm2 : m ≤ 9223372036854775807)
    (hf : RowI w1 g q m f) (hfz : ∀ i, i < m → f i = (rows.getD k []).getD i 0) :
    Cln t q rows w (w1.setCell ⟨w.heap.size, k, none⟩ (.slice (some ⟨g, 0, none⟩) m m)) n (k + 1) := by
  obtain ⟨hb0, hlt, F, hF, hFn, hFz⟩ := h
  refine ⟨(hb0.trans (hb.mono (by omega))).setCell (Nat.le_refl _) _, by rw [size_setCell]; have := hb.size; omega, ⟨_, (hF.of_block (hb.block _ hlt)).set k _, fun v hv => ?_, fun v hv => ?_⟩⟩
  · rw [if_neg (by omega)]
    exact hFn v (by omega)
  · by_cases e : v = k
    · subst e
      exact ⟨_, g, m, f, by simp, hm, hm2, fun _ => ⟨rfl, by omega, hf.other (by show g ≠ w.heap.size; omega) _⟩, hfz⟩
    · obtain ⟨a', g', m', f', h1, h2, h3, h4, h5⟩ := hFz v (by omega)
      exact ⟨a', g', m', f', by simp [e, h1], h2, h3, fun h0 => ⟨(h4 h0).1, (h4 h0).2.1, ((h4 h0).2.2.of_block (hb.block _ (h4 h0).2.2.lt)).other (by show g' ≠ w.heap.size; have := (h4 h0).2.1; omega) _⟩, h5⟩

theorem Cln.out {t q : TypeId} {rows : List (List Int)} {w wr : World} {n k : Nat} (h : Cln t q rows w wr n k) (_hk : n ≤ k) (hn : n = rows.length) (hn2 : n ≤ 9223372036854775807) : ClonePost rows w (.returned (.slice (some ⟨w.heap.size, 0, none⟩) n n)) wr := by
  obtain ⟨hb0, hlt, F, hF, hFn, hFz⟩ := h
  refine ⟨_, rfl, ⟨some ⟨w.heap.size, 0, none⟩, w.heap.size, 0, n, by rw [hn], by omega, fun _ => ⟨rfl, hlt⟩, fun i hi => ?_⟩, hb0⟩
  obtain ⟨a', g', m', f', h1, h2, h3, h4, h5⟩ := hFz i (by omega)
  refine ⟨F i, by rw [Nat.zero_add]; exact hF.cell (by omega), a', g', 0, m', by rw [h1, ← h2], by omega, fun h0 => ⟨(h4 (by omega)).1, (h4 (by omega)).2.2.lt⟩, fun j hj => ?_⟩
  rw [Nat.zero_add, (h4 (by omega)).2.2.cell (by omega), h5 j (by omega)]

/-- The row that is being copied. -/
structure ClnIn (q : TypeId) (wr wi : World) (L j : Nat) (f : Nat → Int) : Prop where
  below : Below wr.heap.size wr wi
  row : ∃ f', RowI wi wr.heap.size q L f' ∧ ∀ i, i < j → f' i = f i

theorem ClnIn.start (q : TypeId) (wr : World) (L : Nat) (f : Nat → Int) : ClnIn q wr (wr.alloc (.cells (madeCells #[.int .i64 0] L) q)) L 0 f :=
  ⟨(Below.refl _ _).alloc (Nat.le_refl _) _, ⟨_, RowI.made wr L q, fun _ h0 => absurd h0 (Nat.not_lt_zero _)⟩⟩

theorem ClnIn.put {q : TypeId} {wr wi : World} {L j : Nat} {f : Nat → Int} (h : ClnIn q wr wi L j f) : ClnIn q wr (wi.setCell ⟨wr.heap.size, j, none⟩ (.int .i64 (f j))) L (j + 1) f := by
  obtain ⟨hb, f', hf, hfz⟩ := h
  refine ⟨hb.setCell (Nat.le_refl _) _, ⟨_, hf.set j (f j), fun i hi => ?_⟩⟩
  by_cases e : i = j
  · simp [e]
  · simpa [e] using hfz i (by omega)

set_option maxHeartbeats 1000000 in
set_option maxRecDepth 100000 in
theorem clone12 (rows : List (List Int)) (v : Value) (w : World) (hg : GraphAt w w.heap.size v rows) (hn1 : 3 * rows.length ≤ 131072) (hr1 : ∀ i, i < rows.length → (rows.getD i []).length ≤ 131072) :
    Calls Try.prog 12 #[v] w fun e w' => ClonePost rows w e w' := by
  obtain ⟨a, b, o, c, n, rfl, HN, hl, ha, HC⟩ := hg.parts
  rw [← HN.out] at hn1 hr1
  have HR : Hid (∀ i, i < n → (rows.getD i []).length ≤ 131072) := hr1
  clear hr1
  cases a with
  | none =>
    have hn0 : n = 0 := by
      by_cases h0 : 0 < n
      · exact absurd (ha h0).1 (by simp)
      · omega
    have HG : Hid (n = 0) := hn0
    clear hn0 hg
    have hnil := fun w => Lib.run_eql_slice_nil (P := Try.prog) w 22 29 none n c 0 0 Try.underlying22
    go_enter Try.func12, Try.ntmps12
    go_wp2
    go_ret
    exact ⟨_, rfl, graphAt_nil w _ (by rw [← HN.out]; exact HG.out), Below.refl _ _⟩
  | some ad =>
    have hnil := fun w => Lib.run_eql_slice_nil (P := Try.prog) w 22 29 (some ad) n c 0 0 Try.underlying22
    have hmk := run_make_row' (P := Try.prog) 22 29 (.slice none 0 0) 24 Try.underlying22 Try.infoC29 rfl .i64 .i64 n (by omega) (by omega)
    clear hg
    go_enter Try.func12, Try.ntmps12
    go_wp2
    clear hmk hnil
    go_loopw [4] (fun x wr => ∃ k : Nat, k ≤ n ∧ x = .int .i64 k ∧ Cln 29 3 rows w wr n k) (fun x _ => n - (intOf x).toNat)
    case atStart => exact ⟨0, Nat.zero_le _, rfl, Cln.start 29 3 rows w n⟩
    case round =>
      obtain ⟨k, hk, rfl, hS⟩ := hrel
      by_cases hlt : k < n
      · obtain ⟨e, hbB⟩ := ha (by omega)
        obtain rfl := Option.some.inj e
        clear e
        obtain ⟨u, hu0, hrow0⟩ := HC.out k hlt
        have hu : wr.cell? ⟨b, o + k, none⟩ = some u := by rw [hS.below.cell (p := ⟨b, o + k, none⟩) hbB]; exact hu0
        have hrow := hrow0.below hS.below
        obtain ⟨a', b', o', c', L, f, rfl, HL, hL, ha', hc', HF, HM⟩ := hrow.parts
        clear hrow hrow0 hu0
        have hlen := HR.out k hlt
        rw [← HL.out] at hlen
        cases a' with
        | none =>
          have hL0 : L = 0 := by
            by_cases h0 : 0 < L
            · exact absurd (ha' h0).1 (by simp)
            · omega
          have HG : Hid (L = 0) := hL0
          clear hL0 hc'
          have hnil := fun w => Lib.run_eql_slice_nil (P := Try.prog) w 29 3 none L c' 0 0 Try.underlying29
          go_wp2
          go_roundw
          case rel => go_light; exact ⟨k + 1, by omega, by go_num, hS.skip (by rw [← HL.out, HG.out])⟩
          case measure => go_light; simp [intOf]; omega
        | some ad' =>
          have hnil := fun w => Lib.run_eql_slice_nil (P := Try.prog) w 29 3 (some ad') L c' 0 0 Try.underlying29
          have hmk := run_make_row' (P := Try.prog) 29 3 (.int .i64 0) 8 Try.underlying29 Try.infoC3 rfl .i64 .i64 L (by omega) (by omega)
          obtain ⟨wo, hwo⟩ : ∃ wo, wo = wr := ⟨_, rfl⟩
          rw [← hwo] at hc' hu hS ⊢
          clear hwo
          have hlt3 := hS.lt
          go_wp2
          clear hmk hnil
          go_loopw [7] (fun x wi => ∃ j : Nat, j ≤ L ∧ x = .int .i64 j ∧ ClnIn 3 wo wi L j f) (fun x _ => L - (intOf x).toNat)
          case atStart => exact ⟨0, Nat.zero_le _, rfl, ClnIn.start 3 wo L f⟩
          case round =>
            obtain ⟨j, hj, rfl, hI⟩ := hrel
            by_cases hjL : j < L
            · obtain ⟨e', hbB'⟩ := ha' (by omega)
              obtain rfl := Option.some.inj e'
              clear e'
              have hcj : wr.cell? ⟨b', o' + j, none⟩ = some (.int .i64 (f j)) := by rw [hI.below.cell (p := ⟨b', o' + j, none⟩) (by show b' < wo.heap.size; omega)]; exact hc' j hjL
              obtain ⟨f', hf', -⟩ := hI.row
              have hst1 := hf'.cell hjL
              have hst2 := hf'.frozen j
              clear hc' hf'
              go_wp2
              go_roundw
              case rel => go_light; exact ⟨j + 1, by omega, by go_num, hI.put⟩
              case measure => go_light; simp [intOf]; omega
            · have hb1 := hI.below
              obtain ⟨f', hf', hfz'⟩ := hI.row
              obtain ⟨F, hF, -⟩ := hS.top
              have hst1 := (hF.of_block (hb1.block _ (by omega))).cell hlt
              have hst2 := (hF.of_block (hb1.block _ (by omega))).frozen k
              obtain ⟨x1, hx1⟩ : ∃ x, x = F k := ⟨_, rfl⟩
              rw [← hx1] at hst1
              have HZ : Hid (∀ i, i < L → f' i = (rows.getD k []).getD i 0) := fun i hi => by rw [hfz' i (by omega)]; exact HF.out i hi
              clear hF hx1 hfz' hc'
              go_wp2
              go_roundw
              case rel => go_light; exact ⟨k + 1, by omega, by go_num, hS.put hb1 (Nat.le_refl _) HL.out hL hf' HZ.out⟩
              case measure => go_light; simp [intOf]; omega
      · go_wp2
        go_ret
        exact hS.out (by omega) HN.out (by omega)

set_option maxHeartbeats 1000000 in
set_option maxRecDepth 100000 in
theorem clone13 (rows : List (List Int)) (v : Value) (w : World) (hg : GraphAt w w.heap.size v rows) (hn1 : 3 * rows.length ≤ 131072) (hr1 : ∀ i, i < rows.length → (rows.getD i []).length ≤ 131072) :
    Calls Try.prog 13 #[v] w fun e w' => ClonePost rows w e w' := by
  obtain ⟨a, b, o, c, n, rfl, HN, hl, ha, HC⟩ := hg.parts
  rw [← HN.out] at hn1 hr1
  have HR : Hid (∀ i, i < n → (rows.getD i []).length ≤ 131072) := hr1
  clear hr1
  cases a with
  | none =>
    have hn0 : n = 0 := by
      by_cases h0 : 0 < n
      · exact absurd (ha h0).1 (by simp)
      · omega
    have HG : Hid (n = 0) := hn0
    clear hn0 hg
    have hnil := fun w => Lib.run_eql_slice_nil (P := Try.prog) w 22 29 none n c 0 0 Try.underlying22
    go_enter Try.func13, Try.ntmps13
    go_wp2
    go_ret
    exact ⟨_, rfl, graphAt_nil w _ (by rw [← HN.out]; exact HG.out), Below.refl _ _⟩
  | some ad =>
    have hnil := fun w => Lib.run_eql_slice_nil (P := Try.prog) w 22 29 (some ad) n c 0 0 Try.underlying22
    have hmk := run_make_row' (P := Try.prog) 25 27 (.slice none 0 0) 24 Try.underlying25 Try.infoC27 rfl .i64 .i64 n (by omega) (by omega)
    clear hg
    go_enter Try.func13, Try.ntmps13
    go_wp2
    clear hmk hnil
    go_loopw [4] (fun x wr => ∃ k : Nat, k ≤ n ∧ x = .int .i64 k ∧ Cln 27 31 rows w wr n k) (fun x _ => n - (intOf x).toNat)
    case atStart => exact ⟨0, Nat.zero_le _, rfl, Cln.start 27 31 rows w n⟩
    case round =>
      obtain ⟨k, hk, rfl, hS⟩ := hrel
      by_cases hlt : k < n
      · obtain ⟨e, hbB⟩ := ha (by omega)
        obtain rfl := Option.some.inj e
        clear e
        obtain ⟨u, hu0, hrow0⟩ := HC.out k hlt
        have hu : wr.cell? ⟨b, o + k, none⟩ = some u := by rw [hS.below.cell (p := ⟨b, o + k, none⟩) hbB]; exact hu0
        have hrow := hrow0.below hS.below
        obtain ⟨a', b', o', c', L, f, rfl, HL, hL, ha', hc', HF, HM⟩ := hrow.parts
        clear hrow hrow0 hu0
        have hlen := HR.out k hlt
        rw [← HL.out] at hlen
        cases a' with
        | none =>
          have hL0 : L = 0 := by
            by_cases h0 : 0 < L
            · exact absurd (ha' h0).1 (by simp)
            · omega
          have HG : Hid (L = 0) := hL0
          clear hL0 hc'
          have hnil := fun w => Lib.run_eql_slice_nil (P := Try.prog) w 29 3 none L c' 0 0 Try.underlying29
          go_wp2
          go_roundw
          case rel => go_light; exact ⟨k + 1, by omega, by go_num, hS.skip (by rw [← HL.out, HG.out])⟩
          case measure => go_light; simp [intOf]; omega
        | some ad' =>
          have hnil := fun w => Lib.run_eql_slice_nil (P := Try.prog) w 29 3 (some ad') L c' 0 0 Try.underlying29
          have hmk := run_make_row' (P := Try.prog) 27 31 (.int .i64 0) 8 Try.underlying27 Try.infoC31 rfl .i64 .i64 L (by omega) (by omega)
          obtain ⟨wo, hwo⟩ : ∃ wo, wo = wr := ⟨_, rfl⟩
          rw [← hwo] at hc' hu hS ⊢
          clear hwo
          have hlt3 := hS.lt
          go_wp2
          clear hmk hnil
          go_loopw [7] (fun x wi => ∃ j : Nat, j ≤ L ∧ x = .int .i64 j ∧ ClnIn 31 wo wi L j f) (fun x _ => L - (intOf x).toNat)
          case atStart => exact ⟨0, Nat.zero_le _, rfl, ClnIn.start 31 wo L f⟩
          case round =>
            obtain ⟨j, hj, rfl, hI⟩ := hrel
            by_cases hjL : j < L
            · obtain ⟨e', hbB'⟩ := ha' (by omega)
              obtain rfl := Option.some.inj e'
              clear e'
              have hcj : wr.cell? ⟨b', o' + j, none⟩ = some (.int .i64 (f j)) := by rw [hI.below.cell (p := ⟨b', o' + j, none⟩) (by show b' < wo.heap.size; omega)]; exact hc' j hjL
              obtain ⟨f', hf', -⟩ := hI.row
              have hst1 := hf'.cell hjL
              have hst2 := hf'.frozen j
              clear hc' hf'
              go_wp2
              go_roundw
              case rel => go_light; exact ⟨j + 1, by omega, by go_num, hI.put⟩
              case measure => go_light; simp [intOf]; omega
            · have hb1 := hI.below
              obtain ⟨f', hf', hfz'⟩ := hI.row
              obtain ⟨F, hF, -⟩ := hS.top
              have hst1 := (hF.of_block (hb1.block _ (by omega))).cell hlt
              have hst2 := (hF.of_block (hb1.block _ (by omega))).frozen k
              obtain ⟨x1, hx1⟩ : ∃ x, x = F k := ⟨_, rfl⟩
              rw [← hx1] at hst1
              have HZ : Hid (∀ i, i < L → f' i = (rows.getD k []).getD i 0) := fun i hi => by rw [hfz' i (by omega)]; exact HF.out i hi
              clear hF hx1 hfz' hc'
              go_wp2
              go_roundw
              case rel => go_light; exact ⟨k + 1, by omega, by go_num, hS.put hb1 (Nat.le_refl _) HL.out hL hf' HZ.out⟩
              case measure => go_light; simp [intOf]; omega
      · go_wp2
        go_ret
        exact hS.out (by omega) HN.out (by omega)

end Go.Proofs.Qxb6602969a
