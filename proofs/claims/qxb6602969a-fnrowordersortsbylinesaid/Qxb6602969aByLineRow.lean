/-
  THE ROW of 'Rows.FnRowOrderSortsByLineSaid': out of the walk in Qxb6602969aByLine and the sort in Qxb6602969aSorts.
-/
import Derived.Test.Qxb6602969aLift
import Derived.Test.Qxb6602969aByLine
import Derived.Test.Qxb6602969aSorts
import Derived.Deep.SlicePairs
import Derived.Laws.Cover2
namespace Go.Proofs.Qxb6602969a.fnRowOrderSortsByLine
open Go.ChangeShapes Go.WideShapes Go.ChangeAt Go.RowKit Go.Deep
open Go.ChangeMaps (open_string shut_string)
set_option linter.unusedVariables false

theorem cells51 : Try.prog.cellsOf 51 = 2 := by kernel_rfl
theorem cells49 : Try.prog.cellsOf 49 = 1 := by kernel_rfl

theorem float_of {H : Type} {enc : TypeId × Value → H} {W : World} {base fuel : Nat} {spare : Nat → Bool} {held : Bool} {v : Value} {x : DataW H × List MemPlace}
    (h : DataW.trod enc Try.prog W base spare held fuel 49 [v] = some x) : ∃ b, v = .float .f64 b := by
  cases fuel with
  | zero => simp [DataW.trod] at h
  | succ n =>
    unfold DataW.trod at h
    rw [Try.underlying49] at h
    split at h <;> simp_all

theorem ptsAt_of {H : Type} {enc : TypeId × Value → H} {W : World} {fuel : Nat} {a0 : Option Addr} {len cap : Nat} {x : DataW H × List MemPlace}
    (hf : DataW.trod enc Try.prog W 0 (fun _ => true) true fuel 32 [.slice a0 len cap] = some x) : PtsAt W W.heap.size (.slice a0 len cap) len := by
  rcases open_slice_pairs Try.underlying32 Try.underlying51 cells51 rfl rfl cells49 cells49 hf with ⟨hcs, -⟩ | ⟨a, len', cap', m, n, V0, V1, D0, D1, P0, P1, hcs, -, hl, hm, hmm, -, hx⟩
  · simp at hcs
    obtain ⟨rfl, rfl, rfl⟩ := hcs
    exact ⟨none, 0, 0, 0, fun _ => 0, fun _ => 0, rfl, by omega, fun h => by omega, fun i hi => by omega⟩
  · simp at hcs
    obtain ⟨rfl, rfl, rfl⟩ := hcs
    unfold maxLen at hm
    simp only [if_true] at hmm
    have hV : ∀ i, i < len → ∃ p : Nat × Nat, V0 i = .float .f64 p.1 ∧ V1 i = .float .f64 p.2 := fun i hi => by
      obtain ⟨_, _, h3, h4⟩ := hx i (by omega)
      obtain ⟨p, hp⟩ := float_of h3
      obtain ⟨q, hq⟩ := float_of h4
      exact ⟨(p, q), hp, hq⟩
    obtain ⟨pq, hpq⟩ := choose_lt hV
    by_cases h0 : 0 < len
    · obtain ⟨b, o, spot⟩ := a
      have hc0 := (hx 0 (by omega)).1
      have hspot : spot = none := by simpa [Addr.add] using World.cell?_spot hc0
      subst hspot
      refine ⟨_, b, o, cap, fun i => (pq i).1, fun i => (pq i).2, rfl, by omega, fun _ => ⟨rfl, World.block_lt_of_cell? _ _ hc0⟩, fun i hi => ?_⟩
      obtain ⟨h1, h2, -, -⟩ := hx i (by omega)
      obtain ⟨e1, e2⟩ := hpq i hi
      rw [add_plain] at h1 h2
      exact ⟨by rw [h1, e1], by rw [Nat.add_assoc, h2, e2]⟩
    · exact ⟨some a, 0, 0, cap, fun _ => 0, fun _ => 0, rfl, by omega, fun h => by omega, fun i hi => by omega⟩

theorem linesAt_of {H : Type} {enc : TypeId × Value → H} {W : World} {fuel : Nat} {a0 : Option Addr} {len cap : Nat} {x : DataW H × List MemPlace}
    (hf : DataW.trod enc Try.prog W 0 (fun _ => true) true fuel 29 [.slice a0 len cap] = some x) : ∃ zs : List Int, RowAt W W.heap.size (.slice a0 len cap) zs ∧ ∀ z ∈ zs, z ≤ 9223372036854775807 := by
  rcases open_ints Try.underlying29 Try.underlying3 cells3 hf with ⟨hcs, -⟩ | ⟨a, len', cap', zs, hcs, -, hl, hm, hz, -, hcell, hwz⟩
  · simp at hcs
    obtain ⟨rfl, rfl, rfl⟩ := hcs
    exact ⟨[], ⟨none, 0, 0, 0, rfl, by simp, fun h => by simp at h, fun i hi => by simp at hi⟩, fun z hz => by cases hz⟩
  · simp at hcs
    obtain ⟨rfl, rfl, rfl⟩ := hcs
    simp only [if_true] at hz
    refine ⟨zs.take len, rowAt_of hl hm hz (fun a' e c hc => by cases e; exact hcell c (by omega)) (fun h => by cases h), fun z hz2 => ?_⟩
    exact (bounds_i64 (hwz z (List.mem_of_mem_take hz2))).2

set_option maxRecDepth 100000 in
theorem lifted (os : Os) (started : os.Started) (H : Type) (enc : TypeId × Value → H) :
    ReturnsInHanded {} Try.checked os 7 .any (Rows.fnRowOrderSortsByLineSpec.pre6 enc Try.prog Try.f7 Rows.fnRowOrderSortsByLineRow.domain false) (Rows.fnRowOrderSortsByLineSpec.post enc Try.prog Try.f7 false true false false) := by
  refine returnsInHanded_of_change (C := Try.checked) own started (by kernel_rfl) Try.func7
    (ChangeSpec.witness6 (enc := enc) (C := Try.checked) false ⟨#[], #[.string ByteArray.empty, .slice none 0 0, .slice none 0 0], []⟩ 8 (by kernel_rfl) (by kernel_rfl) (by kernel_rfl) (by kernel_rfl)) ?_
  intro W base args ds gs before hval0 hW hcnd _
  have hval : ∀ (j : Nat) t v, Try.f7.params[j]? = some t → args[j]? = some v → Value.okWide Try.prog W .any base t v := hval0
  have hW' := hW
  obtain ⟨p, q, hA0, hV, rfl, hfz, hnd⟩ := hW
  have hA : DataW.TrodAll enc Try.prog W 0 (fun _ => true) true Try.f7.params.toList args.toList ds p := hA0
  rw [Try.params7] at hA hval
  obtain ⟨v0, vs0, d0, ds0, p0, q0, hargs, rfl, rfl, h0, r0⟩ := trodAll_cons hA
  obtain ⟨v1, vs1, d1, ds1, p1, q1, rfl, rfl, rfl, h1, r1⟩ := trodAll_cons r0
  obtain ⟨v2, vs2, d2, ds2, p2, q2, rfl, rfl, rfl, h2, r2⟩ := trodAll_cons r1
  obtain ⟨rfl, rfl, rfl⟩ := trodAll_nil r2
  obtain rfl : args = #[v0, v1, v2] := by cases args; simp_all
  obtain ⟨rfl, rfl⟩ := trodVars_none hV
  obtain ⟨a0, rfl, rfl, rfl, w0⟩ := open_string Try.underlying9 (hval 0 9 v0 rfl rfl) h0
  obtain ⟨a1, len1, cap1, rfl⟩ := okWide_slice Try.underlying32 (hval 1 32 v1 rfl rfl)
  obtain ⟨a2, len2, cap2, rfl⟩ := okWide_slice Try.underlying29 (hval 2 29 v2 rfl rfl)
  have k1 := h1
  have k2 := h2
  have lt1 : ∀ x ∈ p1, x.block < W.heap.size := by obtain ⟨m, hm⟩ := k1; exact DataW.trod_lt m _ _ _ hm
  have lt2 : ∀ x ∈ p2, x.block < W.heap.size := by obtain ⟨m, hm⟩ := k2; exact DataW.trod_lt m _ _ _ hm
  have hp1 : PtsAt W W.heap.size (.slice a1 len1 cap1) len1 := by
    obtain ⟨fuel, hf⟩ := h1
    exact ptsAt_of (enc := enc) (by simpa [Value.cells] using hf)
  obtain ⟨zs, hr2, hz2⟩ : ∃ zs : List Int, RowAt W W.heap.size (.slice a2 len2 cap2) zs ∧ ∀ z ∈ zs, z ≤ 9223372036854775807 := by
    obtain ⟨fuel, hf⟩ := h2
    exact linesAt_of (enc := enc) (by simpa [Value.cells] using hf)
  have hs0 : a0.size ≤ 9223372036854775807 := by have := w0; unfold maxLen at this; omega
  clear hA0 hval0
  refine (law7 sortGives sortNone a0 len1 cap1 len2 cap2 a1 a2 zs W hs0 hp1 hr2 hz2).mono fun e W' ⟨he, bel⟩ => ?_
  subst he
  exact ⟨_, rfl, _, _, _, [], _, [], hW', trodAll_mk1 (shut_bool Try.underlying4 _), (trodAll_cons_mk (shut_string Try.underlying9 w0) (trodAll_cons_mk (Below.trod laidOut (by kernel_rfl) (of_decide_eq_true (by kernel_rfl)) k1 bel lt1) (trodAll_cons_mk (Below.trod laidOut (by kernel_rfl) (of_decide_eq_true (by kernel_rfl)) k2 bel lt2) trodAll_mk0))), rfl, bel.frame _, fun h => by cases h⟩

theorem over : Rows.fnRowOrderSortsByLineRow.holds Try.pinned (OpenSpec.ofChange Rows.fnRowOrderSortsByLineSpec) :=
  OpenClaim.holds_of_wide 7 Try.f7 rfl rfl rfl rfl rfl rfl rfl ⟨rfl, rfl, rfl, rfl, rfl⟩ rfl rfl rfl rfl rfl (by kernel_rfl) Try.func7 (by kernel_rfl)
    (of_decide_eq_true (by kernel_rfl)) (by unfold Func.isWrapper; first | (rw [if_pos (by decide +kernel)]; kernel_rfl) | (rw [if_neg (by decide +kernel)]; exact ⟨rfl, rfl⟩))
    (fun os started H enc _ => lifted os started H enc)

/-- THE STATEMENT -/
theorem proved : Rows.FnRowOrderSortsByLineSaid := over
#print axioms proved
end Go.Proofs.Qxb6602969a.fnRowOrderSortsByLine
