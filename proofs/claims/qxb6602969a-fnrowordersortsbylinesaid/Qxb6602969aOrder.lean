/-
  THE WALK of (layout.File).RowOrder, over whatever slices.SortFunc gives at its own call ('SortGives').
-/
import Derived.Test.Qxb6602969aPts
namespace Go.Proofs.Qxb6602969a
open Go.RowKit

/-- F is an order of 0 .. n-1 in which the numbers zs never fall. -/
structure OrdOK (n : Nat) (zs : List Int) (F : Nat → Nat) : Prop where
  range : ∀ i, i < n → F i < n
  inj : ∀ i j, i < n → j < n → F i = F j → i = j
  asc : ∀ i j, i < j → j < n → zs.getD (F i) 0 ≤ zs.getD (F j) 0

/-- What the call of slices.SortFunc gives: the ids' row g, the captured File in block fb. -/
def SortPost32 (n g : Nat) (zs : List Int) (W : World) (e : Ending) (w' : World) : Prop :=
  e = .returned (.tuple #[]) ∧ ∃ F : Nat → Nat, RowI w' g 3 n (fun i => (F i : Int)) ∧ OrdOK n zs F ∧ W.grownBy w' (some g)

def SortGives : Prop := ∀ (n g fb b o m lc : Nat) (zs : List Int) (W : World), n ≤ 65536 → RowI W g 3 n (fun i => (i : Int)) → fb < W.heap.size → fb ≠ g → W.cell? ⟨fb, 2, none⟩ = some (.slice (some ⟨b, o, none⟩) m lc) → b < W.heap.size → b ≠ g → m = zs.length → m ≤ 131072 → n ≤ m →
  (∀ i, i < m → W.cell? ⟨b, o + i, none⟩ = some (.int .i64 (zs.getD i 0))) → (∀ i, i < n → 0 ≤ zs.getD i 0) → (∀ i, i < n → zs.getD i 0 ≤ 9223372036854775807) →
  Calls Try.prog 32 #[.slice (some ⟨g, 0, none⟩) n n, .func (.func 33) #[] #[.pointer (some ⟨fb, 0, none⟩)]] W fun e w' => SortPost32 n g zs W e w'

def SortNone : Prop := ∀ (g fb : Nat) (W : World), Calls Try.prog 32 #[.slice (some ⟨g, 0, none⟩) 0 0, .func (.func 33) #[] #[.pointer (some ⟨fb, 0, none⟩)]] W fun e w' => e = .returned (.tuple #[]) ∧ w' = W

def OrdPost (n : Nat) (la : Option Addr) (zs : List Int) (w : World) (e : Ending) (w' : World) : Prop :=
  ∃ (g : Nat) (F : Nat → Nat), e = .returned (.slice (some ⟨g, 0, none⟩) n n) ∧ w.heap.size ≤ g ∧ RowI w' g 3 n (fun i => (F i : Int)) ∧ (la = none → ∀ i, i < n → F i = i) ∧ (la ≠ none → OrdOK n zs F) ∧ Below w.heap.size w w'

/-- The box of f and the row of ids. -/
structure OMem (w wr : World) (n k : Nat) (cs : Nat → Value) : Prop where
  below : Below w.heap.size w wr
  size : wr.heap.size = w.heap.size + 2
  box : wr.rowIs w.heap.size 41 4 cs
  ids : ∃ f : Nat → Int, RowI wr (w.heap.size + 1) 3 n f ∧ ∀ i, i < k → f i = i

theorem OMem.start (w : World) (n : Nat) (v0 v1 v2 v3 : Value) : OMem w ((w.alloc (.cells #[v0, v1, v2, v3] 41)).alloc (.cells (madeCells #[.int .i64 0] n) 3)) n 0 (fun i => #[v0, v1, v2, v3].getD i undef) := by
  refine ⟨((Below.refl _ _).alloc (Nat.le_refl _) _).alloc (by simp) _, by simp, ?_, ⟨fun _ => 0, ?_, fun i h => absurd h (Nat.not_lt_zero _)⟩⟩
  · refine World.rowIs.alloc ⟨_, heap_alloc_new w _, rfl, fun i hi => ?_⟩ _
    have hi4 : i < 4 := hi
    have : i = 0 ∨ i = 1 ∨ i = 2 ∨ i = 3 := by omega
    rcases this with rfl | rfl | rfl | rfl <;> rfl
  · have := RowI.made (w.alloc (.cells #[v0, v1, v2, v3] 41)) n 3
    simpa using this

theorem OMem.put {w wr : World} {n k : Nat} {cs : Nat → Value} (h : OMem w wr n k cs) : OMem w (wr.setCell ⟨w.heap.size + 1, k, none⟩ (.int .i64 (k : Int))) n (k + 1) cs := by
  obtain ⟨hb, hs, hx, f, hf, hfz⟩ := h
  refine ⟨hb.setCell (by show w.heap.size ≤ w.heap.size + 1; omega) _, by rw [size_setCell]; exact hs, hx.setOther (by show w.heap.size ≠ w.heap.size + 1; omega) _, ⟨_, hf.set k _, fun i hi => ?_⟩⟩
  by_cases e : i = k
  · simp [e]
  · simpa [e] using hfz i (by omega)

set_option maxHeartbeats 1000000 in
set_option maxRecDepth 100000 in
theorem order26 (sg : SortGives) (sn : SortNone) (s : ByteArray) (n c1 c2 : Nat) (a1 a2 : Option Addr) (zs : List Int) (w : World) (hn : n ≤ 65536) (hr : RowAt w w.heap.size (.slice a2 zs.length c2) zs) (hm : zs.length ≤ 131072)
    (hok : a2 ≠ none → n ≤ zs.length ∧ (∀ i, i < n → 0 ≤ zs.getD i 0) ∧ (∀ i, i < n → zs.getD i 0 ≤ 9223372036854775807)) :
    Calls Try.prog 26 #[.agg #[.string s, .slice a1 n c1, .slice a2 zs.length c2, .map none]] w fun e w' => OrdPost n a2 zs w e w' := by
  obtain ⟨m, hmz⟩ : ∃ m, m = zs.length := ⟨_, rfl⟩
  have HZ : Hid (m = zs.length) := hmz
  have AR : Aside (RowAt w w.heap.size (.slice a2 m c2) zs) := by rw [hmz]; exact hr
  have AO : Aside (a2 ≠ none → n ≤ m ∧ (∀ i, i < n → 0 ≤ zs.getD i 0) ∧ (∀ i, i < n → zs.getD i 0 ≤ 9223372036854775807)) := by rw [hmz]; exact hok
  rw [← hmz] at hm ⊢
  clear hmz hr hok
  have hmk := run_make_row' (P := Try.prog) 29 3 (.int .i64 0) 8 Try.underlying29 Try.infoO3 rfl .i64 .i64 n (by omega) (by omega)
  have hnil := fun w => run_neq_slice_nil_any (P := Try.prog) w 29 3 a2 m c2 0 0 Try.underlying29
  go_enter Try.func26, Try.ntmps26
  go_wp2
  clear hmk
  go_loopw [11] (fun x wr => ∃ k : Nat, k ≤ n ∧ x = .int .i64 k ∧ OMem w wr n k (fun i => #[.string s, .slice a1 n c1, .slice a2 m c2, .map none].getD i undef)) (fun x _ => n - (intOf x).toNat)
  case atStart => exact ⟨0, Nat.zero_le _, rfl, OMem.start w n _ _ _ _⟩
  case round =>
    obtain ⟨k, hk, rfl, hM⟩ := hrel
    by_cases hlt : k < n
    · obtain ⟨f, hf, -⟩ := hM.ids
      have hst1 := hf.cell hlt
      have hst2 := hf.frozen k
      clear hf
      go_wp2
      go_roundw
      case rel => go_light; exact ⟨k + 1, by omega, by go_num, hM.put⟩
      case measure => go_light; simp [intOf]; omega
    · have hkz : ¬ (k : Int) < (n : Int) := by omega
      have hc2 : wr.cell? ⟨w.heap.size, 2, none⟩ = some (.slice a2 m c2) := hM.box.cell (i := 2) (by omega)
      cases a2 with
      | none =>
        go_wp2_with fail
        go_ret
        obtain ⟨f, hf, hfz⟩ := hM.ids
        exact ⟨w.heap.size + 1, fun i => i, rfl, by omega, hf.congr (fun i hi => hfz i (by omega)), fun _ _ _ => rfl, fun h => absurd rfl h, hM.below⟩
      | some ad =>
        have hlt0 : w.heap.size < wr.heap.size := hM.box.lt
        obtain ⟨f, hf, hfz⟩ := hM.ids
        have hrow : RowI wr (w.heap.size + 1) 3 n (fun i => (i : Int)) := hf.congr (fun i hi => hfz i (by omega))
        have hsz := hM.size
        have hbel := hM.below
        clear hf hfz hM
        go_wp2_with fail
        by_cases hn0 : n = 0
        · subst hn0
          refine (sn _ _ _).mono ?_
          rintro e w2 ⟨rfl, hw2⟩
          rw [hw2]
          clear hw2 w2
          go_wp2_with fail
          go_ret
          exact ⟨w.heap.size + 1, fun i => i, rfl, by omega, hrow, (fun h => by cases h), fun _ => ⟨fun i hi => absurd hi (Nat.not_lt_zero _), fun i j hi => absurd hi (Nat.not_lt_zero _), fun i j _ hj => absurd hj (Nat.not_lt_zero _)⟩, hbel⟩
        · obtain ⟨o1, o2, o3⟩ := AO.out (by simp)
          obtain ⟨a', b, o, c', L, f, e, HL, hL, ha, hc, HF, HM⟩ := (AR.out.below hbel).parts
          cases e
          obtain ⟨e1, hbB⟩ := ha (by omega)
          obtain rfl := Option.some.inj e1
          refine (sg n (w.heap.size + 1) w.heap.size b o m c2 zs wr hn hrow hlt0 (by omega) hc2 (by omega) (by omega) HZ.out hm o1 (fun i hi => by rw [← HF.out i hi]; exact hc i hi) o2 o3).mono ?_
          rintro e w2 ⟨rfl, F, hF, hO, hg⟩
          have hbel2 : Below w.heap.size w w2 := hbel.grown hg (by omega) (fun k e => by cases e; omega)
          have AF : Aside (OrdOK n zs F) := hO
          clear hO hc ha e1 o1 o2 o3 hg
          go_wp2_with fail
          go_ret
          exact ⟨w.heap.size + 1, F, rfl, by omega, hF, (fun h => by cases h), fun _ => AF.out, hbel2⟩

end Go.Proofs.Qxb6602969a
