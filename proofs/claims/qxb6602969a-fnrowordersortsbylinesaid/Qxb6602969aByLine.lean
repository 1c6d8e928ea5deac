/-
  THE WALK of FnRowOrderSortsByLine, over whatever slices.SortFunc gives at RowOrder's call.
-/
import Derived.Test.Qxb6602969aOrder
namespace Go.Proofs.Qxb6602969a
open Go.RowKit

theorem Try.infoB4 : (Try.prog.info? 4).map (fun i => (i.zero, i.size, i.bytes)) = some (some (.bool false), 1, 1) := by kernel_rfl

def TruePost7 (w : World) (e : Ending) (w' : World) : Prop := e = .returned (.bool true) ∧ Below w.heap.size w w'

/-- The marks: x is marked iff one of the first k ids is x. -/
structure Seen (w5 wr : World) (n k : Nat) (F : Nat → Nat) : Prop where
  below : Below w5.heap.size w5 wr
  row : ∃ sb : Nat → Bool, wr.rowIs w5.heap.size 4 n (fun i => .bool (sb i)) ∧ ∀ x, sb x = true → ∃ i, i < k ∧ F i = x

theorem Seen.start (w5 : World) (n : Nat) (F : Nat → Nat) : Seen w5 (w5.alloc (.cells (madeCells #[.bool false] n) 4)) n 0 F :=
  ⟨(Below.refl _ _).alloc (Nat.le_refl _) _, ⟨fun _ => false, World.rowIs_made w5 _ n 4, fun _ h => by cases h⟩⟩

theorem Seen.put {w5 wr : World} {n k : Nat} {F : Nat → Nat} (h : Seen w5 wr n k F) : Seen w5 (wr.setCell ⟨w5.heap.size, F k, none⟩ (.bool true)) n (k + 1) F := by
  obtain ⟨hb, sb, hs, hz⟩ := h
  refine ⟨hb.setCell (Nat.le_refl _) _, ⟨fun i => if i = F k then true else sb i, (hs.set (F k) _).congr (fun i _ => by by_cases e : i = F k <;> simp [e]), fun x hx => ?_⟩⟩
  by_cases e : x = F k
  · exact ⟨k, by omega, e.symm⟩
  · simp only [e, if_false] at hx
    obtain ⟨i, hi, hi2⟩ := hz x hx
    exact ⟨i, by omega, hi2⟩

set_option maxHeartbeats 4000000 in
set_option maxRecDepth 100000 in
theorem law7 (sg : SortGives) (sn : SortNone) (s : ByteArray) (n pc m lc : Nat) (pa la : Option Addr) (zs : List Int) (w : World) (hs : s.size ≤ 9223372036854775807) (hp : PtsAt w w.heap.size (.slice pa n pc) n) (hr : RowAt w w.heap.size (.slice la m lc) zs) (hz : ∀ z ∈ zs, z ≤ 9223372036854775807) :
    Calls Try.prog 7 #[.string s, .slice pa n pc, .slice la m lc] w fun e w' => TruePost7 w e w' := by
  have hnl : n ≤ 9223372036854775807 := by obtain ⟨a, b, o, c, X, Y, e, hl, -⟩ := hp; exact hl
  have hml : m = zs.length ∧ m ≤ 9223372036854775807 := by obtain ⟨a, b, o, c, e, hl, -⟩ := hr; cases e; exact ⟨rfl, hl⟩
  have HM : Hid (m = zs.length) := hml.1
  have hml2 := hml.2
  have HZ : Hid (∀ z ∈ zs, z ≤ 9223372036854775807) := hz
  clear hml hz
  go_enter Try.func7, Try.ntmps7
  go_wp2_with fail
  refine (bytes20 s pa la n m pc lc w hs hnl hml2).mono ?_
  rintro e w1 ⟨b1, rfl, hw1, hb1⟩
  rw [hw1]
  clear hw1 w1
  cases b1 with
  | false =>
    go_wp2_with fail
    go_ret
    exact ⟨rfl, Below.refl _ _⟩
  | true =>
  obtain ⟨l1, l2, l3⟩ := hb1 rfl
  clear hb1
  go_wp2_with fail
  refine (small21 s pa la n m pc lc w l1 l2 l3).mono ?_
  rintro e w1 ⟨b1, rfl, hw1, hb1⟩
  rw [hw1]
  clear hw1 w1
  cases b1 with
  | false =>
    go_wp2_with fail
    go_ret
    exact ⟨rfl, Below.refl _ _⟩
  | true =>
  obtain ⟨l4, l5⟩ := hb1 rfl
  clear hb1
  go_wp2_with fail
  refine (lines22 n m lc la zs w _ hr).mono ?_
  rintro e w1 ⟨b1, rfl, hw1, hb1⟩
  rw [hw1]
  clear hw1 w1
  cases b1 with
  | false =>
    go_wp2_with fail
    go_ret
    exact ⟨rfl, Below.refl _ _⟩
  | true =>
  have HO : Hid (la = none ∨ (n ≤ zs.length ∧ ∀ i, i < n → 0 ≤ zs.getD i 0)) := hb1 rfl
  clear hb1
  go_wp2_with fail
  refine (pts23 n pc pa w hp l4).mono ?_
  rintro e w1 ⟨a1, c1, rfl, hp1, hbel1⟩
  have hs1 := hbel1.size
  have hr1 : RowAt w1 w1.heap.size (.slice la m lc) zs := (hr.below hbel1).mono hs1
  clear hp hr
  go_wp2_with fail
  refine (copy24 m lc la zs w1 hr1 l5).mono ?_
  rintro e w2 ⟨a2, c2, rfl, hr2, hnl2, -, hbel2⟩
  have hs2 := hbel2.size
  have hp2 : PtsAt w2 w2.heap.size (.slice a1 n c1) n := (hp1.below hbel2).mono hs2
  rw [← HM.out] at hr2 ⊢
  have hbel02 : Below w.heap.size w w2 := hbel1.trans (hbel2.mono (by omega))
  have HN2 : Hid (a2 = none ↔ la = none) := hnl2
  clear hp1 hr1 hbel1 hbel2 hnl2
  go_wp2_with fail
  refine (file25 s n c1 m c2 a1 a2 zs w2 hp2 l4 hr2 l5).mono ?_
  rintro e w3 ⟨a3, c3, a4, c4, rfl, hr3, hnl3, hbel3⟩
  have hs3 := hbel3.size
  rw [← HM.out] at hr3 ⊢
  have HN3 : Hid (a4 = none ↔ a2 = none) := hnl3
  clear hp2 hnl3
  go_wp2_with fail
  have hb34 : Below w3.heap.size w3 (w3.alloc (.cells #[.string s, .slice a3 n c3, .slice a4 m c4, .map none] 41)) := (Below.refl _ _).alloc (Nat.le_refl _) _
  have hr4 := (hr3.below hb34).mono hb34.size
  rw [HM.out] at hr4 l5
  have ho := order26 sg sn s n c3 c4 a3 a4 zs _ l4 hr4 l5 (fun hne => by
    have hla : la ≠ none := fun h => hne (HN3.out.2 (HN2.out.2 h))
    rcases HO.out with h | ⟨h1, h2⟩
    · exact absurd h hla
    · refine ⟨h1, h2, fun i hi => HZ.out _ (getD_mem (by omega))⟩)
  rw [← HM.out] at ho l5
  refine ho.mono ?_
  clear ho
  rintro e w5 ⟨g, F, rfl, hgl, hrow, hF1, hF2, hbel5⟩
  have hs4 := hb34.size
  have hs5 := hbel5.size
  have hbF : Below w.heap.size w w5 := hbel02.trans ((hbel3.mono (by omega)).trans ((hb34.mono (by omega)).trans (hbel5.mono (by omega))))
  have hb25 : Below w2.heap.size w2 w5 := hbel3.trans ((hb34.mono (by omega)).trans (hbel5.mono (by omega)))
  have hrl : RowAt w5 w2.heap.size (.slice a2 m c2) zs := hr2.below hb25
  have HF : Hid ((a2 = none → ∀ i, i < n → F i = i) ∧ (a2 ≠ none → OrdOK n zs F)) := ⟨fun h => hF1 (HN3.out.2 h), fun h => hF2 (fun h2 => h (HN3.out.1 h2))⟩
  clear hr4 hr3 hb34 hbel5 hbel3 hF1 hF2 hb25 hr2 hbel02
  have hnil := fun w => Lib.run_eql_slice_nil (P := Try.prog) w 29 3 a2 m c2 0 0 Try.underlying29
  cases a2 with
  | none =>
    have HI := HF.out.1 rfl
    have HI2 : Hid (∀ i, i < n → F i = i) := HI
    clear HI hrl
    go_wp2_with fail
    clear hnil
    go_loop [10] (fun x => ∃ k : Nat, k ≤ n ∧ x = .int .i64 k) (fun x => n - (intOf x).toNat)
    case atStart => exact ⟨0, Nat.zero_le _, rfl⟩
    case round =>
      obtain ⟨k, hk, rfl⟩ := hrel
      by_cases hlt : k < n
      · have hck := hrow.cell hlt
        simp only [HI2.out k hlt] at hck
        go_wp2_with fail
        go_round
        case rel => go_light; exact ⟨k + 1, by omega, by go_num⟩
        case measure => go_light; simp [intOf]; omega
      · go_wp2_with fail
        go_ret
        exact ⟨rfl, hbF⟩
  | some ad =>
    have AO : Aside (OrdOK n zs F) := HF.out.2 (by simp)
    have AZ : Aside (n ≤ m) := by
      rcases HO.out with h | ⟨h1, h2⟩
      · exact absurd (HN2.out.2 h) (by simp)
      · rw [HM.out]; exact h1
    have hnm := AZ.out
    have hmk := run_make_row' (P := Try.prog) 44 4 (.bool false) 1 Try.underlying44 Try.infoB4 rfl .i64 .i64 n (by omega) (by omega)
    obtain ⟨a', b, o, c', L, f, e, HL, hL, ha, hc, HFm, HMm⟩ := hrl.parts
    cases e
    clear hrl
    go_wp2_with fail
    clear hnil hmk
    go_loopw [12] (fun x wr => ∃ k : Nat, k ≤ n ∧ x = .int .i64 k ∧ Seen w5 wr n k F) (fun x _ => n - (intOf x).toNat)
    case atStart => exact ⟨0, Nat.zero_le _, rfl, Seen.start w5 n F⟩
    case round =>
      obtain ⟨k, hk, rfl, hS⟩ := hrel
      by_cases hlt : k < n
      · have hgl5 := hrow.lt
        have hck : wr.cell? ⟨g, k, none⟩ = some (.int .i64 (F k : Int)) := by rw [hS.below.cell (p := ⟨g, k, none⟩) hgl5]; exact hrow.cell hlt
        have hFn := AO.out.range k hlt
        obtain ⟨sb, hsb, hsz⟩ := hS.row
        have hsf : sb (F k) = false := by
          cases hq : sb (F k) with
          | false => rfl
          | true =>
            obtain ⟨i, hi, hi2⟩ := hsz _ hq
            have := AO.out.inj i k (by omega) hlt hi2
            omega
        have hcs := hsb.cell hFn
        simp only [hsf] at hcs
        have hfs := hsb.frozen (F k)
        have hS2 := hS.put
        obtain ⟨x, hx⟩ : ∃ x, x = F k := ⟨_, rfl⟩
        rw [← hx] at hck hFn hcs hfs hS2
        have hd1 : decide ((x : Int) < 0) = false := by simp
        have hd2 : decide ((n : Int) ≤ (x : Int)) = false := by simp; omega
        clear hx hsf hsb hsz hS hc
        go_wp2_with fail
        go_roundw
        case rel => go_light; exact ⟨k + 1, by omega, by go_num, hS2⟩
        case measure => go_light; simp [intOf]; omega
      · have hkz : ¬ (k : Int) < (n : Int) := by omega
        have hgl5 := hrow.lt
        obtain ⟨w6, hw6⟩ : ∃ w6, w6 = wr := ⟨_, rfl⟩
        rw [← hw6] at hS ⊢
        clear hw6
        have hrow6 : RowI w6 g 3 n (fun i => (F i : Int)) := hrow.below hS.below hgl5
        have hbG : Below w.heap.size w w6 := hbF.trans (hS.below.mono (by omega))
        have hcl : ∀ j, j < m → w6.cell? ⟨b, o + j, none⟩ = some (.int .i64 (zs.getD j 0)) := fun j hj => by
          rw [hS.below.cell (p := ⟨b, o + j, none⟩) (by show b < _; have := (ha (by omega)).2; omega), hc j hj, HFm.out j hj]
        have HCL : Hid (∀ j, j < m → w6.cell? ⟨b, o + j, none⟩ = some (.int .i64 (zs.getD j 0))) := hcl
        clear hcl hc hS hrow
        go_wp2_with fail
        go_loopw [14] (fun x wr => ∃ k d : Nat, 1 ≤ k ∧ (k ≤ n ∨ k = 1) ∧ x = .int .i64 k ∧ wr = w6.drewN d) (fun x _ => n - (intOf x).toNat)
        case atStart => exact ⟨1, 0, by omega, .inr rfl, rfl, rfl⟩
        case round =>
          obtain ⟨k2, d, hk1, hk2, rfl, rfl⟩ := hrel
          by_cases hlt2 : k2 < n
          · obtain ⟨e1, hbB⟩ := ha (by omega)
            obtain rfl := Option.some.inj e1
            clear e1
            have hkz2 : (k2 : Int) < (n : Int) := by omega
            have hk1z : (1 : Int) ≤ (k2 : Int) := by omega
            have r1 := AO.out.range (k2 - 1) (by omega)
            have r2 := AO.out.range k2 hlt2
            have hasc := AO.out.asc (k2 - 1) k2 (by omega) hlt2
            have hc1 := hrow6.cell (i := k2 - 1) (by omega)
            have hc2 := hrow6.cell hlt2
            have hd1 := HCL.out (F (k2 - 1)) (by omega)
            have hd2 := HCL.out (F k2) (by omega)
            obtain ⟨x1, hx1⟩ : ∃ x, x = F (k2 - 1) := ⟨_, rfl⟩
            obtain ⟨x2, hx2⟩ : ∃ x, x = F k2 := ⟨_, rfl⟩
            simp only [← hx1] at r1 hasc hc1 hd1
            simp only [← hx2] at r2 hasc hc2 hd2
            obtain ⟨y1, hy1⟩ : ∃ y, y = zs.getD x1 0 := ⟨_, rfl⟩
            obtain ⟨y2, hy2⟩ : ∃ y, y = zs.getD x2 0 := ⟨_, rfl⟩
            rw [← hy1] at hasc hd1
            rw [← hy2] at hasc hd2
            have hx1z : (x1 : Int) < (m : Int) := by omega
            have hx2z : (x2 : Int) < (m : Int) := by omega
            have hdd : decide (y2 < y1) = false := by simp; omega
            clear hx1 hx2 hy1 hy2
            go_wp2_with fail
            go_quiet (fail)
            go_wp2
            go_roundw
            case rel => go_light; exact ⟨k2 + 1, _, by omega, .inl (by omega), by go_num, rfl⟩
            case measure => go_light; simp [intOf]; omega
          · go_wp2_with fail
            go_ret
            exact ⟨rfl, below_drewN hbG d⟩

end Go.Proofs.Qxb6602969a
