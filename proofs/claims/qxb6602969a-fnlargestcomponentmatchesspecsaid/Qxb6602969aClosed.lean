/-
  THE WALK of FnComponentsLabelsClosedUnderEdges: it returns true, and nothing that was there has turned.
-/
import Derived.Test.Qxb6602969aRead
import Derived.Test.Qxb6602969aWell
import Derived.Test.Qxb6602969aClone
import Derived.Test.Qxb6602969aComp
import Derived.Deep.QuietTactic
import Derived.BigQuiet
namespace Go.Proofs.Qxb6602969a
open Go.RowKit

def TruePost (w : World) (e : Ending) (w' : World) : Prop := e = .returned (.bool true) ∧ Below w.heap.size w w'

set_option maxHeartbeats 2000000 in
set_option maxRecDepth 100000 in
theorem closed4 (rows : List (List Int)) (v : Value) (w : World) (hg : GraphAt w w.heap.size v rows) :
    Calls Try.prog 4 #[v] w fun e w' => TruePost w e w' := by
  obtain ⟨a, c, n0, hv⟩ : ∃ a c n, v = .slice a n c := by obtain ⟨a, b, o, c, n, e, -⟩ := hg.parts; exact ⟨a, c, n, e⟩
  subst hv
  go_enter Try.func4, Try.ntmps4
  go_wp2_with fail
  refine (bytes16 rows _ _ _ hg).mono ?_
  rintro e w1 ⟨b1, rfl, hw1, hb1⟩
  rw [hw1]
  clear hw1 w1
  cases b1 with
  | false =>
    go_wp2_with fail
    go_ret
    exact ⟨rfl, Below.refl _ _⟩
  | true =>
  have HB : Hid (∀ i, i < rows.length → (rows.getD i []).length ≤ 1048576) := hb1 rfl
  clear hb1
  go_wp2_with fail
  refine (small10 rows _ _ _ hg HB.out).mono ?_
  rintro e w1 ⟨b1, rfl, hw1, hb1⟩
  rw [hw1]
  clear hw1 w1
  cases b1 with
  | false =>
    go_wp2_with fail
    go_ret
    exact ⟨rfl, Below.refl _ _⟩
  | true =>
  have HS : Hid (3 * rows.length ≤ 131072 ∧ ∀ i, i < rows.length → (rows.getD i []).length ≤ 131072) := hb1 rfl
  clear hb1 HB
  go_wp2_with fail
  refine (well11 rows _ _ hg HS.out.1 HS.out.2).mono ?_
  rintro e w2 ⟨b1, rfl, hbel, hb1⟩
  cases b1 with
  | false =>
    go_wp2_with fail
    go_ret
    exact ⟨rfl, hbel⟩
  | true =>
  have wf : WF rows := hb1 rfl
  have hg2 : GraphAt w2 w2.heap.size (.slice a n0 c) rows := (hg.below hbel).mono hbel.size
  have hlt2 := hbel.size
  clear hb1 hg
  go_wp2_with fail
  refine (clone12 rows _ _ hg2 HS.out.1 HS.out.2).mono ?_
  rintro e w3 ⟨v3, rfl, hg3, hbel3⟩
  have hs3 := hbel3.size
  have hbel3' : Below w.heap.size w w3 := hbel.trans (hbel3.mono hlt2)
  obtain ⟨a3, b3, o3, c3, n, rfl, HN, hl3, ha3, HC3⟩ := hg3.parts
  clear hg2 hbel hbel3
  go_wp2_with fail
  refine (clone13 rows _ _ hg3 HS.out.1 HS.out.2).mono ?_
  rintro e w4 ⟨v4, rfl, hg4, hbel4⟩
  have hs4 := hbel4.size
  obtain ⟨a4, c4, n4, hv4⟩ : ∃ a c n, v4 = .slice a n c := by obtain ⟨a, b, o, c, n, e, -⟩ := hg4.parts; exact ⟨a, c, n, e⟩
  subst hv4
  have hn1 := HS.out.1
  rw [← HN.out] at hn1
  go_wp2_with fail
  refine (comp14 rows _ _ hg4 wf HS.out.1).mono ?_
  rintro e w5 ⟨g, n5, cl, rfl, hn5, hgl, hrow, hlab, hbel5⟩
  have hs5 := hbel5.size
  obtain rfl : n = n5 := by rw [hn5]; exact HN.out
  have hbelF : Below w.heap.size w w5 := hbel3'.trans ((hbel4.mono (by omega)).trans (hbel5.mono (by omega)))
  have hb35 : Below w3.heap.size w3 w5 := hbel4.trans (hbel5.mono (by omega))
  have AL : Aside (Lab rows cl ∧ WF rows) := ⟨hlab, wf⟩
  clear hbel4 hbel5 hbel3' hg3 hg4 hlab wf hn5
  go_wp2_with fail
  go_loopw [6] (fun x wr => ∃ k d : Nat, k ≤ n ∧ x = .int .i64 k ∧ wr = w5.drewN d) (fun x _ => n - (intOf x).toNat)
  case atStart => exact ⟨0, 0, Nat.zero_le _, rfl, rfl⟩
  case round =>
    obtain ⟨k, d, hk, rfl, rfl⟩ := hrel
    by_cases hlt : k < n
    · have hck := hrow.cell hlt
      have hle := AL.out.1.le k (by rw [← HN.out]; exact hlt)
      have hfix := AL.out.1.fix (v := k) (by rw [← HN.out]; exact hlt)
      obtain ⟨l, hl⟩ : ∃ l, l = cl k := ⟨_, rfl⟩
      rw [← hl] at hck hle hfix
      have hln : l < n := by omega
      have hcl := hrow.cell hln
      simp only [hfix] at hcl
      have Hl : Hid (l = cl k) := hl
      clear hl hfix
      obtain ⟨rfl, hbB⟩ := ha3 (by omega)
      obtain ⟨u, hu0, hrow0⟩ := HC3.out k hlt
      have hu : w5.cell? ⟨b3, o3 + k, none⟩ = some u := by rw [hb35.cell (p := ⟨b3, o3 + k, none⟩) hbB]; exact hu0
      obtain ⟨a', b', o', c', L, fr, rfl, HL, hL, ha', hc', HF, HM⟩ := (hrow0.below hb35).parts
      clear hu0 hrow0
      have hd1 : decide ((l : Int) < 0) = false := by simp
      have hd2 : decide ((k : Int) < (l : Int)) = false := by simp; omega
      go_wp2_with fail
      go_loopw [9] (fun x wr => ∃ j d : Nat, j ≤ L ∧ x = .int .i64 j ∧ wr = w5.drewN d) (fun x _ => L - (intOf x).toNat)
      case atStart => exact ⟨0, d, Nat.zero_le _, rfl, rfl⟩
      case round =>
        obtain ⟨j, d', hj, rfl, rfl⟩ := hrel
        by_cases hjL : j < L
        · obtain ⟨rfl, hbB'⟩ := ha' (by omega)
          have hcj := hc' j hjL
          have hmem := HM.out j hjL
          have hrange := AL.out.2.range k (by rw [← HN.out]; exact hlt) _ hmem
          have hkeep := AL.out.1.keeps k (by rw [← HN.out]; exact hlt) _ hmem
          obtain ⟨y, hy⟩ : ∃ y : Nat, fr j = y := ⟨(fr j).toNat, by omega⟩
          rw [hy] at hcj hrange hkeep
          rw [← HN.out] at hrange
          rw [Int.toNat_natCast, ← Hl.out] at hkeep
          have hyn : y < n := by omega
          have hyz : (y : Int) < (n : Int) := by omega
          have hkz : (k : Int) < (n : Int) := by omega
          have hjz : (j : Int) < (L : Int) := by omega
          have hcy := hrow.cell hyn
          simp only [hkeep] at hcy
          clear hc' hmem hrange hkeep hy
          go_wp2_with fail
          go_quiet (fail)
          go_wp2
          go_roundw
          case rel => go_light; exact ⟨j + 1, _, by omega, by go_num, rfl⟩
          case measure => go_light; simp [intOf]; omega
        · clear hc'
          go_wp2_with fail
          go_roundw
          case rel => go_light; exact ⟨k + 1, d', by omega, by go_num, rfl⟩
          case measure => go_light; simp [intOf]; omega
    · go_wp2_with fail
      go_ret
      exact ⟨rfl, below_drewN hbelF d⟩

end Go.Proofs.Qxb6602969a
