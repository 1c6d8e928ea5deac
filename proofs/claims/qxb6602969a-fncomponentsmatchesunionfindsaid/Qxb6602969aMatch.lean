/-
  THE WALK of FnComponentsMatchesUnionFind: it returns true, and nothing that was there has turned.
-/
import Derived.Test.Qxb6602969aClosed
import Derived.Test.Qxb6602969aFind
namespace Go.Proofs.Qxb6602969a
open Go.RowKit

set_option maxHeartbeats 2000000 in
set_option maxRecDepth 100000 in
theorem match3 (rows : List (List Int)) (v : Value) (w : World) (hg : GraphAt w w.heap.size v rows) :
    Calls Try.prog 3 #[v] w fun e w' => TruePost w e w' := by
  obtain ⟨a, c, n0, hv⟩ : ∃ a c n, v = .slice a n c := by obtain ⟨a, b, o, c, n, e, -⟩ := hg.parts; exact ⟨a, c, n, e⟩
  subst hv
  go_enter Try.func3, Try.ntmps3
  go_wp2_with fail
  refine (bytes9 rows _ _ _ hg).mono ?_
  rintro e w1 ⟨b1, rfl, hw1, hb1⟩
  rw [hw1]
  clear hw1 w1
  cases b1 with
  | false =>
    go_wp2_with fail
    go_ret
    exact ⟨rfl, Below.refl _ _⟩
  | true =>
  have HB : Hid (∀ i, i < rows.length → (rows.getD i []).length ≤ 1048576) := hb1 rfl
  clear hb1
  go_wp2_with fail
  refine (small10 rows _ _ _ hg HB.out).mono ?_
  rintro e w1 ⟨b1, rfl, hw1, hb1⟩
  rw [hw1]
  clear hw1 w1
  cases b1 with
  | false =>
    go_wp2_with fail
    go_ret
    exact ⟨rfl, Below.refl _ _⟩
  | true =>
  have HS : Hid (3 * rows.length ≤ 131072 ∧ ∀ i, i < rows.length → (rows.getD i []).length ≤ 131072) := hb1 rfl
  clear hb1 HB
  go_wp2_with fail
  refine (well11 rows _ _ hg HS.out.1 HS.out.2).mono ?_
  rintro e w2 ⟨b1, rfl, hbel, hb1⟩
  cases b1 with
  | false =>
    go_wp2_with fail
    go_ret
    exact ⟨rfl, hbel⟩
  | true =>
  have wf : WF rows := hb1 rfl
  have hg2 : GraphAt w2 w2.heap.size (.slice a n0 c) rows := (hg.below hbel).mono hbel.size
  have hlt2 := hbel.size
  clear hb1 hg
  go_wp2_with fail
  refine (clone12 rows _ _ hg2 HS.out.1 HS.out.2).mono ?_
  rintro e w3 ⟨v3, rfl, hg3, hbel3⟩
  have hs3 := hbel3.size
  have hbel3' : Below w.heap.size w w3 := hbel.trans (hbel3.mono hlt2)
  obtain ⟨a3, b3, o3, c3, n, rfl, HN, hl3, ha3, HC3⟩ := hg3.parts
  clear hg2 hbel hbel3
  go_wp2_with fail
  refine (clone13 rows _ _ hg3 HS.out.1 HS.out.2).mono ?_
  rintro e w4 ⟨v4, rfl, hg4, hbel4⟩
  have hs4 := hbel4.size
  obtain ⟨a4, c4, n4, hv4⟩ : ∃ a c n, v4 = .slice a n c := by obtain ⟨a, b, o, c, n, e, -⟩ := hg4.parts; exact ⟨a, c, n, e⟩
  subst hv4
  have hn1 := HS.out.1
  rw [← HN.out] at hn1
  go_wp2_with fail
  refine (comp14 rows _ _ hg4 wf HS.out.1).mono ?_
  rintro e w5 ⟨g, n5, cl, rfl, hn5, hgl, hrow, hlab, hbel5⟩
  have hs5 := hbel5.size
  obtain rfl : n = n5 := by rw [hn5]; exact HN.out
  have hbelF : Below w.heap.size w w5 := hbel3'.trans ((hbel4.mono (by omega)).trans (hbel5.mono (by omega)))
  have hb35 : Below w3.heap.size w3 w5 := hbel4.trans (hbel5.mono (by omega))
  have hg5 : GraphAt w5 w5.heap.size (.slice a3 n c3) rows := (hg3.below hb35).mono hb35.size
  clear hbel4 hbel5 hbel3' hg3 hg4 hn5 hb35
  go_wp2_with fail
  refine (labels15 rows _ _ hg5 wf HS.out.1).mono ?_
  rintro e w6 ⟨g6, n6, ul, rfl, hn6, hgl6, hrow6, hlab6, hbel6⟩
  have hs6 := hbel6.size
  obtain rfl : n = n6 := by rw [hn6]; exact HN.out
  have hrowc : RowI w6 g 31 n (fun i => (cl i : Int)) := hrow.below hbel6 hrow.lt
  have AQ : Aside (∀ v, v < n → ul v = cl v) := fun v hv => hlab6.unique hlab (by rw [← HN.out]; exact hv)
  have hbelG : Below w.heap.size w w6 := hbelF.trans (hbel6.mono (by omega))
  clear hn6 hlab6 hbel6 hlab wf hg5 hrow hbelF
  go_wp2_with fail
  go_loopw [6] (fun x wr => ∃ j d : Nat, j ≤ n ∧ x = .int .i64 j ∧ wr = w6.drewN d) (fun x _ => n - (intOf x).toNat)
  case atStart => exact ⟨0, 0, Nat.zero_le _, rfl, rfl⟩
  case round =>
    obtain ⟨j, d, hj, rfl, rfl⟩ := hrel
    by_cases hjn : j < n
    · have hjz : (j : Int) < (n : Int) := by omega
      have hc1 := hrowc.cell hjn
      have hc2 := hrow6.cell hjn
      simp only [AQ.out j hjn] at hc2
      obtain ⟨y, hy⟩ : ∃ y, y = cl j := ⟨_, rfl⟩
      rw [← hy] at hc1 hc2
      clear hy
      go_wp2_with fail
      go_quiet (fail)
      go_wp2
      go_roundw
      case rel => go_light; exact ⟨j + 1, _, by omega, by go_num, rfl⟩
      case measure => go_light; simp [intOf]; omega
    · go_wp2_with fail
      go_ret
      exact ⟨rfl, below_drewN hbelG d⟩

end Go.Proofs.Qxb6602969a
