/-
  THE WALK of FnLargestComponentMatchesSpec: it returns true, and nothing that was there has turned.
-/
import Derived.Test.Qxb6602969aClosed
import Derived.Test.Qxb6602969aFind
import Derived.Test.Qxb6602969aLarge
namespace Go.Proofs.Qxb6602969a
open Go.RowKit

set_option maxHeartbeats 4000000 in
set_option maxRecDepth 100000 in
theorem lspec6 (rows : List (List Int)) (v : Value) (w : World) (hg : GraphAt w w.heap.size v rows) :
    Calls Try.prog 6 #[v] w fun e w' => TruePost w e w' := by
  obtain ⟨a, c, n0, hv⟩ : ∃ a c n, v = .slice a n c := by obtain ⟨a, b, o, c, n, e, -⟩ := hg.parts; exact ⟨a, c, n, e⟩
  subst hv
  go_enter Try.func6, Try.ntmps6
  go_wp2_with fail
  refine (bytes18 rows _ _ _ hg).mono ?_
  rintro e w1 ⟨b1, rfl, hw1, hb1⟩
  rw [hw1]
  clear hw1 w1
  cases b1 with
  | false =>
    go_wp2_with fail
    go_ret
    exact ⟨rfl, Below.refl _ _⟩
  | true =>
  have HB : Hid (∀ i, i < rows.length → (rows.getD i []).length ≤ 1048576) := hb1 rfl
  clear hb1
  go_wp2_with fail
  refine (small10 rows _ _ _ hg HB.out).mono ?_
  rintro e w1 ⟨b1, rfl, hw1, hb1⟩
  rw [hw1]
  clear hw1 w1
  cases b1 with
  | false =>
    go_wp2_with fail
    go_ret
    exact ⟨rfl, Below.refl _ _⟩
  | true =>
  have HS : Hid (3 * rows.length ≤ 131072 ∧ ∀ i, i < rows.length → (rows.getD i []).length ≤ 131072) := hb1 rfl
  clear hb1 HB
  go_wp2_with fail
  refine (well11 rows _ _ hg HS.out.1 HS.out.2).mono ?_
  rintro e w2 ⟨b1, rfl, hbel, hb1⟩
  cases b1 with
  | false =>
    go_wp2_with fail
    go_ret
    exact ⟨rfl, hbel⟩
  | true =>
  have wf : WF rows := hb1 rfl
  have hg2 : GraphAt w2 w2.heap.size (.slice a n0 c) rows := (hg.below hbel).mono hbel.size
  have hlt2 := hbel.size
  clear hb1 hg
  go_wp2_with fail
  refine (clone12 rows _ _ hg2 HS.out.1 HS.out.2).mono ?_
  rintro e w3 ⟨v3, rfl, hg3, hbel3⟩
  have hs3 := hbel3.size
  have hbel3' : Below w.heap.size w w3 := hbel.trans (hbel3.mono hlt2)
  obtain ⟨a3, b3, o3, c3, n, rfl, HN, hl3, ha3, HC3⟩ := hg3.parts
  clear hg2 hbel hbel3
  go_wp2_with fail
  refine (clone13 rows _ _ hg3 HS.out.1 HS.out.2).mono ?_
  rintro e w4 ⟨v4, rfl, hg4, hbel4⟩
  have hs4 := hbel4.size
  obtain ⟨a4, c4, n4, hv4⟩ : ∃ a c n, v4 = .slice a n c := by obtain ⟨a, b, o, c, n, e, -⟩ := hg4.parts; exact ⟨a, c, n, e⟩
  subst hv4
  have hn1 := HS.out.1
  rw [← HN.out] at hn1
  go_wp2_with fail
  refine (large19 rows _ _ hg4 wf HS.out.1).mono ?_
  rintro e w5 ⟨v5, cl, L, n5, rfl, hn5, hlab, hbig, hgot, hnil5, hbel5⟩
  have hs5 := hbel5.size
  obtain rfl : n = n5 := by rw [hn5]; exact HN.out
  have hbelF : Below w.heap.size w w5 := hbel3'.trans ((hbel4.mono (by omega)).trans (hbel5.mono (by omega)))
  have hb35 : Below w3.heap.size w3 w5 := hbel4.trans (hbel5.mono (by omega))
  have hg5 : GraphAt w5 w5.heap.size (.slice a3 n c3) rows := (hg3.below hb35).mono hb35.size
  obtain ⟨ga, gb, go, gc, gm, gf, rfl, HGL, hgL, hga, hgc, HGF, HGM⟩ := hgot.parts
  have hgm : gm = cnt cl L n := by rw [HGL.out, List.length_map, mbr_length]
  clear hbel4 hbel5 hbel3' hg3 hg4 hn5 hb35 hgot HGM
  by_cases h0 : n = 0
  · -- the empty graph: nil
    have hm0 : mbr cl L n = [] := by rw [h0]; rfl
    have hv0 := hnil5 hm0
    have hb0 : ((n : Int) == 0) = true := by simp; omega
    have hz := fun w => Lib.run_eql_slice_nil (P := Try.prog) w 27 31 ga gm gc 0 0 Try.underlying27
    have hgan : ga.isNone = true := by
      injection hv0 with e1 e2 e3
      rw [e1]; rfl
    clear hm0 hv0 hnil5 hgm h0 hgc hga
    go_wp2_with fail
    go_ret
    exact ⟨rfl, hbelF⟩
  · have hn0 : 0 < n := by omega
    obtain ⟨rfl, hb3B⟩ := ha3 hn0
    clear ha3 HC3
    have hb0 : ((n : Int) == 0) = false := by simp; omega
    obtain ⟨q1, q2, q3, q4⟩ := big_facts HN.out hn0 hlab hbig
    obtain ⟨rfl, hgbB⟩ := hga (by omega)
    have hgm0 : 0 < gm := by omega
    have hgmn : gm ≤ n := by rw [hgm]; exact cnt_le _ _ _
    have AF : Aside (Lab rows cl ∧ BigTo (fun l => cnt cl l n) n L ∧ gm = cnt cl L n ∧ cl L = L ∧ (mbr cl L n).getD 0 0 = L) := ⟨hlab, hbig, hgm, q3, q4⟩
    clear hnil5 h0 hga hlab hbig hgm q1 q3 q4
    go_wp2_with fail
    refine (labels15 rows _ _ hg5 wf HS.out.1).mono ?_
    rintro e w6 ⟨g6, n6, ul, rfl, hn6, hgl6, hrow6, hlab6, hbel6⟩
    have hs6 := hbel6.size
    obtain rfl : n = n6 := by rw [hn6]; exact HN.out
    have AQ : Aside (∀ v, v < n → ul v = cl v) := fun v hv => hlab6.unique AF.out.1 (by rw [← HN.out]; exact hv)
    have AU : Aside (Lab rows ul) := hlab6
    have hgl6' := hrow6.lt
    have hbelG : Below w.heap.size w w6 := hbelF.trans (hbel6.mono (by omega))
    have hmk := run_make_row' (P := Try.prog) 29 3 (.int .i64 0) 8 Try.underlying29 Try.infoK3 rfl .i64 .i64 n (by omega) (by omega)
    clear hn6 hlab6 wf hg5 hbelF
    go_wp2_with fail
    clear hmk
    -- THE SIZES
    go_loopw [8] (fun x wr => ∃ k : Nat, k ≤ n ∧ x = .int .i64 k ∧ ZMem w6 wr n (fun l => cnt ul l k)) (fun x _ => n - (intOf x).toNat)
    case atStart => exact ⟨0, Nat.zero_le _, rfl, ZMem.start w6 n⟩
    case round =>
      obtain ⟨k, hk, rfl, hM⟩ := hrel
      by_cases hlt : k < n
      · have hck : wr.cell? ⟨g6, k, none⟩ = some (.int .i64 (ul k : Int)) := by rw [hM.below.cell (p := ⟨g6, k, none⟩) hgl6']; exact hrow6.cell hlt
        have hle := AU.out.le k (by rw [← HN.out]; exact hlt)
        have hcn : ul k < n := by omega
        have hsz := hM.row.cell hcn
        have hfz := hM.row.frozen (ul k)
        have hcl := cnt_le ul (ul k) k
        have hM2 := hM.add
        obtain ⟨l, hl⟩ : ∃ l, l = ul k := ⟨_, rfl⟩
        rw [← hl] at hck hle hcn hsz hfz hcl hM2
        obtain ⟨q, hq⟩ : ∃ q, q = cnt ul l k := ⟨_, rfl⟩
        simp only [← hq] at hsz hcl hM2
        clear hl hq hM hgc
        go_wp2_with fail
        go_roundw
        case rel => go_light; exact ⟨k + 1, by omega, by go_num, hM2⟩
        case measure => go_light; simp [intOf]; omega
      · have hkn : ¬ (k : Int) < (n : Int) := by omega
        have hkk : k = n := by omega
        rw [hkk] at hM
        clear hkk
        obtain ⟨w7, hw7⟩ : ∃ w7, w7 = wr := ⟨_, rfl⟩
        rw [← hw7] at hM ⊢
        clear hw7
        have hb57 : Below w5.heap.size w5 w7 := hbel6.trans (hM.below.mono hs6)
        have hgc7 : ∀ i, i < gm → w7.cell? ⟨gb, go + i, none⟩ = some (.int .i64 (((mbr cl L n).getD i 0 : Nat) : Int)) := fun i hi => by
          rw [hb57.cell (p := ⟨gb, go + i, none⟩) hgbB, hgc i hi, HGF.out i hi]
          have hi2 : i < (mbr cl L n).length := by rw [mbr_length, ← AF.out.2.2.1]; exact hi
          simp [List.getD, List.getElem?_eq_getElem hi2]
        have hrow7 : RowI w7 g6 3 n (fun i => (ul i : Int)) := hrow6.below hM.below hgl6'
        have hg0 : w7.cell? ⟨gb, go, none⟩ = some (.int .i64 (L : Int)) := by
          have := hgc7 0 hgm0
          rw [AF.out.2.2.2.2] at this
          simpa using this
        have hbelH : Below w.heap.size w w7 := hbelG.trans (hM.below.mono (by omega))
        have hrowZ := hM.row
        have hd1 : decide ((L : Int) < 0) = false := by simp
        have hd2 : decide ((n : Int) ≤ (L : Int)) = false := by simp; omega
        have hd3 : ((gm : Int) == 0) = false := by simp; omega
        clear hgc hrow6 hb57 hM hbelG hbel6
        have HGC : Hid (∀ i, i < gm → w7.cell? ⟨gb, go + i, none⟩ = some (.int .i64 (((mbr cl L n).getD i 0 : Nat) : Int))) := hgc7
        clear hgc7
        go_wp2_with fail
        -- THE MEMBERS
        go_loopw [10] (fun x wr => ∃ i d : Nat, i ≤ gm ∧ x = .int .i64 i ∧ wr = w7.drewN d) (fun x _ => gm - (intOf x).toNat)
        case atStart => exact ⟨0, 0, Nat.zero_le _, rfl, rfl⟩
        case round =>
          obtain ⟨i, d, hi, rfl, rfl⟩ := hrel
          by_cases hilt : i < gm
          · have hiz : (i : Int) < (gm : Int) := by omega
            have hci := HGC.out i hilt
            obtain ⟨m1, m2⟩ := mbr_get (c := cl) (L := L) (n := n) (i := i) (by rw [← AF.out.2.2.1]; exact hilt)
            have hul := AQ.out _ m1
            rw [m2] at hul
            have hcu := hrow7.cell m1
            simp only [hul] at hcu
            have hlt2 : 0 < i → (mbr cl L n).getD (i - 1) 0 < (mbr cl L n).getD i 0 := fun h => mbr_lt (by omega) (by rw [← AF.out.2.2.1]; exact hilt)
            obtain ⟨u, hu⟩ : ∃ u, u = (mbr cl L n).getD i 0 := ⟨_, rfl⟩
            rw [← hu] at hci m1 hcu hlt2
            clear hul m2 hu
            have hd4 : decide ((u : Int) < 0) = false := by simp
            have hd5 : decide ((n : Int) ≤ (u : Int)) = false := by simp; omega
            by_cases hi0 : 0 < i
            · have hi0z : (0 : Int) < (i : Int) := by omega
              have hcp := HGC.out (i - 1) (by omega)
              have hlt3 := hlt2 hi0
              obtain ⟨y, hy⟩ : ∃ y, y = (mbr cl L n).getD (i - 1) 0 := ⟨_, rfl⟩
              rw [← hy] at hcp hlt3
              clear hy hlt2
              have hd6 : decide ((u : Int) ≤ (y : Int)) = false := by simp; omega
              go_wp2_with fail
              go_quiet (fail)
              go_wp2
              go_roundw
              case rel => go_light; exact ⟨i + 1, _, by omega, by go_num, rfl⟩
              case measure => go_light; simp [intOf]; omega
            · have hd6 : decide ((0 : Int) < (i : Int)) = false := by simp; omega
              clear hlt2
              go_wp2_with fail
              go_quiet (fail)
              go_wp2
              go_roundw
              case rel => go_light; exact ⟨i + 1, _, by omega, by go_num, rfl⟩
              case measure => go_light; simp [intOf]; omega
          · have hiz : ¬ (i : Int) < (gm : Int) := by omega
            have hsL := hrowZ.cell q2
            have hcc : ∀ l, cnt ul l n = cnt cl l n := fun l => cnt_congr AQ.out l n (Nat.le_refl _)
            simp only [hcc L, ← AF.out.2.2.1] at hsL
            have ACC : Aside (∀ l, cnt ul l n = cnt cl l n) := hcc
            clear hcc
            go_wp2_with fail
            -- THE OTHER COMPONENTS
            go_loop [12] (fun x => ∃ k : Nat, k ≤ n ∧ x = .int .i64 k) (fun x => n - (intOf x).toNat)
            case atStart => exact ⟨0, Nat.zero_le _, rfl⟩
            case round =>
              obtain ⟨r, hr, rfl⟩ := hrel
              by_cases hrn : r < n
              · have hcr := hrow7.cell hrn
                have hsr := hrowZ.cell hrn
                simp only [ACC.out r] at hsr
                have hle1 : cnt cl r n ≤ gm := by rw [AF.out.2.2.1]; exact AF.out.2.1.le r hrn
                have hlt1 : r < L → cnt cl r n < gm := fun h => by rw [AF.out.2.2.1]; exact AF.out.2.1.lt r h
                obtain ⟨q, hq⟩ : ∃ q, q = cnt cl r n := ⟨_, rfl⟩
                obtain ⟨l, hl⟩ : ∃ l, l = ul r := ⟨_, rfl⟩
                simp only [← hq] at hsr hle1 hlt1
                simp only [← hl] at hcr
                clear hq hl
                by_cases hlr : l = r
                · have hd7 : ((l : Int) != (r : Int)) = false := by simp; omega
                  have hd8 : decide ((gm : Int) < (q : Int)) = false := by simp; omega
                  by_cases hqg : q = gm
                  · have hd9 : ((q : Int) == (gm : Int)) = true := by simp; omega
                    have hrL : L ≤ r := by
                      rcases Nat.lt_or_ge r L with h | h
                      · have := hlt1 h; omega
                      · exact h
                    have hnr : ¬ (r : Int) < (L : Int) := by omega
                    clear hqg hlr hlt1
                    go_wp2_with fail
                    go_round
                    case rel => go_light; exact ⟨r + 1, by omega, by go_num⟩
                    case measure => go_light; simp [intOf]; omega
                  · have hd9 : ((q : Int) == (gm : Int)) = false := by simp; omega
                    clear hqg hlr hlt1
                    go_wp2_with fail
                    go_round
                    case rel => go_light; exact ⟨r + 1, by omega, by go_num⟩
                    case measure => go_light; simp [intOf]; omega
                · have hd7 : ((l : Int) != (r : Int)) = true := by simp; omega
                  clear hlt1
                  go_wp2_with fail
                  go_round
                  case rel => go_light; exact ⟨r + 1, by omega, by go_num⟩
                  case measure => go_light; simp [intOf]; omega
              · go_wp2_with fail
                go_ret
                exact ⟨rfl, below_drewN hbelH d⟩

end Go.Proofs.Qxb6602969a
