/-
  THE WALK of FnComponentsStarGraphFixedPoint: it returns true, and nothing that was there has turned.
-/
import Derived.Test.Qxb6602969aClosed
import Derived.Test.Qxb6602969aStarMem
import Derived.Deep.Cut
namespace Go.Proofs.Qxb6602969a
open Go.RowKit

set_option maxHeartbeats 2000000 in
set_option maxRecDepth 100000 in
theorem star5 (rows : List (List Int)) (v : Value) (w : World) (hg : GraphAt w w.heap.size v rows) :
    Calls Try.prog 5 #[v] w fun e w' => TruePost w e w' := by
  obtain ⟨a, c, n0, hv⟩ : ∃ a c n, v = .slice a n c := by obtain ⟨a, b, o, c, n, e, -⟩ := hg.parts; exact ⟨a, c, n, e⟩
  subst hv
  go_enter Try.func5, Try.ntmps5
  go_wp2_with fail
  refine (bytes17 rows _ _ _ hg).mono ?_
  rintro e w1 ⟨b1, rfl, hw1, hb1⟩
  rw [hw1]
  clear hw1 w1
  cases b1 with
  | false =>
    go_wp2_with fail
    go_ret
    exact ⟨rfl, Below.refl _ _⟩
  | true =>
  have HB : Hid (∀ i, i < rows.length → (rows.getD i []).length ≤ 1048576) := hb1 rfl
  clear hb1
  go_wp2_with fail
  refine (small10 rows _ _ _ hg HB.out).mono ?_
  rintro e w1 ⟨b1, rfl, hw1, hb1⟩
  rw [hw1]
  clear hw1 w1
  cases b1 with
  | false =>
    go_wp2_with fail
    go_ret
    exact ⟨rfl, Below.refl _ _⟩
  | true =>
  have HS : Hid (3 * rows.length ≤ 131072 ∧ ∀ i, i < rows.length → (rows.getD i []).length ≤ 131072) := hb1 rfl
  clear hb1 HB
  go_wp2_with fail
  refine (well11 rows _ _ hg HS.out.1 HS.out.2).mono ?_
  rintro e w2 ⟨b1, rfl, hbel, hb1⟩
  cases b1 with
  | false =>
    go_wp2_with fail
    go_ret
    exact ⟨rfl, hbel⟩
  | true =>
  have wf : WF rows := hb1 rfl
  have hg2 : GraphAt w2 w2.heap.size (.slice a n0 c) rows := (hg.below hbel).mono hbel.size
  have hlt2 := hbel.size
  clear hb1 hg
  go_wp2_with fail
  refine (clone12 rows _ _ hg2 HS.out.1 HS.out.2).mono ?_
  rintro e w3 ⟨v3, rfl, hg3, hbel3⟩
  have hs3 := hbel3.size
  have hbel3' : Below w.heap.size w w3 := hbel.trans (hbel3.mono hlt2)
  obtain ⟨a3, b3, o3, c3, n, rfl, HN, hl3, ha3, HC3⟩ := hg3.parts
  clear hg2 hbel hbel3
  go_wp2_with fail
  refine (clone13 rows _ _ hg3 HS.out.1 HS.out.2).mono ?_
  rintro e w4 ⟨v4, rfl, hg4, hbel4⟩
  have hs4 := hbel4.size
  obtain ⟨a4, c4, n4, hv4⟩ : ∃ a c n, v4 = .slice a n c := by obtain ⟨a, b, o, c, n, e, -⟩ := hg4.parts; exact ⟨a, c, n, e⟩
  subst hv4
  have hn1 := HS.out.1
  rw [← HN.out] at hn1
  go_wp2_with fail
  refine (comp14 rows _ _ hg4 wf HS.out.1).mono ?_
  rintro e w5 ⟨g, n5, cl, rfl, hn5, hgl, hrow, hlab, hbel5⟩
  have hs5 := hbel5.size
  obtain rfl : n = n5 := by rw [hn5]; exact HN.out
  have hbelF : Below w.heap.size w w5 := hbel3'.trans ((hbel4.mono (by omega)).trans (hbel5.mono (by omega)))
  have hb35 : Below w3.heap.size w3 w5 := hbel4.trans (hbel5.mono (by omega))
  have AL : Aside (Lab rows cl ∧ WF rows) := ⟨hlab, wf⟩
  have hmk := run_make_row' (P := Try.prog) 25 27 (.slice none 0 0) 24 Try.underlying25 Try.infoC27 rfl .i64 .i64 n (by omega) (by omega)
  clear hbel4 hbel5 hbel3' hg3 hg4 hlab wf hn5 hb35
  go_wp2_with fail
  clear hmk
  go_loopw [7] (fun x wr => ∃ k : Nat, k ≤ n ∧ x = .int .i64 k ∧ ∃ F hs, HMem w5 wr n F hs ∧ Star cl n k hs) (fun x _ => n - (intOf x).toNat)
  case atStart => exact ⟨0, Nat.zero_le _, rfl, _, _, HMem.start w5 n, Star.start cl n⟩
  case round =>
    obtain ⟨k, hk, rfl, F, hs, hM, hS⟩ := hrel
    by_cases hlt : k < n
    · have hgl5 := hrow.lt
      have hck : wr.cell? ⟨g, k, none⟩ = some (.int .i64 (cl k : Int)) := by rw [hM.below.cell (p := ⟨g, k, none⟩) hgl5]; exact hrow.cell hlt
      have hle := AL.out.1.le k (by rw [← HN.out]; exact hlt)
      have hfix := AL.out.1.fix (v := k) (by rw [← HN.out]; exact hlt)
      obtain ⟨l, hl⟩ : ∃ l, cl k = l := ⟨_, rfl⟩
      rw [hl] at hck hle hfix
      have hln : l < n := by omega
      have Hl : Hid (cl k = l ∧ cl l = l) := ⟨hl, hfix⟩
      clear hl hfix
      have hd1 : decide ((l : Int) < 0) = false := by simp
      have hd2 : decide ((n : Int) ≤ (l : Int)) = false := by simp; omega
      by_cases hlk : l = k
      · have hd3 : ((l : Int) != (k : Int)) = false := by simp; omega
        have HK : Hid (l = k) := hlk
        clear hlk
        go_wp2_with fail
        go_roundw
        case rel => go_light; exact ⟨k + 1, by omega, by go_num, F, hs, hM, hS.skip (by rw [Hl.out.1, HK.out])⟩
        case measure => go_light; simp [intOf]; omega
      · have hd3 : ((l : Int) != (k : Int)) = true := by simp; omega
        obtain ⟨i0, hi0, hz0, hz1, hz2⟩ := info_parts Try.infoC31
        -- h[v] = append(h[v], l)
        obtain ⟨a1, c1, hsh⟩ := hM.shape hlt
        have hcF := hM.top.cell hlt
        have hown := (hM.rows k hlt).alloc (.cells #[.int .i64 (l : Int)] 31)
        have hlen := hS.len k
        obtain ⟨m, hm⟩ : ∃ m, m = (hs k).length := ⟨_, rfl⟩
        rw [hsh] at hcF hown
        rw [← hm] at hsh hcF hown hlen
        have hnews := news_one wr (.int .i64 (l : Int)) 31 _ rfl
        have h63 : m + 1 ≤ maxLen := by unfold maxLen; omega
        have h1c : ∀ u ∈ ([.int .i64 (l : Int)] : List Value), u.oneCell' = true := fun u hu => by simp at hu; subst hu; rfl
        have hbs : w5.heap.size + 1 ≤ (wr.alloc (.cells #[.int .i64 (l : Int)] 31)).heap.size := by have := hM.lt; simp; omega
        have Hm : Hid (m = (hs k).length ∧ F k = .slice a1 m c1) := ⟨hm, hsh⟩
        have hMlt := hM.lt
        clear hm hsh
        go_upto_region 22 with (at_builtin; refine wpList_append_lies _ rfl (.tmp 58) (.tmp 60) 27 rfl (w5.heap.size + 1) 31 i0 (.int .i64 0) 1 8 Try.underlying27 hi0 hz0 hz1 hz2 rfl (by decide) _ _ _ rfl hown ⟨wr.heap.size, 0, none⟩ 1 1 [.int .i64 (l : Int)] rfl rfl hnews h1c (by decide) h63 (by omega) hbs (wr.heap.size + 1) (by simp) ?_; intro g1 cap1 w6 ho1 hgr1 hat1 hlt1; have hM2 := hM.put (v := k) (x := l) (g1 := g1) (cap1 := cap1) (w1 := w6) (o := .cells #[.int .i64 (l : Int)] 31) hlt (by rw [Hm.out.2]; exact hgr1) (by rw [Hm.out.2]; exact hat1) (by rw [← Hm.out.1]; exact ho1); have hst := hM.spot (v := k) (w1 := w6) (o := .cells #[.int .i64 (l : Int)] 31) hlt (by rw [Hm.out.2]; exact hgr1); have hst1 : w6.cell? ⟨w5.heap.size, k, none⟩ = some (.slice a1 m c1) := (by rw [hst.1, Hm.out.2]); have hst2 : w6.frozen? ⟨w5.heap.size, k, none⟩ = false := hst.2; clear hst)
        clear hst1 hst2 hcF hown hnews h63 h1c hbs ho1 hgr1 hat1 hlt1 hlen hMlt
        rw [← Hm.out.1] at hM2
        obtain ⟨W2, hW2⟩ : ∃ W, W = w6.setCell ⟨w5.heap.size, k, none⟩ (.slice (some ⟨g1, 0, none⟩) (m + 1) cap1) := ⟨_, rfl⟩
        rw [← hW2] at hM2 ⊢
        clear hW2 Hm
        -- h[l] = append(h[l], v)
        have hneq : l ≠ k := hlk
        obtain ⟨F2, hF2⟩ : ∃ F2, F2 = upd F k (.slice (some ⟨g1, 0, none⟩) (m + 1) cap1) := ⟨_, rfl⟩
        obtain ⟨hs2, hhs2⟩ : ∃ hs2, hs2 = upd hs k (hs k ++ [l]) := ⟨_, rfl⟩
        rw [← hF2, ← hhs2] at hM2
        have hl2 : hs2 l = hs l := by rw [hhs2]; exact upd_other _ _ hlk
        have hlen := hS.len l
        obtain ⟨a2, c2, hsh⟩ := hM2.shape hln
        have hcF := hM2.top.cell hln
        have hown := (hM2.rows l hln).alloc (.cells #[.int .i64 (k : Int)] 31)
        obtain ⟨m2, hm⟩ : ∃ m2, m2 = (hs2 l).length := ⟨_, rfl⟩
        rw [hsh] at hcF hown
        rw [← hm] at hsh hcF hown
        rw [← hl2, ← hm] at hlen
        have hnews := news_one W2 (.int .i64 (k : Int)) 31 _ rfl
        have h63 : m2 + 1 ≤ maxLen := by unfold maxLen; omega
        have h1c : ∀ u ∈ ([.int .i64 (k : Int)] : List Value), u.oneCell' = true := fun u hu => by simp at hu; subst hu; rfl
        have hbs : w5.heap.size + 1 ≤ (W2.alloc (.cells #[.int .i64 (k : Int)] 31)).heap.size := by have := hM2.lt; simp; omega
        have Hm : Hid (m2 = (hs2 l).length ∧ F2 l = .slice a2 m2 c2) := ⟨hm, hsh⟩
        have HH : Hid (hs2 = upd hs k (hs k ++ [l]) ∧ hs2 l = hs l) := ⟨hhs2, hl2⟩
        have hMlt := hM2.lt
        clear hm hsh hF2 hhs2 hl2 hlk
        go_wp2_with (at_builtin; refine wpList_append_lies _ rfl (.tmp 68) (.tmp 70) 27 rfl (w5.heap.size + 1) 31 i0 (.int .i64 0) 1 8 Try.underlying27 hi0 hz0 hz1 hz2 rfl (by decide) _ _ _ rfl hown ⟨W2.heap.size, 0, none⟩ 1 1 [.int .i64 (k : Int)] rfl rfl hnews h1c (by decide) h63 (by omega) hbs (W2.heap.size + 1) (by simp) ?_; intro g2 cap2 w7 ho1 hgr1 hat1 hlt1; have hM3 := hM2.put (v := l) (x := k) (g1 := g2) (cap1 := cap2) (w1 := w7) (o := .cells #[.int .i64 (k : Int)] 31) hln (by rw [Hm.out.2]; exact hgr1) (by rw [Hm.out.2]; exact hat1) (by rw [← Hm.out.1]; exact ho1); have hst := hM2.spot (v := l) (w1 := w7) (o := .cells #[.int .i64 (k : Int)] 31) hln (by rw [Hm.out.2]; exact hgr1); have hst1 : w7.cell? ⟨w5.heap.size, l, none⟩ = some (.slice a2 m2 c2) := (by rw [hst.1, Hm.out.2]); have hst2 : w7.frozen? ⟨w5.heap.size, l, none⟩ = false := hst.2; clear hst)
        go_roundw
        case rel =>
          go_light
          rw [← Hm.out.1] at hM3
          refine ⟨k + 1, by omega, by go_num, _, _, hM3, ?_⟩
          rw [HH.out.2, HH.out.1]
          exact hS.step Hl.out.1 hneq Hl.out.2 hlt hln
        case measure => go_light; simp [intOf]; omega
    · have hkn : k = n := by omega
      rw [hkn] at hS
      have hkz : ¬ (k : Int) < (n : Int) := by omega
      have hgr := hM.graph (by omega) hS.len
      have AS : Aside (Star cl n n hs) := hS
      have hgl5 := hrow.lt
      have hMlt := hM.lt
      clear hkn hS
      go_wp2_with fail
      refine (comp14 (starRows n hs) _ _ hgr AS.out.wf (by rw [starRows_length]; exact hn1)).mono ?_
      rintro e w8 ⟨g8, n8, dl, rfl, hn8, hgl8, hrow8, hlab8, hbel8⟩
      have hs8 := hbel8.size
      obtain rfl : n = n8 := by rw [hn8, starRows_length]
      have hrowc : RowI w8 g 31 n (fun i => (cl i : Int)) := (hrow.below hM.below hgl5).below hbel8 (by omega)
      have AQ : Aside (∀ v, v < n → dl v = cl v) := fun v hv => AS.out.same HN.out AL.out.1 hlab8 hv
      have hbelG : Below w.heap.size w w8 := hbelF.trans ((hM.below.mono (by omega)).trans (hbel8.mono (by omega)))
      clear hn8 hlab8 hbel8 hgr AS hrow hM
      go_wp2_with fail
      go_loopw [10] (fun x wr => ∃ j d : Nat, j ≤ n ∧ x = .int .i64 j ∧ wr = w8.drewN d) (fun x _ => n - (intOf x).toNat)
      case atStart => exact ⟨0, 0, Nat.zero_le _, rfl, rfl⟩
      case round =>
        obtain ⟨j, d, hj, rfl, rfl⟩ := hrel
        by_cases hjn : j < n
        · have hjz : (j : Int) < (n : Int) := by omega
          have hc1 := hrowc.cell hjn
          have hc2 := hrow8.cell hjn
          simp only [AQ.out j hjn] at hc2
          obtain ⟨y, hy⟩ : ∃ y, y = cl j := ⟨_, rfl⟩
          rw [← hy] at hc1 hc2
          clear hy
          go_wp2_with fail
          go_quiet (fail)
          go_wp2
          go_roundw
          case rel => go_light; exact ⟨j + 1, _, by omega, by go_num, rfl⟩
          case measure => go_light; simp [intOf]; omega
        · go_wp2_with fail
          go_ret
          exact ⟨rfl, below_drewN hbelG d⟩

end Go.Proofs.Qxb6602969a
