/-
  THE WALKS of the two laws on spaces.
-/
import Derived.Test.Qxb6603575aSpaces
namespace Go.Proofs.Qxb6603575a
open Go.RowKit

def TruePost (w : World) (e : Ending) (w' : World) : Prop := e = .returned (.bool true) ∧ Below w.heap.size w w'

set_option maxHeartbeats 400000 in
theorem bytes14 (s : ByteArray) (x : Value) (w : World) (hs : s.size ≤ 9223372036854775807) :
    Calls Try.prog 14 #[.string s, x] w fun e w' => e = .returned (.bool (decide (s.size ≤ 1048576))) ∧ w' = w := by
  by_cases h : s.size ≤ 1048576
  · have hd : decide (s.size ≤ 1048576) = true := by simpa using h
    rw [hd]
    clear hd
    go_enter Try.func14, Try.ntmps14
    go_wp2
    go_ret
    exact ⟨rfl, rfl⟩
  · have hd : decide (s.size ≤ 1048576) = false := by simpa using h
    rw [hd]
    clear hd
    go_enter Try.func14, Try.ntmps14
    go_wp2
    go_ret
    exact ⟨rfl, rfl⟩

set_option maxHeartbeats 400000 in
theorem bytes16 (s : ByteArray) (x y : Value) (w : World) (hs : s.size ≤ 9223372036854775807) :
    Calls Try.prog 16 #[.string s, x, y] w fun e w' => e = .returned (.bool (decide (s.size ≤ 1048576))) ∧ w' = w := by
  by_cases h : s.size ≤ 1048576
  · have hd : decide (s.size ≤ 1048576) = true := by simpa using h
    rw [hd]
    clear hd
    go_enter Try.func16, Try.ntmps16
    go_wp2
    go_ret
    exact ⟨rfl, rfl⟩
  · have hd : decide (s.size ≤ 1048576) = false := by simpa using h
    rw [hd]
    clear hd
    go_enter Try.func16, Try.ntmps16
    go_wp2
    go_ret
    exact ⟨rfl, rfl⟩

set_option maxHeartbeats 2000000 in
set_option maxRecDepth 100000 in
theorem stops5 (s : ByteArray) (x : Int) (w : World) (hs : s.size ≤ 9223372036854775807) (hx1 : -9223372036854775808 ≤ x) (hx2 : x ≤ 9223372036854775807) :
    Calls Try.prog 5 #[.string s, .int .i64 x] w fun e w' => TruePost w e w' := by
  by_cases hsz : s.size ≤ 1048576
  · have hd0 : decide (s.size ≤ 1048576) = true := by simpa using hsz
    have hd1 : decide ((1048576 : Int) < (s.size : Int)) = false := by simp; omega
    by_cases hx0 : x < 0
    · go_enter Try.func5, Try.ntmps5
      go_wp2_with fail
      refine (bytes14 s _ _ hs).mono ?_
      rintro e w1 ⟨rfl, hw⟩
      rw [hw, hd0]
      go_wp2_with fail
      go_ret
      exact ⟨rfl, Below.refl _ _⟩
    · obtain ⟨k, rfl⟩ : ∃ k : Nat, x = k := ⟨x.toNat, by omega⟩
      have hd2 : decide ((k : Int) < 0) = false := by simp
      clear hx0
      go_enter Try.func5, Try.ntmps5
      go_wp2_with fail
      refine (bytes14 s _ _ hs).mono ?_
      rintro e w1 ⟨rfl, hw⟩
      rw [hw, hd0]
      clear hw w1
      go_wp2_with fail
      refine (zzspaces15 s k _ hs).mono ?_
      rintro e w2 ⟨q, rfl, hq, hb⟩
      have hkq := hq.le
      have AQ : Aside (SpEnd s k q) := hq
      clear hq
      by_cases hk : s.size ≤ k
      · -- beyond the text it stays
        have hqk : q = k := AQ.out.unique (SpEnd.here (fun h => by obtain ⟨h1, _⟩ := h; omega))
        have hbq : ((q : Int) == (k : Int)) = true := by simp; omega
        clear hqk
        go_wp2_with fail
        go_ret
        exact ⟨rfl, hb⟩
      · have hqs : q ≤ s.size := by
          rcases Nat.lt_or_ge s.size q with h | h
          · obtain ⟨h1, _⟩ := AQ.out.all s.size (by omega) h
            omega
          · exact h
        have hd3 : decide ((s.size : Int) ≤ (k : Int)) = false := by simp; omega
        have hd4 : decide ((q : Int) < (k : Int)) = false := by simp; omega
        have hd5 : decide ((s.size : Int) < (q : Int)) = false := by simp; omega
        go_wp2_with fail
        go_loop [6] (fun y => ∃ i : Nat, k ≤ i ∧ i ≤ q ∧ y = .int .i64 i) (fun y => q - (intOf y).toNat)
        case atStart => exact ⟨k, Nat.le_refl _, hkq, rfl⟩
        case round =>
          obtain ⟨i, hi1, hi2, rfl⟩ := hrel
          by_cases hiq : i < q
          · obtain ⟨hil, hsp⟩ := AQ.out.all i hi1 hiq
            have hb1 : ((s[i].toNat : Int) != 32) = false := by simp; omega
            clear hsp
            go_wp2_with fail
            go_round
            case rel => go_light; exact ⟨i + 1, by omega, by omega, by go_num⟩
            case measure => go_light; simp [intOf]; omega
          · by_cases hqe : q = s.size
            · have hb2 : ((q : Int) == (s.size : Int)) = true := by simp; omega
              clear hqe
              go_wp2_with fail
              go_ret
              exact ⟨rfl, hb⟩
            · have hb2 : ((q : Int) == (s.size : Int)) = false := by simp; omega
              have hql : q < s.size := by omega
              have hb3 : ((s[q].toNat : Int) != 32) = true := by
                simp
                intro h
                exact AQ.out.stop ⟨hql, by omega⟩
              go_wp2_with fail
              go_ret
              exact ⟨rfl, hb⟩
  · have hd0 : decide (s.size ≤ 1048576) = false := by simpa using hsz
    go_enter Try.func5, Try.ntmps5
    go_wp2_with fail
    refine (bytes14 s _ _ hs).mono ?_
    rintro e w1 ⟨rfl, hw⟩
    rw [hw, hd0]
    go_wp2_with fail
    go_ret
    exact ⟨rfl, Below.refl _ _⟩

set_option maxHeartbeats 2000000 in
set_option maxRecDepth 100000 in
theorem ends6 (s : ByteArray) (x y : Int) (w : World) (hs : s.size ≤ 9223372036854775807) (hx1 : -9223372036854775808 ≤ x) (hx2 : x ≤ 9223372036854775807) (hy1 : -9223372036854775808 ≤ y) (hy2 : y ≤ 9223372036854775807) :
    Calls Try.prog 6 #[.string s, .int .i64 x, .int .i64 y] w fun e w' => TruePost w e w' := by
  by_cases hsz : s.size ≤ 1048576
  · have hd0 : decide (s.size ≤ 1048576) = true := by simpa using hsz
    have hd1 : decide ((1048576 : Int) < (s.size : Int)) = false := by simp; omega
    by_cases hx0 : x < 0
    · go_enter Try.func6, Try.ntmps6
      go_wp2_with fail
      refine (bytes16 s _ _ _ hs).mono ?_
      rintro e w1 ⟨rfl, hw⟩
      rw [hw, hd0]
      go_wp2_with fail
      go_ret
      exact ⟨rfl, Below.refl _ _⟩
    · obtain ⟨k, rfl⟩ : ∃ k : Nat, x = k := ⟨x.toNat, by omega⟩
      have hd2 : decide ((k : Int) < 0) = false := by simp
      clear hx0
      by_cases hy0 : y < 0
      · go_enter Try.func6, Try.ntmps6
        go_wp2_with fail
        refine (bytes16 s _ _ _ hs).mono ?_
        rintro e w1 ⟨rfl, hw⟩
        rw [hw, hd0]
        go_wp2_with fail
        go_ret
        exact ⟨rfl, Below.refl _ _⟩
      · obtain ⟨j, rfl⟩ : ∃ j : Nat, y = j := ⟨y.toNat, by omega⟩
        have hd3 : decide ((j : Int) < 0) = false := by simp
        clear hy0
        go_enter Try.func6, Try.ntmps6
        go_wp2_with fail
        refine (bytes16 s _ _ _ hs).mono ?_
        rintro e w1 ⟨rfl, hw⟩
        rw [hw, hd0]
        clear hw w1
        go_wp2_with fail
        refine (zzspaces15 s k _ hs).mono ?_
        rintro e w2 ⟨q, rfl, hq, hb⟩
        have hkq := hq.le
        have AQ : Aside (SpEnd s k q) := hq
        have hs2 := hb.size
        clear hq
        by_cases hk : k < s.size
        · have hkz : (k : Int) < (s.size : Int) := by omega
          by_cases hsp : s[k].toNat = 32
          · have hb1 : ((s[k].toNat : Int) == 32) = true := by simp; omega
            have hkq2 : k < q := by
              rcases Nat.lt_or_ge k q with h | h
              · exact h
              · have e1 : q = k := by omega
                exact absurd ⟨hk, hsp⟩ (e1 ▸ AQ.out.stop)
            have hd4 : decide ((q : Int) ≤ (k : Int)) = false := by simp; omega
            clear hsp
            go_wp2_with fail
            refine (zzspaces15 s q _ hs).mono ?_
            rintro e w3 ⟨q', rfl, hq', hb3⟩
            obtain rfl : q' = q := hq'.unique (AQ.out.later hkq (Nat.le_refl _))
            have hs3 := hb3.size
            have hb23 : Below w.heap.size w w3 := hb.trans (hb3.mono hs2)
            clear hq' hb3
            by_cases h1 : k ≤ j
            · have h1z : (k : Int) ≤ (j : Int) := by omega
              by_cases h2 : j ≤ q'
              · have h2z : (j : Int) ≤ (q' : Int) := by omega
                go_wp2_with fail
                refine (zzspaces15 s j _ hs).mono ?_
                rintro e w4 ⟨q2, rfl, hq2, hb4⟩
                obtain rfl : q2 = q' := hq2.unique (AQ.out.later h1 h2)
                have hb24 : Below w.heap.size w w4 := hb23.trans (hb4.mono (by omega))
                clear hq2 hb4
                go_wp2_with fail
                go_ret
                exact ⟨rfl, hb24⟩
              · have h2d : decide ((j : Int) ≤ (q' : Int)) = false := by simp; omega
                go_wp2_with fail
                go_ret
                exact ⟨rfl, hb23⟩
            · have h1d : decide ((k : Int) ≤ (j : Int)) = false := by simp; omega
              go_wp2_with fail
              go_ret
              exact ⟨rfl, hb23⟩
          · have hb1 : ((s[k].toNat : Int) == 32) = false := by simp; omega
            clear hsp
            go_wp2_with fail
            refine (zzspaces15 s q _ hs).mono ?_
            rintro e w3 ⟨q', rfl, hq', hb3⟩
            obtain rfl : q' = q := hq'.unique (AQ.out.later hkq (Nat.le_refl _))
            have hs3 := hb3.size
            have hb23 : Below w.heap.size w w3 := hb.trans (hb3.mono hs2)
            clear hq' hb3
            by_cases h1 : k ≤ j
            · have h1z : (k : Int) ≤ (j : Int) := by omega
              by_cases h2 : j ≤ q'
              · have h2z : (j : Int) ≤ (q' : Int) := by omega
                go_wp2_with fail
                refine (zzspaces15 s j _ hs).mono ?_
                rintro e w4 ⟨q2, rfl, hq2, hb4⟩
                obtain rfl : q2 = q' := hq2.unique (AQ.out.later h1 h2)
                have hb24 : Below w.heap.size w w4 := hb23.trans (hb4.mono (by omega))
                clear hq2 hb4
                go_wp2_with fail
                go_ret
                exact ⟨rfl, hb24⟩
              · have h2d : decide ((j : Int) ≤ (q' : Int)) = false := by simp; omega
                go_wp2_with fail
                go_ret
                exact ⟨rfl, hb23⟩
            · have h1d : decide ((k : Int) ≤ (j : Int)) = false := by simp; omega
              go_wp2_with fail
              go_ret
              exact ⟨rfl, hb23⟩
        · have hkd : decide ((k : Int) < (s.size : Int)) = false := by simp; omega
          go_wp2_with fail
          refine (zzspaces15 s q _ hs).mono ?_
          rintro e w3 ⟨q', rfl, hq', hb3⟩
          obtain rfl : q' = q := hq'.unique (AQ.out.later hkq (Nat.le_refl _))
          have hs3 := hb3.size
          have hb23 : Below w.heap.size w w3 := hb.trans (hb3.mono hs2)
          clear hq' hb3
          by_cases h1 : k ≤ j
          · have h1z : (k : Int) ≤ (j : Int) := by omega
            by_cases h2 : j ≤ q'
            · have h2z : (j : Int) ≤ (q' : Int) := by omega
              go_wp2_with fail
              refine (zzspaces15 s j _ hs).mono ?_
              rintro e w4 ⟨q2, rfl, hq2, hb4⟩
              obtain rfl : q2 = q' := hq2.unique (AQ.out.later h1 h2)
              have hb24 : Below w.heap.size w w4 := hb23.trans (hb4.mono (by omega))
              clear hq2 hb4
              go_wp2_with fail
              go_ret
              exact ⟨rfl, hb24⟩
            · have h2d : decide ((j : Int) ≤ (q' : Int)) = false := by simp; omega
              go_wp2_with fail
              go_ret
              exact ⟨rfl, hb23⟩
          · have h1d : decide ((k : Int) ≤ (j : Int)) = false := by simp; omega
            go_wp2_with fail
            go_ret
            exact ⟨rfl, hb23⟩
  · have hd0 : decide (s.size ≤ 1048576) = false := by simpa using hsz
    go_enter Try.func6, Try.ntmps6
    go_wp2_with fail
    refine (bytes16 s _ _ _ hs).mono ?_
    rintro e w1 ⟨rfl, hw⟩
    rw [hw, hd0]
    go_wp2_with fail
    go_ret
    exact ⟨rfl, Below.refl _ _⟩

end Go.Proofs.Qxb6603575a
