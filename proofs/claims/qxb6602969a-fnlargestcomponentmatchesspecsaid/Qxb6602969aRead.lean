/-
  THE WALKS of the functions that only look at the lengths: zzBytes_.. (four copies) and zzGraphSmall.
-/
import Derived.Test.Qxb6602969aRows
import Derived.Test.Qxb6602969aMem
import Derived.WalkSpells
import Derived.WalkLawsBesides
namespace Go.Proofs.Qxb6602969a
open Go.RowKit

/-- What zzBytes_.. leaves: some bool; if it is true, no row is longer than 1048576. -/
def BytesPost (rows : List (List Int)) (w : World) (e : Ending) (w' : World) : Prop :=
  ∃ b : Bool, e = .returned (.bool b) ∧ w' = w ∧ (b = true → ∀ i, i < rows.length → (rows.getD i []).length ≤ 1048576)

/-- What zzGraphSmall leaves: some bool; if it is true, three words a row and one a number come to at most 131072. -/
def SmallPost (rows : List (List Int)) (w : World) (e : Ending) (w' : World) : Prop :=
  ∃ b : Bool, e = .returned (.bool b) ∧ w' = w ∧ (b = true → 3 * rows.length ≤ 131072 ∧ ∀ i, i < rows.length → (rows.getD i []).length ≤ 131072)

set_option maxHeartbeats 400000 in
theorem bytes9 (rows : List (List Int)) (v : Value) (w : World) (B : Nat) (hg : GraphAt w B v rows) :
    Calls Try.prog 9 #[v] w fun e w' => BytesPost rows w e w' := by
  obtain ⟨a, b, o, c, rfl, hl, ha, hc⟩ := hg
  obtain ⟨n, hn⟩ : ∃ n, n = rows.length := ⟨_, rfl⟩
  rw [← hn] at ha hl hc ⊢
  have HN : Hid (n = rows.length) := hn
  clear hn
  by_cases hbig : 1048576 < n
  · go_enter Try.func9, Try.ntmps9
    go_wp2
    go_ret
    exact ⟨false, rfl, rfl, fun h => by cases h⟩
  have hb0 : decide ((1048576 : Int) < (n : Int)) = false := by simp; omega
  go_enter Try.func9, Try.ntmps9
  go_wp2
  go_loop [3, 4] (fun s i => ∃ k m : Nat, k ≤ n ∧ m ≤ 1048576 ∧ i = .int .i64 k ∧ s = .int .i64 m ∧ ∀ i, i < k → (rows.getD i []).length ≤ 1048576) (fun _ i => n - (intOf i).toNat)
  case atStart => exact ⟨0, n, Nat.zero_le _, by omega, rfl, rfl, fun i hi => absurd hi (Nat.not_lt_zero _)⟩
  case round =>
    obtain ⟨k, m, hk, hm, rfl, rfl, hsm⟩ := hrel
    have HS : Hid (∀ i, i < k → (rows.getD i []).length ≤ 1048576) := hsm
    clear hsm
    by_cases hlt : k < n
    · obtain ⟨rfl, hbB⟩ := ha (by omega)
      obtain ⟨u, hu, a', b', o', c', rfl, hl', -, -⟩ := hc k hlt
      clear hc
      obtain ⟨L, hL⟩ : ∃ L, L = (rows.getD k []).length := ⟨_, rfl⟩
      rw [← hL] at hu hl'
      have HL : Hid (L = (rows.getD k []).length) := hL
      clear hL
      by_cases h1 : 1048576 < L
      · go_wp2
        go_ret
        exact ⟨false, rfl, rfl, fun h => by cases h⟩
      · by_cases h2 : 1048576 < m + L
        · go_wp2
          go_ret
          exact ⟨false, rfl, rfl, fun h => by cases h⟩
        · go_wp2
          go_round
          case rel =>
            refine ⟨k + 1, m + L, by omega, by omega, by go_num, by go_num, fun i hi => ?_⟩
            by_cases e : i = k
            · subst e; rw [← HL.out]; omega
            · exact HS.out i (by omega)
          case measure => simp [intOf]; omega
    · clear hc
      go_wp2
      go_ret
      exact ⟨true, rfl, rfl, fun _ i hi => HS.out i (by rw [← HN.out] at hi; omega)⟩

set_option maxHeartbeats 400000 in
theorem bytes16 (rows : List (List Int)) (v : Value) (w : World) (B : Nat) (hg : GraphAt w B v rows) :
    Calls Try.prog 16 #[v] w fun e w' => BytesPost rows w e w' := by
  obtain ⟨a, b, o, c, rfl, hl, ha, hc⟩ := hg
  obtain ⟨n, hn⟩ : ∃ n, n = rows.length := ⟨_, rfl⟩
  rw [← hn] at ha hl hc ⊢
  have HN : Hid (n = rows.length) := hn
  clear hn
  by_cases hbig : 1048576 < n
  · go_enter Try.func16, Try.ntmps16
    go_wp2
    go_ret
    exact ⟨false, rfl, rfl, fun h => by cases h⟩
  have hb0 : decide ((1048576 : Int) < (n : Int)) = false := by simp; omega
  go_enter Try.func16, Try.ntmps16
  go_wp2
  go_loop [3, 4] (fun s i => ∃ k m : Nat, k ≤ n ∧ m ≤ 1048576 ∧ i = .int .i64 k ∧ s = .int .i64 m ∧ ∀ i, i < k → (rows.getD i []).length ≤ 1048576) (fun _ i => n - (intOf i).toNat)
  case atStart => exact ⟨0, n, Nat.zero_le _, by omega, rfl, rfl, fun i hi => absurd hi (Nat.not_lt_zero _)⟩
  case round =>
    obtain ⟨k, m, hk, hm, rfl, rfl, hsm⟩ := hrel
    have HS : Hid (∀ i, i < k → (rows.getD i []).length ≤ 1048576) := hsm
    clear hsm
    by_cases hlt : k < n
    · obtain ⟨rfl, hbB⟩ := ha (by omega)
      obtain ⟨u, hu, a', b', o', c', rfl, hl', -, -⟩ := hc k hlt
      clear hc
      obtain ⟨L, hL⟩ : ∃ L, L = (rows.getD k []).length := ⟨_, rfl⟩
      rw [← hL] at hu hl'
      have HL : Hid (L = (rows.getD k []).length) := hL
      clear hL
      by_cases h1 : 1048576 < L
      · go_wp2
        go_ret
        exact ⟨false, rfl, rfl, fun h => by cases h⟩
      · by_cases h2 : 1048576 < m + L
        · go_wp2
          go_ret
          exact ⟨false, rfl, rfl, fun h => by cases h⟩
        · go_wp2
          go_round
          case rel =>
            refine ⟨k + 1, m + L, by omega, by omega, by go_num, by go_num, fun i hi => ?_⟩
            by_cases e : i = k
            · subst e; rw [← HL.out]; omega
            · exact HS.out i (by omega)
          case measure => simp [intOf]; omega
    · clear hc
      go_wp2
      go_ret
      exact ⟨true, rfl, rfl, fun _ i hi => HS.out i (by rw [← HN.out] at hi; omega)⟩

set_option maxHeartbeats 400000 in
theorem bytes17 (rows : List (List Int)) (v : Value) (w : World) (B : Nat) (hg : GraphAt w B v rows) :
    Calls Try.prog 17 #[v] w fun e w' => BytesPost rows w e w' := by
  obtain ⟨a, b, o, c, rfl, hl, ha, hc⟩ := hg
  obtain ⟨n, hn⟩ : ∃ n, n = rows.length := ⟨_, rfl⟩
  rw [← hn] at ha hl hc ⊢
  have HN : Hid (n = rows.length) := hn
  clear hn
  by_cases hbig : 1048576 < n
  · go_enter Try.func17, Try.ntmps17
    go_wp2
    go_ret
    exact ⟨false, rfl, rfl, fun h => by cases h⟩
  have hb0 : decide ((1048576 : Int) < (n : Int)) = false := by simp; omega
  go_enter Try.func17, Try.ntmps17
  go_wp2
  go_loop [3, 4] (fun s i => ∃ k m : Nat, k ≤ n ∧ m ≤ 1048576 ∧ i = .int .i64 k ∧ s = .int .i64 m ∧ ∀ i, i < k → (rows.getD i []).length ≤ 1048576) (fun _ i => n - (intOf i).toNat)
  case atStart => exact ⟨0, n, Nat.zero_le _, by omega, rfl, rfl, fun i hi => absurd hi (Nat.not_lt_zero _)⟩
  case round =>
    obtain ⟨k, m, hk, hm, rfl, rfl, hsm⟩ := hrel
    have HS : Hid (∀ i, i < k → (rows.getD i []).length ≤ 1048576) := hsm
    clear hsm
    by_cases hlt : k < n
    · obtain ⟨rfl, hbB⟩ := ha (by omega)
      obtain ⟨u, hu, a', b', o', c', rfl, hl', -, -⟩ := hc k hlt
      clear hc
      obtain ⟨L, hL⟩ : ∃ L, L = (rows.getD k []).length := ⟨_, rfl⟩
      rw [← hL] at hu hl'
      have HL : Hid (L = (rows.getD k []).length) := hL
      clear hL
      by_cases h1 : 1048576 < L
      · go_wp2
        go_ret
        exact ⟨false, rfl, rfl, fun h => by cases h⟩
      · by_cases h2 : 1048576 < m + L
        · go_wp2
          go_ret
          exact ⟨false, rfl, rfl, fun h => by cases h⟩
        · go_wp2
          go_round
          case rel =>
            refine ⟨k + 1, m + L, by omega, by omega, by go_num, by go_num, fun i hi => ?_⟩
            by_cases e : i = k
            · subst e; rw [← HL.out]; omega
            · exact HS.out i (by omega)
          case measure => simp [intOf]; omega
    · clear hc
      go_wp2
      go_ret
      exact ⟨true, rfl, rfl, fun _ i hi => HS.out i (by rw [← HN.out] at hi; omega)⟩

set_option maxHeartbeats 400000 in
theorem bytes18 (rows : List (List Int)) (v : Value) (w : World) (B : Nat) (hg : GraphAt w B v rows) :
    Calls Try.prog 18 #[v] w fun e w' => BytesPost rows w e w' := by
  obtain ⟨a, b, o, c, rfl, hl, ha, hc⟩ := hg
  obtain ⟨n, hn⟩ : ∃ n, n = rows.length := ⟨_, rfl⟩
  rw [← hn] at ha hl hc ⊢
  have HN : Hid (n = rows.length) := hn
  clear hn
  by_cases hbig : 1048576 < n
  · go_enter Try.func18, Try.ntmps18
    go_wp2
    go_ret
    exact ⟨false, rfl, rfl, fun h => by cases h⟩
  have hb0 : decide ((1048576 : Int) < (n : Int)) = false := by simp; omega
  go_enter Try.func18, Try.ntmps18
  go_wp2
  go_loop [3, 4] (fun s i => ∃ k m : Nat, k ≤ n ∧ m ≤ 1048576 ∧ i = .int .i64 k ∧ s = .int .i64 m ∧ ∀ i, i < k → (rows.getD i []).length ≤ 1048576) (fun _ i => n - (intOf i).toNat)
  case atStart => exact ⟨0, n, Nat.zero_le _, by omega, rfl, rfl, fun i hi => absurd hi (Nat.not_lt_zero _)⟩
  case round =>
    obtain ⟨k, m, hk, hm, rfl, rfl, hsm⟩ := hrel
    have HS : Hid (∀ i, i < k → (rows.getD i []).length ≤ 1048576) := hsm
    clear hsm
    by_cases hlt : k < n
    · obtain ⟨rfl, hbB⟩ := ha (by omega)
      obtain ⟨u, hu, a', b', o', c', rfl, hl', -, -⟩ := hc k hlt
      clear hc
      obtain ⟨L, hL⟩ : ∃ L, L = (rows.getD k []).length := ⟨_, rfl⟩
      rw [← hL] at hu hl'
      have HL : Hid (L = (rows.getD k []).length) := hL
      clear hL
      by_cases h1 : 1048576 < L
      · go_wp2
        go_ret
        exact ⟨false, rfl, rfl, fun h => by cases h⟩
      · by_cases h2 : 1048576 < m + L
        · go_wp2
          go_ret
          exact ⟨false, rfl, rfl, fun h => by cases h⟩
        · go_wp2
          go_round
          case rel =>
            refine ⟨k + 1, m + L, by omega, by omega, by go_num, by go_num, fun i hi => ?_⟩
            by_cases e : i = k
            · subst e; rw [← HL.out]; omega
            · exact HS.out i (by omega)
          case measure => simp [intOf]; omega
    · clear hc
      go_wp2
      go_ret
      exact ⟨true, rfl, rfl, fun _ i hi => HS.out i (by rw [← HN.out] at hi; omega)⟩

set_option maxHeartbeats 400000 in
theorem small10 (rows : List (List Int)) (v : Value) (w : World) (B : Nat) (hg : GraphAt w B v rows) (hrl : ∀ i, i < rows.length → (rows.getD i []).length ≤ 1048576) :
    Calls Try.prog 10 #[v] w fun e w' => SmallPost rows w e w' := by
  obtain ⟨a, b, o, c, rfl, hl, ha, hc⟩ := hg
  obtain ⟨n, hn⟩ : ∃ n, n = rows.length := ⟨_, rfl⟩
  rw [← hn] at ha hl hc hrl ⊢
  have HN : Hid (n = rows.length) := hn
  clear hn
  have HR : Hid (∀ i, i < n → (rows.getD i []).length ≤ 1048576) := hrl
  clear hrl
  by_cases hbig : 131072 < n
  · go_enter Try.func10, Try.ntmps10
    go_wp2
    go_ret
    exact ⟨false, rfl, rfl, fun h => by cases h⟩
  have hb0 : decide ((131072 : Int) < (n : Int)) = false := by simp; omega
  by_cases hbig2 : 131072 < 3 * n
  · go_enter Try.func10, Try.ntmps10
    go_wp2
    go_ret
    exact ⟨false, rfl, rfl, fun h => by cases h⟩
  have hb1 : decide ((131072 : Int) < 3 * (n : Int)) = false := by simp; omega
  go_enter Try.func10, Try.ntmps10
  go_wp2
  go_loop [3, 4] (fun s i => ∃ k m : Nat, k ≤ n ∧ m ≤ 131072 ∧ i = .int .i64 k ∧ s = .int .i64 m ∧ ∀ i, i < k → (rows.getD i []).length ≤ 131072) (fun _ i => n - (intOf i).toNat)
  case atStart => exact ⟨0, 3 * n, Nat.zero_le _, by omega, rfl, by go_num, fun i hi => absurd hi (Nat.not_lt_zero _)⟩
  case round =>
    obtain ⟨k, m, hk, hm, rfl, rfl, hsm⟩ := hrel
    have HS : Hid (∀ i, i < k → (rows.getD i []).length ≤ 131072) := hsm
    clear hsm
    by_cases hlt : k < n
    · obtain ⟨rfl, hbB⟩ := ha (by omega)
      obtain ⟨u, hu, a', b', o', c', rfl, -, -, -⟩ := hc k hlt
      clear hc
      have hl' := HR.out k hlt
      obtain ⟨L, hL⟩ : ∃ L, L = (rows.getD k []).length := ⟨_, rfl⟩
      rw [← hL] at hu hl'
      have HL : Hid (L = (rows.getD k []).length) := hL
      clear hL
      by_cases h2 : 131072 < m + L
      · go_wp2
        go_ret
        exact ⟨false, rfl, rfl, fun h => by cases h⟩
      · go_wp2
        go_round
        case rel =>
          refine ⟨k + 1, m + L, by omega, by omega, by go_num, by go_num, fun i hi => ?_⟩
          by_cases e : i = k
          · subst e; rw [← HL.out]; omega
          · exact HS.out i (by omega)
        case measure => simp [intOf]; omega
    · clear hc
      go_wp2
      go_ret
      exact ⟨true, rfl, rfl, fun _ => ⟨by rw [← HN.out]; omega, fun i hi => HS.out i (by rw [← HN.out] at hi; omega)⟩⟩

end Go.Proofs.Qxb6602969a
