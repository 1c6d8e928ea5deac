/-
  THE WALK of zzSortedHas: if it says true, the number is one of the slice's.
-/
import Derived.Test.Qxb6602969aRows
import Derived.Test.Qxb6602969aMem
import Derived.WalkSpells
import Derived.WalkLawsBesides
namespace Go.Proofs.Qxb6602969a
open Go.RowKit

def HasPost (ys : List Int) (x : Int) (w : World) (e : Ending) (w' : World) : Prop :=
  ∃ b : Bool, e = .returned (.bool b) ∧ w' = w ∧ (b = true → x ∈ ys)

set_option maxHeartbeats 400000 in
theorem has30 (ys : List Int) (x : Int) (v : Value) (w : World) (B : Nat) (hg : RowAt w B v ys) :
    Calls Try.prog 30 #[v, .int .i64 x] w fun e w' => HasPost ys x w e w' := by
  obtain ⟨a, b, o, c, rfl, hl, ha, hc⟩ := hg
  obtain ⟨n, hn⟩ : ∃ n, n = ys.length := ⟨_, rfl⟩
  rw [← hn] at ha hl hc ⊢
  have HN : Hid (n = ys.length) := hn
  clear hn
  obtain ⟨f, hf⟩ : ∃ f : Nat → Int, f = fun i => ys.getD i 0 := ⟨_, rfl⟩
  have hc' : ∀ j, j < n → w.cell? ⟨b, o + j, none⟩ = some (.int .i64 (f j)) := fun j hj => by rw [hf]; exact hc j hj
  have HF : Hid (∀ i, i < n → f i ∈ ys) := fun i hi => by
    rw [hf]
    exact getD_mem (by rw [← HN.out]; exact hi)
  clear hf hc
  go_enter Try.func30, Try.ntmps30
  go_wp2
  go_loop [5, 6] (fun s t => ∃ l h : Nat, l ≤ h ∧ h ≤ n ∧ s = .int .i64 l ∧ t = .int .i64 h) (fun s t => (intOf t).toNat - (intOf s).toNat)
  case atStart => exact ⟨0, n, Nat.zero_le _, Nat.le_refl _, rfl, rfl⟩
  case round =>
    obtain ⟨l, h, hlh, hh, rfl, rfl⟩ := hrel
    by_cases hlt : l < h
    · obtain ⟨rfl, hbB⟩ := ha (by omega)
      have hcell := hc' (l + (h - l) / 2) (by omega)
      obtain ⟨y, hy⟩ : ∃ y, y = f (l + (h - l) / 2) := ⟨_, rfl⟩
      rw [← hy] at hcell
      clear hy hc'
      by_cases hyx : y < x
      · go_wp2
        go_round
        case rel => exact ⟨l + (h - l) / 2 + 1, h, by omega, hh, by go_num, rfl⟩
        case measure => simp [intOf]; omega
      · go_wp2
        go_round
        case rel => exact ⟨l, l + (h - l) / 2, by omega, by omega, rfl, by go_num⟩
        case measure => simp [intOf]; omega
    · by_cases hln : l < n
      · obtain ⟨rfl, hbB⟩ := ha (by omega)
        have hcell := hc' l (by omega)
        have hfl := HF.out l hln
        have HM : Hid (f l ∈ ys) := hfl
        clear hfl
        obtain ⟨y, hy⟩ : ∃ y, y = f l := ⟨_, rfl⟩
        rw [← hy] at hcell HM
        clear hy hc'
        by_cases hyx : y = x
        · have hb : (y == x) = true := by simp [hyx]
          have HY : Hid (y = x) := hyx
          clear hyx
          go_wp2
          go_ret
          exact ⟨true, rfl, rfl, fun _ => HY.out ▸ HM.out⟩
        · have hb : (y == x) = false := by simp [hyx]
          go_wp2
          go_ret
          exact ⟨false, rfl, rfl, fun h => by cases h⟩
      · clear hc'
        have hd : decide ((l : Int) < (n : Int)) = false := by simp; omega
        go_wp2
        go_ret
        exact ⟨false, rfl, rfl, fun h => by cases h⟩

end Go.Proofs.Qxb6602969a
