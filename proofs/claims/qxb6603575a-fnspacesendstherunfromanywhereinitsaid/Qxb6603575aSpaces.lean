/-
  WHERE A RUN OF SPACES ENDS, as a plain relation; and THE WALKS of (*yamlScanner).spaces and ZZspaces.
-/
import Derived.Test.Qxb6603575aRows
import Derived.WalkKit
import Derived.WalkSpells
import Derived.WalkLawsBesides
import Derived.Deep.LoopGhost
import Derived.Deep.QuietTactic
import Derived.BigQuiet
import Derived.Deep.Light
import Derived.WalkSmall
namespace Go.Proofs.Qxb6603575a
open Go.RowKit

/-- A space stands at place i. -/
def isSp (s : ByteArray) (i : Nat) : Prop := ∃ h : i < s.size, s[i].toNat = 32

/-- From k on the spaces end at e. -/
structure SpEnd (s : ByteArray) (k e : Nat) : Prop where
  le : k ≤ e
  all : ∀ i, k ≤ i → i < e → isSp s i
  stop : ¬ isSp s e

theorem SpEnd.unique {s : ByteArray} {k e e' : Nat} (h : SpEnd s k e) (h' : SpEnd s k e') : e = e' := by
  rcases Nat.lt_trichotomy e e' with h1 | h1 | h1
  · exact absurd (h'.all e h.le h1) h.stop
  · exact h1
  · exact absurd (h.all e' h'.le h1) h'.stop

theorem SpEnd.later {s : ByteArray} {k j e : Nat} (h : SpEnd s k e) (h1 : k ≤ j) (h2 : j ≤ e) : SpEnd s j e := ⟨h2, fun i hi hie => h.all i (by omega) hie, h.stop⟩

theorem SpEnd.here {s : ByteArray} {k : Nat} (h : ¬ isSp s k) : SpEnd s k k := ⟨Nat.le_refl _, fun i h1 h2 => by omega, h⟩

theorem SpEnd.step {s : ByteArray} {k e : Nat} (h : SpEnd s (k + 1) e) (hk : isSp s k) : SpEnd s k e :=
  ⟨by have := h.le; omega, fun i h1 h2 => by
    by_cases e1 : i = k
    · rw [e1]; exact hk
    · exact h.all i (by omega) h2, h.stop⟩

/-- What 'spaces' leaves: the place at which the run ends, in the second cell of the scanner. -/
def SpPost (s : ByteArray) (k b : Nat) (w : World) (e : Ending) (w' : World) : Prop :=
  ∃ q : Nat, e = .returned (.tuple #[]) ∧ SpEnd s k q ∧ w'.cell? ⟨b, 1, none⟩ = some (.int .i64 (q : Int)) ∧ Below b w w'

set_option maxHeartbeats 1000000 in
set_option maxRecDepth 100000 in
theorem spaces19 (s : ByteArray) (k b : Nat) (w : World) (hs : s.size ≤ 9223372036854775807) (h0 : w.cell? ⟨b, 0, none⟩ = some (.string s)) (h1 : w.cell? ⟨b, 1, none⟩ = some (.int .i64 (k : Int))) (f1 : w.frozen? ⟨b, 1, none⟩ = false) :
    Calls Try.prog 19 #[.pointer (some ⟨b, 0, none⟩)] w fun e w' => SpPost s k b w e w' := by
  go_enter Try.func19, Try.ntmps19
  go_wp2
  go_loopg [] (s.size - k) (fun gk wr => ∃ j : Nat, gk = s.size - j ∧ k ≤ j ∧ (∀ q, SpEnd s j q → SpEnd s k q) ∧ wr.cell? ⟨b, 0, none⟩ = some (.string s) ∧ wr.cell? ⟨b, 1, none⟩ = some (.int .i64 (j : Int)) ∧ wr.frozen? ⟨b, 1, none⟩ = false ∧ Below b w wr)
  case atStart => exact ⟨k, rfl, Nat.le_refl _, fun _ h => h, h0, h1, f1, Below.refl _ _⟩
  case round =>
    clear h0 h1 f1
    obtain ⟨j, rfl, hkj, hcl, h0, h1, f1, hbel⟩ := hrel
    have A1 : Aside (∀ q, SpEnd s j q → SpEnd s k q) := hcl
    clear hcl
    by_cases hlt : j < s.size
    · have hltz : (j : Int) < (s.size : Int) := by omega
      by_cases hsp : s[j].toNat = 32
      · have hb : ((s[j].toNat : Int) == 32) = true := by simp; omega
        have A2 : Aside (isSp s j) := ⟨hlt, hsp⟩
        clear hsp
        go_wp2_with fail
        go_quiet (fail)
        go_wp2
        go_roundg (s.size - (j + 1))
        case measure => go_light; omega
        case rel =>
          go_light
          refine ⟨j + 1, rfl, by omega, fun q hq => A1.out q (hq.step A2.out), ?_, ?_, ?_, (below_drewN hbel _).setCell (Nat.le_refl _) _⟩
          · rw [World.cell?_setCell_other _ _ _ _ (by simp)]; exact h0
          · exact World.cell?_setCell_same _ _ _ (u := .int .i64 (j : Int)) h1
          · simpa using f1
      · have hb : ((s[j].toNat : Int) == 32) = false := by simp; omega
        have A2 : Aside (¬ isSp s j) := fun h => by obtain ⟨_, h2⟩ := h; exact hsp h2
        clear hsp
        go_wp2_with fail
        go_quiet (fail)
        go_wp2
        go_end0
        exact ⟨j, rfl, A1.out j (SpEnd.here A2.out), h1, below_drewN hbel _⟩
    · have hd : decide ((j : Int) < (s.size : Int)) = false := by simp; omega
      have A2 : Aside (¬ isSp s j) := fun h => by obtain ⟨h1, _⟩ := h; exact hlt h1
      go_wp2_with fail
      go_quiet (fail)
      go_wp2
      go_end0
      exact ⟨j, rfl, A1.out j (SpEnd.here A2.out), h1, below_drewN hbel _⟩

/-- What ZZspaces leaves: the place at which the run ends. -/
def ZzPost (s : ByteArray) (k : Nat) (w : World) (e : Ending) (w' : World) : Prop :=
  ∃ q : Nat, e = .returned (.int .i64 (q : Int)) ∧ SpEnd s k q ∧ Below w.heap.size w w'

set_option maxHeartbeats 1000000 in
set_option maxRecDepth 100000 in
theorem zzspaces15 (s : ByteArray) (k : Nat) (w : World) (hs : s.size ≤ 9223372036854775807) :
    Calls Try.prog 15 #[.string s, .int .i64 (k : Int)] w fun e w' => ZzPost s k w e w' := by
  go_enter Try.func15, Try.ntmps15
  go_wp2_with fail
  refine (spaces19 s k _ _ hs ?_ ?_ ?_).mono ?_
  · simp
  · simp
  · simp
  · rintro e w1 ⟨q, rfl, hq, hc, hb⟩
    have hbel : Below w.heap.size w w1 := ((Below.refl _ _).alloc (Nat.le_refl _) _).trans hb
    have AQ : Aside (SpEnd s k q) := hq
    clear hq hb
    go_wp2_with fail
    go_ret
    exact ⟨q, rfl, AQ.out, hbel⟩

end Go.Proofs.Qxb6603575a
