/-
  FROM THE ROW's OWN READING TO 'GraphAt': a [][]int that can be read as data lies in the world as 'GraphAt' says.
-/
import Derived.Test.Qxb6602969aRows
import Derived.Test.Qxb6602969aMem
import Derived.ProofKit
import Derived.OpenShut
import Derived.ShutString
import Derived.ChangeOld
import Derived.Below
import Derived.Deep.Matrix
namespace Go.Proofs.Qxb6602969a
open Go.ChangeShapes Go.WideShapes Go.ChangeAt Go.RowKit Go.Deep

theorem own : ownKnob Try.prog.godebug = none := by kernel_rfl
theorem laidOut : laidOutB Try.prog = true := by kernel_rfl
theorem cells29 : Try.prog.cellsOf 29 = 1 := by kernel_rfl
theorem cells3 : Try.prog.cellsOf 3 = 1 := by kernel_rfl

theorem rowAt_of {W : World} {A : Option Addr} {L C : Nat} {Z : List Int} (hL : L ≤ C) (hC : C ≤ maxLen) (hZ : Z.length = C) (hc : ∀ a', A = some a' → ∀ c, c < C → W.cell? (a'.add c) = some (.int .i64 (Z.getD c 0))) (hA : A = none → C = 0) :
    RowAt W W.heap.size (.slice A L C) (Z.take L) := by
  have hlen : (Z.take L).length = L := by simp; omega
  unfold maxLen at hC
  by_cases h0 : 0 < L
  · cases A with
    | none => have := hA rfl; omega
    | some a =>
      obtain ⟨b, o, spot⟩ := a
      have hc0 := hc _ rfl 0 (by omega)
      have hspot : spot = none := by simpa [Addr.add] using World.cell?_spot hc0
      subst hspot
      refine ⟨_, b, o, C, by rw [hlen], by omega, fun _ => ⟨rfl, World.block_lt_of_cell? _ _ (hc _ rfl 0 (by omega))⟩, fun j hj => ?_⟩
      rw [hlen] at hj
      rw [← add_plain, hc _ rfl j (by omega)]
      simp [List.getD, hj]
  · exact ⟨A, 0, 0, C, by rw [hlen], by omega, fun h => by omega, fun j hj => by omega⟩

theorem graphAt_of {H : Type} {enc : TypeId × Value → H} {W : World} {fuel : Nat} {a0 : Option Addr} {len cap : Nat} {x : DataW H × List MemPlace}
    (hf : DataW.trod enc Try.prog W 0 (fun _ => true) true fuel 22 [.slice a0 len cap] = some x) : ∃ rows, GraphAt W W.heap.size (.slice a0 len cap) rows := by
  rcases open_int_rows Try.underlying22 Try.underlying29 Try.underlying3 cells29 cells3 hf with ⟨hcs, -⟩ | ⟨a, len', cap', A, L, C, Z, hcs, -, hl, hm, -, hrows⟩
  · simp at hcs
    obtain ⟨rfl, rfl, rfl⟩ := hcs
    exact ⟨[], none, 0, 0, 0, rfl, by simp, fun h => by simp at h, fun i hi => by simp at hi⟩
  · simp at hcs
    obtain ⟨rfl, rfl, rfl⟩ := hcs
    unfold maxLen at hm
    have hrow : ∀ i, i < len → RowAt W W.heap.size (.slice (A i) (L i) (C i)) ((Z i).take (L i)) := fun i hi => by
      obtain ⟨_, h1, h2, h3, _, h5, h6⟩ := hrows i (by omega)
      exact rowAt_of h1 h2 h3 (fun a' e => (h6 a' e).2) h5
    refine ⟨(List.range len).map fun i => (Z i).take (L i), ?_⟩
    have hlen : ((List.range len).map fun i => (Z i).take (L i)).length = len := by simp
    have hget : ∀ i, i < len → ((List.range len).map fun i => (Z i).take (L i)).getD i [] = (Z i).take (L i) := fun i hi => by simp [List.getD, hi]
    by_cases h0 : 0 < len
    · obtain ⟨b, o, spot⟩ := a
      have hc0 := (hrows 0 (by omega)).1
      have hspot : spot = none := by simpa [Addr.add] using World.cell?_spot hc0
      subst hspot
      refine ⟨_, b, o, cap, by rw [hlen], by omega, fun _ => ⟨rfl, World.block_lt_of_cell? _ _ hc0⟩, fun i hi => ?_⟩
      rw [hlen] at hi
      exact ⟨_, by rw [← add_plain]; exact (hrows i (by omega)).1, by rw [hget i hi]; exact hrow i hi⟩
    · exact ⟨some a, 0, 0, cap, by rw [hlen], by omega, fun h => by omega, fun i hi => by omega⟩

end Go.Proofs.Qxb6602969a
