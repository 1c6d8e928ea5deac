/-
  slices.SortFunc AT RowOrder's CALL, BY THE SHELF's CONTRACTS (no walk of the library's text here).
-/
import Derived.Test.Qxb6602969aBySort
import Derived.Shelf.SlSortCmp.NoneTotal
namespace Go.Proofs.Qxb6602969a
open Go.Shelf Go.RowKit Go.Lib Go.Sort

theorem sortNone : SortNone := fun g fb W => by
  have h := AnyF.slices_SortFunc_none (P := Try.prog) (ρ := Try.sortL_ren) { Try.sortL with } (some ⟨g, 0, none⟩) 0 (.func (.func 33) #[] #[.pointer (some ⟨fb, 0, none⟩)]) W
  change Calls Try.prog 32 _ _ _ at h
  exact h

theorem sortGives : SortGives := by
  intro n g fb b o m lc zs W hn hrow hfb hfg h2 hb hbg hm hm2 hnm hc h0 h1
  cases n with
  | zero =>
    refine (sortNone g fb W).mono fun e w' ⟨he, hw⟩ => ?_
    rw [hw]
    exact ⟨he, fun i => i, hrow, ⟨fun i hi => absurd hi (Nat.not_lt_zero _), fun i j hi => absurd hi (Nat.not_lt_zero _), fun i j _ hj => absurd hj (Nat.not_lt_zero _)⟩, ⟨rfl, rfl, rfl, Nat.le_refl _, fun _ _ _ => rfl⟩⟩
  | succ k =>
    have eg : ∀ args w, (callFunc 33 args).run Try.prog w = .ok (.enter 33 args) w := enters_of Try.func33 (by kernel_rfl) rfl
    have hcmp := (cmpLine k fb b o m lc g zs W hfb hfg h2 hb hbg hnm hc h0 h1).lays
    have hH : Holds (encId k) W g 0 (idsOf k) := fun j hj => by
      rw [idsOf_size] at hj
      rw [idsOf_get k j hj, Nat.zero_add]
      exact ⟨hrow.cell hj, hrow.frozen j⟩
    have h := Any.slices_SortFunc Try.sortL (encId k) (fun _ => rfl) (cfLine zs k) (swoLine zs k) 33 #[.pointer (some ⟨fb, 0, none⟩)] g 0 (k + 1) (idsOf k) W eg (by rw [idsOf_size]; exact hcmp) hH hrow.lt (by rw [idsOf_size]; omega)
    rw [idsOf_size] at h
    change Calls Try.prog 32 _ _ _ at h
    refine h.mono fun e w' ⟨he, d, q, os, hp, hs, hw⟩ => ?_
    have hd : d.size = k + 1 := by rw [hp.1, idsOf_size]
    obtain ⟨r1, r2⟩ := sort_row (m := q) (os := os) hrow hd
    rw [hw]
    exact ⟨he, fun i => (d[i]!).val, r1, ord_of zs k d hp hs, r2⟩

end Go.Proofs.Qxb6602969a
