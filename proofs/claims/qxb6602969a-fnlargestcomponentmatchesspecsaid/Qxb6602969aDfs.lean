/-
  THE PLAIN LAW of layout.Components: what holds while the nodes are marked, and that the labels are right at the end. No Go in sight.
-/
import Derived.Test.Qxb6602969aPlain
namespace Go.Proofs.Qxb6602969a

/-- How many of the first n are not marked. -/
def unseen (seen : Nat → Bool) : Nat → Nat
  | 0 => 0
  | n + 1 => unseen seen n + (if seen n then 0 else 1)

/-- f with the value x at u. -/
def upd {α : Type} (f : Nat → α) (u : Nat) (x : α) : Nat → α := fun j => if j = u then x else f j

theorem upd_same {α : Type} (f : Nat → α) (u : Nat) (x : α) : upd f u x u = x := by simp [upd]
theorem upd_other {α : Type} (f : Nat → α) {u j : Nat} (x : α) (h : j ≠ u) : upd f u x j = f j := by simp [upd, h]

theorem unseen_le (seen : Nat → Bool) (n : Nat) : unseen seen n ≤ n := by
  induction n with
  | zero => exact Nat.le_refl _
  | succ n ih => simp only [unseen]; split <;> omega

theorem unseen_far (seen : Nat → Bool) (u n : Nat) (h : n ≤ u) : unseen (upd seen u true) n = unseen seen n := by
  induction n with
  | zero => rfl
  | succ n ih => rw [unseen, unseen, ih (by omega), upd_other _ _ (by omega)]

theorem unseen_set (seen : Nat → Bool) (u n : Nat) (h : u < n) (hu : seen u = false) : unseen (upd seen u true) n + 1 = unseen seen n := by
  induction n with
  | zero => omega
  | succ n ih =>
    by_cases e : u = n
    · subst e
      rw [unseen, unseen, unseen_far _ _ _ (Nat.le_refl _), upd_same, hu]
      simp
    · have := ih (by omega)
      rw [unseen, unseen, upd_other _ _ (by omega)]
      omega

theorem Conn.refl (rows : List (List Int)) (a : Nat) : Conn rows a a := fun _ _ => rfl
theorem Conn.edge {rows : List (List Int)} {v : Nat} (hv : v < rows.length) {u : Int} (hu : u ∈ rows.getD v []) : Conn rows u.toNat v := fun _ hf => hf v hv u hu
theorem Conn.trans {rows : List (List Int)} {a b c : Nat} (h : Conn rows a b) (k : Conn rows b c) : Conn rows a c := fun f hf => (h f hf).trans (k f hf)

/-- At the head of the outer loop. -/
structure COut (rows : List (List Int)) (f : Nat) (seen : Nat → Bool) (comp : Nat → Nat) : Prop where
  low : ∀ v, v < f → seen v = true
  good : ∀ v, v < rows.length → seen v = true → comp v ≤ v ∧ Conn rows v (comp v) ∧ ∀ u ∈ rows.getD v [], seen u.toNat = true ∧ comp u.toNat = comp v

/-- While the nodes that are joined to f are marked. S: what was marked before; opn: what is marked and still to be looked at. -/
structure CIn (rows : List (List Int)) (f : Nat) (S seen : Nat → Bool) (comp : Nat → Nat) (opn : List Nat) : Prop where
  low : ∀ v, v < f → S v = true
  first : S f = false
  seenf : seen f = true
  sub : ∀ v, S v = true → seen v = true
  old : ∀ v, v < rows.length → S v = true → comp v ≤ v ∧ Conn rows v (comp v) ∧ ∀ u ∈ rows.getD v [], S u.toNat = true ∧ comp u.toNat = comp v
  new : ∀ v, v < rows.length → seen v = true → S v = false → Conn rows v f ∧ (v ∈ opn ∨ (comp v = f ∧ ∀ u ∈ rows.getD v [], seen u.toNat = true))
  isOpen : ∀ v ∈ opn, v < rows.length ∧ seen v = true ∧ S v = false

theorem COut.start (rows : List (List Int)) : COut rows 0 (fun _ => false) (fun _ => 0) :=
  ⟨fun v h => absurd h (Nat.not_lt_zero v), fun v _ h => by cases h⟩

theorem COut.skip {rows : List (List Int)} {f : Nat} {seen : Nat → Bool} {comp : Nat → Nat} (h : COut rows f seen comp) (hf : seen f = true) : COut rows (f + 1) seen comp :=
  ⟨fun v hv => by
    by_cases e : v = f
    · rw [e]; exact hf
    · exact h.low v (by omega), h.good⟩

theorem COut.enter {rows : List (List Int)} {f : Nat} {seen : Nat → Bool} {comp : Nat → Nat} (h : COut rows f seen comp) (hf : seen f = false) (hn : f < rows.length) : CIn rows f seen (upd seen f true) comp [f] := by
  refine ⟨h.low, hf, upd_same _ _ _, fun v hv => ?_, h.good, fun v hv hs hS => ?_, fun v hv => ?_⟩
  · by_cases e : v = f
    · rw [e, upd_same]
    · rw [upd_other _ _ e]; exact hv
  · by_cases e : v = f
    · rw [e]; exact ⟨Conn.refl _ _, .inl (by simp)⟩
    · rw [upd_other _ _ e] at hs
      rw [hs] at hS
      cases hS
  · have e : v = f := by simpa using hv
    subst e
    exact ⟨hn, upd_same _ _ _, hf⟩

theorem CIn.label {rows : List (List Int)} {f v : Nat} {S seen : Nat → Bool} {comp : Nat → Nat} {opn : List Nat} (h : CIn rows f S seen comp opn) (hv : v ∈ opn) : CIn rows f S seen (upd comp v f) opn := by
  obtain ⟨hvn, hvs, hvS⟩ := h.isOpen v hv
  have hne : ∀ x, S x = true → upd comp v f x = comp x := fun x hx => upd_other _ _ (fun e => by rw [e, hvS] at hx; cases hx)
  refine ⟨h.low, h.first, h.seenf, h.sub, fun x hx hS => ?_, fun x hx hs hS => ?_, h.isOpen⟩
  · obtain ⟨h1, h2, h3⟩ := h.old x hx hS
    rw [hne x hS]
    exact ⟨h1, h2, fun u hu => ⟨(h3 u hu).1, by rw [hne _ (h3 u hu).1]; exact (h3 u hu).2⟩⟩
  · obtain ⟨h1, h2⟩ := h.new x hx hs hS
    refine ⟨h1, h2.elim .inl (fun h3 => .inr ⟨?_, h3.2⟩)⟩
    by_cases e : x = v
    · rw [e, upd_same]
    · rw [upd_other _ _ e]; exact h3.1

/-- A neighbour u of the open node v that is not yet marked is marked and opened. -/
theorem CIn.push {rows : List (List Int)} {f v u : Nat} {S seen : Nat → Bool} {comp : Nat → Nat} {opn opn' : List Nat} (h : CIn rows f S seen comp opn) (hv : v ∈ opn) (hu : (u : Int) ∈ rows.getD v []) (hun : u < rows.length) (hus : seen u = false)
    (ho : ∀ x, x ∈ opn' ↔ x ∈ opn ∨ x = u) : CIn rows f S (upd seen u true) comp opn' := by
  obtain ⟨hvn, hvs, hvS⟩ := h.isOpen v hv
  have huS : S u = false := by
    cases e : S u with
    | false => rfl
    | true => have := h.sub u e; rw [hus] at this; cases this
  have hmono : ∀ x, seen x = true → upd seen u true x = true := fun x hx => by
    by_cases e : x = u
    · rw [e, upd_same]
    · rw [upd_other _ _ e]; exact hx
  refine ⟨h.low, h.first, hmono _ h.seenf, fun x hx => hmono x (h.sub x hx), h.old, fun x hx hs hS => ?_, fun x hx => ?_⟩
  · by_cases e : x = u
    · subst e
      refine ⟨?_, .inl ((ho x).2 (.inr rfl))⟩
      have := Conn.edge hvn hu
      exact (by simpa using this : Conn rows x v).trans (h.new v hvn hvs hvS).1
    · rw [upd_other _ _ e] at hs
      obtain ⟨h1, h2⟩ := h.new x hx hs hS
      exact ⟨h1, h2.elim (fun h3 => .inl ((ho x).2 (.inl h3))) (fun h3 => .inr ⟨h3.1, fun y hy => hmono _ (h3.2 y hy)⟩)⟩
  · rcases (ho x).1 hx with h1 | h1
    · obtain ⟨a, b, c⟩ := h.isOpen x h1
      exact ⟨a, hmono _ b, c⟩
    · subst h1
      exact ⟨hun, upd_same _ _ _, huS⟩

/-- A node whose label stands and whose neighbours are all marked is closed. -/
theorem CIn.close {rows : List (List Int)} {f v : Nat} {S seen : Nat → Bool} {comp : Nat → Nat} {opn opn' : List Nat} (h : CIn rows f S seen comp opn) (hv : comp v = f) (hu : ∀ u ∈ rows.getD v [], seen u.toNat = true)
    (ho : ∀ x, x ∈ opn ↔ x ∈ opn' ∨ x = v) : CIn rows f S seen comp opn' := by
  refine ⟨h.low, h.first, h.seenf, h.sub, h.old, fun x hx hs hS => ?_, fun x hx => h.isOpen x ((ho x).2 (.inl hx))⟩
  obtain ⟨h1, h2⟩ := h.new x hx hs hS
  refine ⟨h1, ?_⟩
  rcases h2 with h2 | h2
  · rcases (ho x).1 h2 with h3 | h3
    · exact .inl h3
    · subst h3; exact .inr ⟨hv, hu⟩
  · exact .inr h2

theorem CIn.reopen {rows : List (List Int)} {f : Nat} {S seen : Nat → Bool} {comp : Nat → Nat} {opn opn' : List Nat} (h : CIn rows f S seen comp opn) (ho : ∀ x, x ∈ opn ↔ x ∈ opn') : CIn rows f S seen comp opn' :=
  ⟨h.low, h.first, h.seenf, h.sub, h.old, fun x hx hs hS => ⟨(h.new x hx hs hS).1, (h.new x hx hs hS).2.elim (fun h3 => .inl ((ho x).1 h3)) .inr⟩, fun x hx => h.isOpen x ((ho x).2 hx)⟩

theorem CIn.leave {rows : List (List Int)} {f : Nat} {S seen : Nat → Bool} {comp : Nat → Nat} (h : CIn rows f S seen comp []) (wf : WF rows) : COut rows (f + 1) seen comp := by
  have new' : ∀ v, v < rows.length → seen v = true → S v = false → Conn rows v f ∧ comp v = f ∧ ∀ u ∈ rows.getD v [], seen u.toNat = true := fun v hv hs hS => by
    obtain ⟨h1, h2⟩ := h.new v hv hs hS
    rcases h2 with h2 | h2
    · cases h2
    · exact ⟨h1, h2⟩
  refine ⟨fun v hv => ?_, fun v hv hs => ?_⟩
  · by_cases e : v = f
    · rw [e]; exact h.seenf
    · exact h.sub v (h.low v (by omega))
  · cases hS : S v with
    | true =>
      obtain ⟨h1, h2, h3⟩ := h.old v hv hS
      exact ⟨h1, h2, fun u hu => ⟨h.sub _ (h3 u hu).1, (h3 u hu).2⟩⟩
    | false =>
      obtain ⟨h1, h2, h3⟩ := new' v hv hs hS
      have hfv : f ≤ v := by
        rcases Nat.lt_or_ge v f with hlt | hge
        · rw [h.low v hlt] at hS; cases hS
        · exact hge
      refine ⟨by omega, by rw [h2]; exact h1, fun u hu => ⟨h3 u hu, ?_⟩⟩
      have hr := wf.range v hv u hu
      have hun : u.toNat < rows.length := by omega
      have huS : S u.toNat = false := by
        cases e : S u.toNat with
        | false => rfl
        | true =>
          have := ((h.old _ hun e).2.2 _ (wf.back v hv u hu)).1
          rw [Int.toNat_natCast, hS] at this
          cases this
      rw [h2, (new' _ hun (h3 u hu) huS).2.1]

theorem COut.done {rows : List (List Int)} {seen : Nat → Bool} {comp : Nat → Nat} (h : COut rows rows.length seen comp) : Lab rows comp :=
  ⟨fun v hv => (h.good v hv (h.low v hv)).2.1, fun v hv u hu => ((h.good v hv (h.low v hv)).2.2 u hu).2, fun v hv => (h.good v hv (h.low v hv)).1⟩

end Go.Proofs.Qxb6602969a
