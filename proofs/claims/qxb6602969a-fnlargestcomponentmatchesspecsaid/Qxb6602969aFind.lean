/-
  THE WALKS of zzFind (the root; the path halved) and zzUnionFindLabels (the labels of 'Lab', in new memory).
-/
import Derived.Test.Qxb6602969aRows
import Derived.Test.Qxb6602969aMem
import Derived.Test.Qxb6602969aUnion
import Derived.WalkSpells
import Derived.WalkLawsBesides
import Derived.Deep.Light
namespace Go.Proofs.Qxb6602969a
open Go.RowKit

theorem Try.infoU3 : (Try.prog.info? 3).map (fun i => (i.zero, i.size, i.bytes)) = some (some (.int .i64 0), 1, 8) := by kernel_rfl

def FindPost (w : World) (g n : Nat) (r : Nat → Nat) (x : Nat) (e : Ending) (w' : World) : Prop :=
  ∃ p' : Nat → Nat, e = .returned (.int .i64 (r x : Int)) ∧ RowI w' g 3 n (fun i => (p' i : Int)) ∧ UF n p' r ∧ w.grownBy w' (some g)

theorem grownBy_refl (w : World) (r : Option Nat) : w.grownBy w r := ⟨rfl, rfl, rfl, Nat.le_refl _, fun _ _ _ => rfl⟩

theorem grownBy_set {w w' : World} {g : Nat} (h : w.grownBy w' (some g)) (k : Nat) (x : Value) : w.grownBy (w'.setCell ⟨g, k, none⟩ x) (some g) :=
  ⟨h.os, h.tape, h.output, by rw [size_setCell]; exact h.size, fun j hj hne => by rw [Below.heap_setCell _ _ _ _ (fun e => hne (by rw [e]))]; exact h.block j hj hne⟩

theorem grownBy_trans {a b c : World} {r : Option Nat} (h : a.grownBy b r) (k : b.grownBy c r) : a.grownBy c r :=
  ⟨k.os.trans h.os, k.tape.trans h.tape, k.output.trans h.output, Nat.le_trans h.size k.size, fun j hj hne => (k.block j (Nat.lt_of_lt_of_le hj h.size) hne).trans (h.block j hj hne)⟩

set_option maxHeartbeats 1000000 in
set_option maxRecDepth 100000 in
theorem find31 (g n c x : Nat) (p r : Nat → Nat) (w : World) (hp : RowI w g 3 n (fun i => (p i : Int))) (hu : UF n p r) (hx : x < n) :
    Calls Try.prog 31 #[.slice (some ⟨g, 0, none⟩) n c, .int .i64 (x : Int)] w fun e w' => FindPost w g n r x e w' := by
  go_enter Try.func31, Try.ntmps31
  go_wp2
  go_loopw [1] (fun y wr => ∃ (z : Nat) (q : Nat → Nat), z < n ∧ y = .int .i64 z ∧ RowI wr g 3 n (fun i => (q i : Int)) ∧ UF n q r ∧ r z = r x ∧ w.grownBy wr (some g)) (fun y _ => (intOf y).toNat)
  case atStart => exact ⟨x, p, hx, rfl, hp, hu, rfl, grownBy_refl _ _⟩
  case round =>
    obtain ⟨z, q, hz, rfl, hq, huq, hrz, hgr⟩ := hrel
    have A1 : Aside (UF n q r ∧ r z = r x ∧ w.grownBy wr (some g)) := ⟨huq, hrz, hgr⟩
    have hle := huq.le z hz
    have hle2 := huq.le (q z) (by omega)
    have hc1 := hq.cell hz
    have hf1 := hq.frozen z
    have hc2 := hq.cell (show q z < n by omega)
    clear huq hrz hgr
    obtain ⟨z1, hz1⟩ : ∃ z1, z1 = q z := ⟨_, rfl⟩
    rw [← hz1] at hle hle2 hc1 hc2
    obtain ⟨z2, hz2⟩ : ∃ z2, z2 = q z1 := ⟨_, rfl⟩
    rw [← hz2] at hle2 hc2
    have HZ : Hid (z1 = q z ∧ z2 = q z1) := ⟨hz1, hz2⟩
    clear hz1 hz2
    have hz1n : z1 < n := by omega
    by_cases e : z1 = z
    · have hb : ((z1 : Int) != (z : Int)) = false := by simp; omega
      have HE : Hid (z1 = z) := e
      clear e hc2
      go_wp2
      go_ret
      obtain ⟨q1, q2, q3⟩ := A1.out
      refine ⟨q, ?_, hq, q1, q3⟩
      have := q1.fix z hz (by rw [← HZ.out.1, HE.out])
      rw [← q2, this]
      rfl
    · have hb : ((z1 : Int) != (z : Int)) = true := by simp; omega
      go_wp2
      go_roundw
      case rel =>
        go_light
        obtain ⟨q1, q2, q3⟩ := A1.out
        refine ⟨z2, upd q z z2, by omega, rfl, (hq.set z _).congr (fun i _ => ?_), ?_, ?_, grownBy_set q3 _ _⟩
        · by_cases e2 : i = z <;> simp [upd, e2]
        · have := q1.halve hz
          rw [← HZ.out.1, ← HZ.out.2] at this
          exact this
        · rw [HZ.out.2, q1.step _ hz1n, HZ.out.1, q1.step _ hz, q2]
      case measure => go_light; simp [intOf]; omega

def LabPost (rows : List (List Int)) (w : World) (e : Ending) (w' : World) : Prop :=
  ∃ (g n : Nat) (c : Nat → Nat), e = .returned (.slice (some ⟨g, 0, none⟩) n n) ∧ n = rows.length ∧ w.heap.size ≤ g ∧ RowI w' g 3 n (fun i => (c i : Int)) ∧ Lab rows c ∧ Below w.heap.size w w'

/-- The parents' row. -/
structure UMem (w wr : World) (n : Nat) (p : Nat → Nat) : Prop where
  below : Below w.heap.size w wr
  lt : w.heap.size < wr.heap.size
  row : RowI wr w.heap.size 3 n (fun i => (p i : Int))

theorem UMem.start (w : World) (n : Nat) : UMem w (w.alloc (.cells (madeCells #[.int .i64 0] n) 3)) n (fun _ => 0) :=
  ⟨(Below.refl _ _).alloc (Nat.le_refl _) _, by simp, (RowI.made w n 3).congr (fun _ _ => rfl)⟩

theorem UMem.set {w wr : World} {n : Nat} {p : Nat → Nat} (h : UMem w wr n p) (k x : Nat) : UMem w (wr.setCell ⟨w.heap.size, k, none⟩ (.int .i64 (x : Int))) n (upd p k x) :=
  ⟨h.below.setCell (Nat.le_refl _) _, by rw [size_setCell]; exact h.lt, (h.row.set k _).congr (fun i _ => by by_cases e : i = k <;> simp [upd, e])⟩

theorem UMem.found {w wr w1 : World} {n : Nat} {p q : Nat → Nat} (h : UMem w wr n p) (hg : wr.grownBy w1 (some w.heap.size)) (hq : RowI w1 w.heap.size 3 n (fun i => (q i : Int))) : UMem w w1 n q :=
  ⟨h.below.grown hg (by have := h.lt; omega) (fun k e => by cases e; exact Nat.le_refl _), Nat.lt_of_lt_of_le h.lt hg.size, hq⟩

/-- The labels' row behind the parents'. -/
structure LMem (w wr : World) (n g : Nat) (p f : Nat → Nat) : Prop where
  mem : UMem w wr n p
  gt : w.heap.size < g
  lab : RowI wr g 3 n (fun i => (f i : Int))

theorem LMem.start {w wr : World} {n : Nat} {p : Nat → Nat} (h : UMem w wr n p) : LMem w (wr.alloc (.cells (madeCells #[.int .i64 0] n) 3)) n wr.heap.size p (fun _ => 0) :=
  ⟨⟨h.below.alloc (by have := h.lt; omega) _, by have := h.lt; simp; omega, h.row.alloc _⟩, h.lt, (RowI.made wr n 3).congr (fun _ _ => rfl)⟩

theorem LMem.found {w wr w1 : World} {n g : Nat} {p q f : Nat → Nat} (h : LMem w wr n g p f) (hg : wr.grownBy w1 (some w.heap.size)) (hq : RowI w1 w.heap.size 3 n (fun i => (q i : Int))) : LMem w w1 n g q f :=
  ⟨h.mem.found hg hq, h.gt, h.lab.of_block (hg.block g h.lab.lt (fun e => by have := h.gt; cases e; omega))⟩

theorem LMem.put {w wr : World} {n g : Nat} {p f : Nat → Nat} (h : LMem w wr n g p f) (k x : Nat) : LMem w (wr.setCell ⟨g, k, none⟩ (.int .i64 (x : Int))) n g p (upd f k x) :=
  ⟨⟨h.mem.below.setCell (by show w.heap.size ≤ g; have := h.gt; omega) _, by rw [size_setCell]; exact h.mem.lt, h.mem.row.other (by show w.heap.size ≠ g; have := h.gt; omega) _⟩, h.gt,
    (h.lab.set k _).congr (fun i _ => by by_cases e : i = k <;> simp [upd, e])⟩

set_option maxHeartbeats 2000000 in
set_option maxRecDepth 100000 in
theorem labels15 (rows : List (List Int)) (v : Value) (w : World) (hg : GraphAt w w.heap.size v rows) (wf : WF rows) (hn1 : 3 * rows.length ≤ 131072) :
    Calls Try.prog 15 #[v] w fun e w' => LabPost rows w e w' := by
  obtain ⟨a, b, o, c, n, rfl, HN, hl, ha, HC⟩ := hg.parts
  rw [← HN.out] at hn1
  clear hg
  have hmk := run_make_row' (P := Try.prog) 29 3 (.int .i64 0) 8 Try.underlying29 Try.infoU3 rfl .i64 .i64 n (by omega) (by omega)
  go_enter Try.func15, Try.ntmps15
  go_wp2
  go_loopw [5] (fun x wr => ∃ (k : Nat) (p : Nat → Nat), k ≤ n ∧ x = .int .i64 k ∧ UMem w wr n p ∧ ∀ i, i < k → p i = i) (fun x _ => n - (intOf x).toNat)
  case atStart => exact ⟨0, _, Nat.zero_le _, rfl, UMem.start w n, fun i hi => absurd hi (Nat.not_lt_zero _)⟩
  case round =>
    obtain ⟨k, p, hk, rfl, hM, hpk⟩ := hrel
    have HP : Hid (∀ i, i < k → p i = i) := hpk
    clear hpk
    by_cases hlt : k < n
    · have hst1 := hM.row.cell hlt
      have hst2 := hM.row.frozen k
      go_wp2
      go_roundw
      case rel =>
        go_light
        refine ⟨k + 1, _, by omega, by go_num, hM.set k k, fun i hi => ?_⟩
        by_cases e : i = k
        · rw [e, upd_same]
        · rw [upd_other _ _ e]; exact HP.out i (by omega)
      case measure => go_light; simp [intOf]; omega
    · have hkn : ¬ (k : Int) < (n : Int) := by omega
      have hU : UF n p (fun i => i) := (UF.start n).congr (fun i hi => (HP.out i (by omega)).symm)
      go_wp2
      -- THE LINKS
      go_loopw [6] (fun x wr => ∃ (k : Nat) (p r : Nat → Nat), k ≤ n ∧ x = .int .i64 k ∧ UMem w wr n p ∧ UF n p r ∧ UEdge rows r k 0) (fun x _ => n - (intOf x).toNat)
      case atStart => exact ⟨0, p, fun i => i, Nat.zero_le _, rfl, hM, hU, UEdge.start rows⟩
      case round =>
        clear hM hU HP
        obtain ⟨k2, p2, r2, hk2, rfl, hM, hU, hE⟩ := hrel
        by_cases hlt2 : k2 < n
        · obtain ⟨rfl, hbB⟩ := ha (by omega)
          obtain ⟨u, hu0, hrow0⟩ := HC.out k2 hlt2
          have hu : wr.cell? ⟨b, o + k2, none⟩ = some u := by rw [hM.below.cell (p := ⟨b, o + k2, none⟩) hbB]; exact hu0
          obtain ⟨a', b', o', c', L, fr, rfl, HL, hL, ha', hc', HF, HMm⟩ := hrow0.parts
          clear hu0 hrow0
          go_wp2
          go_loopw [8] (fun x wr => ∃ (j : Nat) (p r : Nat → Nat), j ≤ L ∧ x = .int .i64 j ∧ UMem w wr n p ∧ UF n p r ∧ UEdge rows r k2 j) (fun x _ => L - (intOf x).toNat)
          case atStart => exact ⟨0, p2, r2, Nat.zero_le _, rfl, hM, hU, hE⟩
          case round =>
            clear hM hU hE hu
            obtain ⟨j, p3, r3, hj, rfl, hM, hU, hE⟩ := hrel
            by_cases hjL : j < L
            · obtain ⟨rfl, hbB'⟩ := ha' (by omega)
              have hmem := HMm.out j hjL
              have hrange := wf.range k2 (by rw [← HN.out]; exact hlt2) _ hmem
              obtain ⟨y, hy⟩ : ∃ y : Nat, fr j = y := ⟨(fr j).toNat, by omega⟩
              have hcj := hc' j hjL
              rw [hy] at hcj hmem hrange
              rw [← HN.out] at hrange
              have hyn : y < n := by omega
              have A1 : Aside ((y : Int) ∈ rows.getD k2 [] ∧ (rows.getD k2 []).getD j 0 = y) := ⟨hmem, by rw [← HF.out j hjL]; exact hy⟩
              have AE : Aside (UEdge rows r3 k2 j) := hE
              have hlt3 := hM.lt
              clear hc' hy hmem hrange hE
              go_wp2_with fail
              refine (find31 _ _ _ _ p3 r3 _ hM.row hU hlt2).mono ?_
              rintro e w1 ⟨p4, rfl, hp4, hU4, hg4⟩
              have hM4 := hM.found hg4 hp4
              have hs4 := hg4.size
              have hcj4 : w1.cell? ⟨b', o' + j, none⟩ = some (.int .i64 (y : Int)) := by rw [hM4.below.cell (p := ⟨b', o' + j, none⟩) hbB']; exact hcj
              clear hM hU hp4 hg4 hcj
              go_wp2_with fail
              refine (find31 _ _ _ _ p4 r3 _ hM4.row hU4 hyn).mono ?_
              rintro e w2 ⟨p5, rfl, hp5, hU5, hg5⟩
              have hM5 := hM4.found hg5 hp5
              have hs5 := hg5.size
              clear hM4 hU4 hp5 hg5 hcj4
              have hra := hU5.rle k2 hlt2
              have hrb := hU5.rle y hyn
              obtain ⟨ra, hra2⟩ : ∃ ra, ra = r3 k2 := ⟨_, rfl⟩
              obtain ⟨rb, hrb2⟩ : ∃ rb, rb = r3 y := ⟨_, rfl⟩
              rw [← hra2] at hra ⊢
              rw [← hrb2] at hrb ⊢
              have AR : Aside (ra = r3 k2 ∧ rb = r3 y) := ⟨hra2, hrb2⟩
              clear hra2 hrb2
              have hran : ra < n := by omega
              have hrbn : rb < n := by omega
              have ha1 := hM5.row.cell hran
              have ha2 := hM5.row.frozen ra
              have hb1 := hM5.row.cell hrbn
              have hb2 := hM5.row.frozen rb
              by_cases hab : ra < rb
              · go_wp2_with fail
                go_roundw
                case rel =>
                  go_light
                  have hk2l : k2 < rows.length := by rw [← HN.out]; exact hlt2
                  have hyl : y < rows.length := by rw [← HN.out]; exact hyn
                  have c1 : Conn rows ra k2 := by rw [AR.out.1]; exact (AE.out.conn k2 hk2l).symm
                  have c2 : Conn rows y k2 := by have := Conn.edge hk2l A1.out.1; simpa using this
                  have c3 : Conn rows rb y := by rw [AR.out.2]; exact (AE.out.conn y hyl).symm
                  have e1 : r3 ((rows.getD k2 []).getD j 0).toNat = rb := by rw [A1.out.2, Int.toNat_natCast]; exact AR.out.2.symm
                  have e2 : r3 ra = ra := by rw [AR.out.1]; exact hU5.idem k2 hlt2
                  have e3 : r3 rb = rb := by rw [AR.out.2]; exact hU5.idem y hyn
                  exact ⟨j + 1, _, _, by omega, by go_num, hM5.set rb ra, hU5.join hab e2 e3, AE.out.join ((c3.trans c2).trans c1.symm) (.inl ⟨AR.out.1.symm, e1⟩)⟩
                case measure => go_light; simp [intOf]; omega
              · by_cases hba : rb < ra
                · go_wp2_with fail
                  go_roundw
                  case rel =>
                    go_light
                    have hk2l : k2 < rows.length := by rw [← HN.out]; exact hlt2
                    have hyl : y < rows.length := by rw [← HN.out]; exact hyn
                    have c1 : Conn rows ra k2 := by rw [AR.out.1]; exact (AE.out.conn k2 hk2l).symm
                    have c2 : Conn rows y k2 := by have := Conn.edge hk2l A1.out.1; simpa using this
                    have c3 : Conn rows rb y := by rw [AR.out.2]; exact (AE.out.conn y hyl).symm
                    have e1 : r3 ((rows.getD k2 []).getD j 0).toNat = rb := by rw [A1.out.2, Int.toNat_natCast]; exact AR.out.2.symm
                    have e2 : r3 ra = ra := by rw [AR.out.1]; exact hU5.idem k2 hlt2
                    have e3 : r3 rb = rb := by rw [AR.out.2]; exact hU5.idem y hyn
                    exact ⟨j + 1, _, _, by omega, by go_num, hM5.set ra rb, hU5.join hba e3 e2, AE.out.join ((c1.trans c2.symm).trans c3.symm) (.inr ⟨AR.out.1.symm, e1⟩)⟩
                  case measure => go_light; simp [intOf]; omega
                · go_wp2_with fail
                  go_roundw
                  case rel =>
                    go_light
                    refine ⟨j + 1, p5, r3, by omega, by go_num, hM5, hU5, AE.out.same ?_⟩
                    rw [A1.out.2, Int.toNat_natCast, ← AR.out.2, ← AR.out.1]
                    omega
                  case measure => go_light; simp [intOf]; omega
            · clear hc'
              go_wp2
              go_roundw
              case rel => go_light; exact ⟨k2 + 1, p3, r3, by omega, by go_num, hM, hU, hE.next (by rw [← HL.out]; omega)⟩
              case measure => go_light; simp [intOf]; omega
        · have hkn2 : ¬ (k2 : Int) < (n : Int) := by omega
          have hk2n : k2 = n := by omega
          have AL : Aside (Lab rows r2) := by
            rw [hk2n] at hE
            rw [HN.out] at hE hU
            exact hE.lab hU
          have hG : LMem w (wr.alloc (.cells (madeCells #[.int .i64 0] n) 3)) n wr.heap.size p2 (fun _ => 0) := LMem.start hM
          obtain ⟨g, hgw⟩ : ∃ g, g = wr.heap.size := ⟨_, rfl⟩
          rw [← hgw] at hG
          have hwg : wr.heap.size = g := hgw.symm
          clear hgw hk2n hE
          go_wp2
          clear hmk hM
          go_loopw [12] (fun x wr => ∃ (k : Nat) (p f : Nat → Nat), k ≤ n ∧ x = .int .i64 k ∧ LMem w wr n g p f ∧ UF n p r2 ∧ ∀ i, i < k → f i = r2 i) (fun x _ => n - (intOf x).toNat)
          case atStart => exact ⟨0, p2, _, Nat.zero_le _, rfl, hG, hU, fun i hi => absurd hi (Nat.not_lt_zero _)⟩
          case round =>
            clear hG hU
            obtain ⟨k4, p4, f4, hk4, rfl, hG, hU, hfk⟩ := hrel
            have HF : Hid (∀ i, i < k4 → f4 i = r2 i) := hfk
            clear hfk
            by_cases hlt4 : k4 < n
            · go_wp2_with fail
              refine (find31 _ _ _ _ p4 r2 _ hG.mem.row hU hlt4).mono ?_
              rintro e w1 ⟨p5, rfl, hp5, hU5, hg5⟩
              have hG5 := hG.found hg5 hp5
              have hst1 := hG5.lab.cell hlt4
              have hst2 := hG5.lab.frozen k4
              clear hG hp5 hg5
              go_wp2_with fail
              go_roundw
              case rel =>
                go_light
                refine ⟨k4 + 1, p5, _, by omega, by go_num, hG5.put k4 (r2 k4), hU5, fun i hi => ?_⟩
                by_cases e : i = k4
                · rw [e, upd_same]
                · rw [upd_other _ _ e]; exact HF.out i (by omega)
              case measure => go_light; simp [intOf]; omega
            · go_wp2
              go_ret
              exact ⟨g, n, r2, rfl, HN.out, by have := hG.gt; omega, hG.lab.congr (fun i hi => by rw [HF.out i (by omega)]), AL.out, hG.mem.below⟩

end Go.Proofs.Qxb6602969a
