/-
  THE WALK of layout.LargestComponent: the members of the first label that no other outnumbers, in ascending order, in new memory (nil where there are none).
-/
import Derived.Test.Qxb6602969aComp
import Derived.Test.Qxb6602969aCount
import Derived.Deep.QuietTactic
import Derived.BigQuiet
namespace Go.Proofs.Qxb6602969a
open Go.RowKit

def LargePost (rows : List (List Int)) (w : World) (e : Ending) (w' : World) : Prop :=
  ∃ (v : Value) (c : Nat → Nat) (L n : Nat), e = .returned v ∧ n = rows.length ∧ Lab rows c ∧ BigTo (fun l => cnt c l n) n L ∧ RowAt w' w'.heap.size v ((mbr c L n).map fun (u : Nat) => (u : Int)) ∧
    (mbr c L n = [] → v = .slice none 0 0) ∧ Below w.heap.size w w'

/-- The row of sizes, in the block behind what was there. -/
structure ZMem (w wr : World) (n : Nat) (f : Nat → Nat) : Prop where
  below : Below w.heap.size w wr
  size : wr.heap.size = w.heap.size + 1
  row : RowI wr w.heap.size 3 n (fun i => (f i : Int))

theorem ZMem.start (w : World) (n : Nat) : ZMem w (w.alloc (.cells (madeCells #[.int .i64 0] n) 3)) n (fun _ => 0) :=
  ⟨(Below.refl _ _).alloc (Nat.le_refl _) _, by simp, (RowI.made w n 3).congr (fun _ _ => rfl)⟩

theorem ZMem.add {w wr : World} {n k : Nat} {c : Nat → Nat} (h : ZMem w wr n (fun l => cnt c l k)) : ZMem w (wr.setCell ⟨w.heap.size, c k, none⟩ (.int .i64 ((cnt c (c k) k : Nat) + 1 : Int))) n (fun l => cnt c l (k + 1)) :=
  ⟨h.below.setCell (Nat.le_refl _) _, by rw [size_setCell]; exact h.size, (h.row.set (c k) _).congr (fun i _ => by
    by_cases e : i = c k
    · subst e; simp [cnt]
    · simp [cnt, e, Ne.symm e])⟩

theorem owns_shape {w : World} {base e n : Nat} {v : Value} {xs : List Value} (h : w.ownsRow base e 1 v n xs) : ∃ a c, v = .slice a n c := by
  rcases h.2 with ⟨e, h0⟩ | ⟨g, cap, cur, e, -⟩
  · exact ⟨none, 0, by rw [e, h0]⟩
  · exact ⟨_, _, e⟩

theorem owns_rowAt {w : World} {base e n : Nat} {v : Value} {ms : List Nat} (hn : n ≤ 131072) (h : w.ownsRow base e 1 v n (ms.map fun (u : Nat) => Value.int .i64 (u : Int))) : RowAt w w.heap.size v (ms.map fun (u : Nat) => (u : Int)) := by
  have hl := h.1
  simp at hl
  rcases h.2 with ⟨e, h0⟩ | ⟨g, cap, cur, e, -, hg, -⟩
  · exact ⟨none, 0, 0, 0, by rw [e]; simp [hl, h0], by simp; omega, fun h1 => by simp [hl, h0] at h1, fun j hj => by simp [hl, h0] at hj⟩
  · refine ⟨_, g, 0, cap, by rw [e]; simp [hl], by simp; omega, fun _ => ⟨rfl, (Array.getElem?_eq_some_iff.1 hg).1⟩, fun j hj => ?_⟩
    have hj' : j < ms.length := by simpa using hj
    rw [e] at h
    rw [Nat.zero_add, h.cellAt j (by omega)]
    simp [List.getD, hj']

set_option maxHeartbeats 2000000 in
set_option maxRecDepth 100000 in
theorem large19 (rows : List (List Int)) (v : Value) (w : World) (hg : GraphAt w w.heap.size v rows) (wf : WF rows) (hn1 : 3 * rows.length ≤ 131072) :
    Calls Try.prog 19 #[v] w fun e w' => LargePost rows w e w' := by
  obtain ⟨a, b, o, c0, n, rfl, HN, hl, -, -⟩ := hg.parts
  have hn2 := hn1
  rw [← HN.out] at hn2
  have HN1 : Hid (3 * rows.length ≤ 131072) := hn1
  have hmk := run_make_row' (P := Try.prog) 29 3 (.int .i64 0) 8 Try.underlying29 Try.infoK3 rfl .i64 .i64 n (by omega) (by omega)
  clear hn1
  go_enter Try.func19, Try.ntmps19
  go_wp2_with fail
  refine (comp14 rows _ _ hg wf HN1.out).mono ?_
  rintro e w1 ⟨g, n5, c, rfl, hn5, hgl, hrow, hlab, hbel1⟩
  have hs1 := hbel1.size
  obtain rfl : n = n5 := by rw [hn5]; exact HN.out
  have AL : Aside (Lab rows c) := hlab
  have hgl1 := hrow.lt
  clear hn5 hlab hg
  go_wp2_with fail
  clear hmk
  -- THE SIZES
  go_loopw [19] (fun x wr => ∃ k : Nat, k ≤ n ∧ x = .int .i64 k ∧ ZMem w1 wr n (fun l => cnt c l k)) (fun x _ => n - (intOf x).toNat)
  case atStart => exact ⟨0, Nat.zero_le _, rfl, ZMem.start w1 n⟩
  case round =>
    obtain ⟨k, hk, rfl, hM⟩ := hrel
    by_cases hlt : k < n
    · have hck : wr.cell? ⟨g, k, none⟩ = some (.int .i64 (c k : Int)) := by rw [hM.below.cell (p := ⟨g, k, none⟩) hgl1]; exact hrow.cell hlt
      have hle := AL.out.le k (by rw [← HN.out]; exact hlt)
      have hcn : c k < n := by omega
      have hsz := hM.row.cell hcn
      have hfz := hM.row.frozen (c k)
      have hcl := cnt_le c (c k) k
      have hM2 := hM.add
      obtain ⟨l, hl⟩ : ∃ l, l = c k := ⟨_, rfl⟩
      rw [← hl] at hck hle hcn hsz hfz hcl hM2
      obtain ⟨q, hq⟩ : ∃ q, q = cnt c l k := ⟨_, rfl⟩
      simp only [← hq] at hsz hcl hM2
      clear hl hq hM
      go_wp2_with fail
      go_roundw
      case rel => go_light; exact ⟨k + 1, by omega, by go_num, hM2⟩
      case measure => go_light; simp [intOf]; omega
    · have hkn : ¬ (k : Int) < (n : Int) := by omega
      have hkk : k = n := by omega
      rw [hkk] at hM
      clear hkk
      obtain ⟨w2, hw2⟩ : ∃ w2, w2 = wr := ⟨_, rfl⟩
      rw [← hw2] at hM ⊢
      clear hw2
      go_wp2_with fail
      -- THE LARGEST
      go_loopw [7, 32] (fun y x wr => ∃ k L d : Nat, k ≤ n ∧ y = .int .i64 L ∧ x = .int .i64 k ∧ wr = w2.drewN d ∧ BigTo (fun l => cnt c l n) k L) (fun _ x _ => n - (intOf x).toNat)
      case atStart => exact ⟨0, 0, 0, Nat.zero_le _, rfl, rfl, rfl, BigTo.start _⟩
      case round =>
        obtain ⟨k2, L, d, hk2, rfl, rfl, rfl, hB⟩ := hrel
        by_cases hlt2 : k2 < n
        · have hLn : L < n := by rcases hB.in_ with h | h <;> omega
          have hkz : (k2 : Int) < (n : Int) := by omega
          have hLz : (L : Int) < (n : Int) := by omega
          have h1 := hM.row.cell hlt2
          have h2 := hM.row.cell hLn
          obtain ⟨q1, hq1⟩ : ∃ q, q = cnt c k2 n := ⟨_, rfl⟩
          obtain ⟨q2, hq2⟩ : ∃ q, q = cnt c L n := ⟨_, rfl⟩
          simp only [← hq1] at h1
          simp only [← hq2] at h2
          have AB : Aside (BigTo (fun l => cnt c l n) k2 L ∧ q1 = cnt c k2 n ∧ q2 = cnt c L n) := ⟨hB, hq1, hq2⟩
          clear hB hq1 hq2
          by_cases hqq : q2 < q1
          · have hqz : (q2 : Int) < (q1 : Int) := by omega
            go_wp2_with fail
            go_quiet (fail)
            go_wp2
            go_roundw
            case rel => go_light; exact ⟨k2 + 1, k2, _, by omega, by go_num, by go_num, rfl, AB.out.1.up (by show cnt c L n < cnt c k2 n; rw [← AB.out.2.1, ← AB.out.2.2]; exact hqq)⟩
            case measure => go_light; simp [intOf]; omega
          · have hqz : decide ((q2 : Int) < (q1 : Int)) = false := by simp; omega
            go_wp2_with fail
            go_quiet (fail)
            go_wp2
            go_roundw
            case rel => go_light; exact ⟨k2 + 1, L, _, by omega, rfl, by go_num, rfl, AB.out.1.stay (by show ¬ cnt c L n < cnt c k2 n; rw [← AB.out.2.1, ← AB.out.2.2]; exact hqq)⟩
            case measure => go_light; simp [intOf]; omega
        · have hkn2 : ¬ (k2 : Int) < (n : Int) := by omega
          have hkk : k2 = n := by omega
          rw [hkk] at hB
          have AB : Aside (BigTo (fun l => cnt c l n) n L) := hB
          have hrow2 : RowI w2 g 31 n (fun i => (c i : Int)) := hrow.below hM.below hgl1
          have hbelG : Below w.heap.size w w2 := hbel1.trans (hM.below.mono hs1)
          have hs2 := hbelG.size
          have hgl2 := hrow2.lt
          obtain ⟨i0, hi0, hz0, hz1, hz2⟩ := info_parts Try.infoK31
          clear hkk hB hM hrow hbel1
          go_wp2_with fail
          -- THE MEMBERS
          go_loopw [9, 48] (fun s x wr => ∃ (k : Nat) (ao : Option Addr) (cp : Nat), k ≤ n ∧ x = .int .i64 k ∧ s = .slice ao (mbr c L k).length cp ∧ wr.ownsRow w2.heap.size 31 1 (.slice ao (mbr c L k).length cp) (mbr c L k).length ((mbr c L k).map fun (u : Nat) => Value.int .i64 (u : Int)) ∧
            (mbr c L k = [] → (.slice ao (mbr c L k).length cp : Value) = .slice none 0 0) ∧ Below w2.heap.size w2 wr) (fun _ x _ => n - (intOf x).toNat)
          case atStart => exact ⟨0, none, 0, Nat.zero_le _, rfl, rfl, World.ownsRow_nil _ _ _ _, fun _ => rfl, below_drewN (Below.refl _ _) _⟩
          case round =>
            obtain ⟨k3, ao, cp, hk3, rfl, rfl, hown, hnil, hbel⟩ := hrel
            by_cases hlt3 : k3 < n
            · have hck : wr.cell? ⟨g, k3, none⟩ = some (.int .i64 (c k3 : Int)) := by rw [hbel.cell (p := ⟨g, k3, none⟩) hgl2]; exact hrow2.cell hlt3
              have hlen : (mbr c L k3).length ≤ k3 := by rw [mbr_length]; exact cnt_le _ _ _
              obtain ⟨l, hl⟩ : ∃ l, l = c k3 := ⟨_, rfl⟩
              obtain ⟨ms, hms⟩ : ∃ ms, ms = mbr c L k3 := ⟨_, rfl⟩
              rw [← hl] at hck
              rw [← hms] at hown hnil hlen ⊢
              have hsb := hbel.size
              have AN : Aside (l = c k3 ∧ ms = mbr c L k3 ∧ (ms = [] → (.slice ao ms.length cp : Value) = .slice none 0 0)) := ⟨hl, hms, hnil⟩
              clear hl hms hnil
              obtain ⟨m, hm⟩ : ∃ m, m = ms.length := ⟨_, rfl⟩
              rw [← hm] at hown hlen ⊢
              have Hm : Hid (m = ms.length) := hm
              clear hm
              by_cases hlL : l = L
              · have hb : ((l : Int) == (L : Int)) = true := by simp; omega
                have HL : Hid (l = L) := hlL
                have hownA := hown.alloc (.cells #[.int .i64 (k3 : Int)] 31)
                have hnews := news_one wr (.int .i64 (k3 : Int)) 31 _ rfl
                have h63 : m + 1 ≤ maxLen := by unfold maxLen; omega
                have h1c : ∀ u ∈ ([.int .i64 (k3 : Int)] : List Value), u.oneCell' = true := fun u hu => by simp at hu; subst hu; rfl
                have hbs : w2.heap.size ≤ (wr.alloc (.cells #[.int .i64 (k3 : Int)] 31)).heap.size := by simp; omega
                clear hown hlL
                go_wp2_with (at_builtin; refine wpList_append_lies _ rfl (.tmp 56) (.tmp 58) 27 rfl w2.heap.size 31 i0 (.int .i64 0) 1 8 Try.underlying27 hi0 hz0 hz1 hz2 rfl (by decide) _ _ _ rfl hownA ⟨wr.heap.size, 0, none⟩ 1 1 [.int .i64 (k3 : Int)] rfl rfl hnews h1c (by decide) h63 (by omega) hbs (wr.heap.size + 1) (by simp) ?_; intro g1 cap1 w3 ho1 hgr1 hat1 hlt1)
                go_roundw
                case rel =>
                  go_light
                  have e1 : mbr c L (k3 + 1) = ms ++ [k3] := by rw [mbr, AN.out.2.1, if_pos (by rw [← AN.out.1]; exact HL.out)]
                  have e2 : (ms ++ [k3]).length = m + 1 := by rw [Hm.out]; simp
                  have hgr2 : Below w2.heap.size w2 w3 := (hbel.alloc (by omega) _).grown hgr1 (by simp; omega) (fun k e => ((hownA.lt k e).1))
                  refine ⟨k3 + 1, some ⟨g1, 0, none⟩, cap1, by omega, by go_num, by rw [e1, e2], ?_, fun h => ?_, hgr2⟩
                  · rw [e1, e2]; simpa using ho1
                  · rw [e1] at h; simp at h
                case measure => go_light; simp [intOf]; omega
              · have hb : ((l : Int) == (L : Int)) = false := by simp; omega
                go_wp2_with fail
                go_roundw
                case rel =>
                  go_light
                  have e1 : mbr c L (k3 + 1) = ms := by rw [mbr, AN.out.2.1, if_neg (by rw [← AN.out.1]; exact hlL)]; simp
                  refine ⟨k3 + 1, ao, cp, by omega, by go_num, by rw [e1, ← Hm.out], ?_, ?_, hbel⟩
                  · rw [e1, ← Hm.out]; exact hown
                  · rw [e1]; exact AN.out.2.2
                case measure => go_light; simp [intOf]; omega
            · have hkn3 : ¬ (k3 : Int) < (n : Int) := by omega
              go_wp2_with fail
              go_ret
              have hkk : k3 = n := by omega
              subst hkk
              exact ⟨_, c, L, k3, rfl, HN.out, AL.out, AB.out, owns_rowAt (by rw [mbr_length]; have := cnt_le c L k3; omega) hown, hnil, hbelG.trans (hbel.mono hs2)⟩

end Go.Proofs.Qxb6602969a
