/-
  THE WALK of layout.Components over a graph in which every neighbour is a node and every link goes both ways: the labels of 'Lab', in new memory.
-/
import Derived.Test.Qxb6602969aRows
import Derived.Test.Qxb6602969aMem
import Derived.Test.Qxb6602969aDfs
import Derived.WalkSpells
import Derived.WalkLawsBesides
import Derived.Deep.LoopGhost
import Derived.Deep.Light
import Derived.Deep.AppendLies
namespace Go.Proofs.Qxb6602969a
open Go.RowKit

theorem Try.infoK31 : (Try.prog.info? 31).map (fun i => (i.zero, i.size, i.bytes)) = some (some (.int .i64 0), 1, 8) := by kernel_rfl
theorem Try.infoK4 : (Try.prog.info? 4).map (fun i => (i.zero, i.size, i.bytes)) = some (some (.bool false), 1, 1) := by kernel_rfl
theorem Try.infoK3 : (Try.prog.info? 3).map (fun i => (i.zero, i.size, i.bytes)) = some (some (.int .i64 0), 1, 8) := by kernel_rfl

/-- The labels, in a row of the call's own. -/
def CompPost (rows : List (List Int)) (w : World) (e : Ending) (w' : World) : Prop :=
  ∃ (g n : Nat) (c : Nat → Nat), e = .returned (.slice (some ⟨g, 0, none⟩) n n) ∧ n = rows.length ∧ w.heap.size ≤ g ∧ RowI w' g 31 n (fun i => (c i : Int)) ∧ Lab rows c ∧ Below w.heap.size w w'

structure CMem (w wr : World) (n : Nat) (comp : Nat → Nat) (seen : Nat → Bool) : Prop where
  below : Below w.heap.size w wr
  lt : w.heap.size + 2 ≤ wr.heap.size
  comp : RowI wr w.heap.size 31 n (fun i => (comp i : Int))
  seen : wr.rowIs (w.heap.size + 1) 4 n (fun i => .bool (seen i))

theorem CMem.start (w : World) (n : Nat) : CMem w ((w.alloc (.cells (madeCells #[.int .i64 0] n) 31)).alloc (.cells (madeCells #[.bool false] n) 4)) n (fun _ => 0) (fun _ => false) := by
  refine ⟨((Below.refl _ _).alloc (Nat.le_refl _) _).alloc (by simp) _, by simp, ((RowI.made w n 31).alloc _).congr (fun _ _ => rfl), ?_⟩
  have := World.rowIs_made (w.alloc (.cells (madeCells #[.int .i64 0] n) 31)) (.bool false) n 4
  simpa using this

theorem CMem.mark {w wr : World} {n : Nat} {comp : Nat → Nat} {seen : Nat → Bool} (h : CMem w wr n comp seen) (u : Nat) : CMem w (wr.setCell ⟨w.heap.size + 1, u, none⟩ (.bool true)) n comp (upd seen u true) :=
  ⟨h.below.setCell (by show w.heap.size ≤ w.heap.size + 1; omega) _, by rw [size_setCell]; exact h.lt, h.comp.other (by show w.heap.size ≠ w.heap.size + 1; omega) _,
    (h.seen.set u _).congr (fun i _ => by by_cases e : i = u <;> simp [upd, e])⟩

theorem CMem.label {w wr : World} {n : Nat} {comp : Nat → Nat} {seen : Nat → Bool} (h : CMem w wr n comp seen) (v f : Nat) : CMem w (wr.setCell ⟨w.heap.size, v, none⟩ (.int .i64 f)) n (upd comp v f) seen :=
  ⟨h.below.setCell (Nat.le_refl _) _, by rw [size_setCell]; exact h.lt, (h.comp.set v f).congr (fun i _ => by by_cases e : i = v <;> simp [upd, e]),
    h.seen.setOther (by show w.heap.size + 1 ≠ w.heap.size; omega) _⟩

theorem CMem.alloc {w wr : World} {n : Nat} {comp : Nat → Nat} {seen : Nat → Bool} (h : CMem w wr n comp seen) (o : Obj) : CMem w (wr.alloc o) n comp seen :=
  ⟨h.below.alloc (by have := h.lt; omega) _, by have := h.lt; simp; omega, h.comp.alloc _, h.seen.alloc _⟩

theorem CMem.grown {w wr w1 : World} {n : Nat} {comp : Nat → Nat} {seen : Nat → Bool} (h : CMem w wr n comp seen) {g : Nat} (hg : w.heap.size + 2 ≤ g) (hgr : wr.grownBy w1 (some g)) : CMem w w1 n comp seen := by
  have hl := h.lt
  refine ⟨h.below.grown hgr (by omega) (fun k e => by cases e; omega), by have := hgr.size; omega, h.comp.of_block (hgr.block _ (by omega) (fun e => by cases e; omega)), h.seen.of_block (hgr.block _ (by omega) (fun e => by cases e; omega))⟩

/-- The stack: a slice of the call's own behind the two rows. -/
def Stk (w wr : World) (s : Value) (st : List Nat) : Prop :=
  ∃ g cap, s = .slice (some ⟨g, 0, none⟩) st.length cap ∧ w.heap.size + 2 ≤ g ∧ wr.ownsRow (w.heap.size + 2) 3 1 (.slice (some ⟨g, 0, none⟩) st.length cap) st.length (st.map fun (x : Nat) => Value.int .i64 (x : Int))

theorem Stk.start {w wr : World} {n : Nat} {comp : Nat → Nat} {seen : Nat → Bool} (h : CMem w wr n comp seen) (f : Nat) :
    Stk w (wr.alloc (.cells #[.int .i64 (f : Int)] 3)) (.slice (some ⟨wr.heap.size, 0, none⟩) 1 1) [f] :=
  ⟨wr.heap.size, 1, rfl, h.lt, World.ownsRow_lit wr #[.int .i64 (f : Int)] 1 h.lt (by unfold maxLen; omega) rfl⟩

theorem Stk.pop {w wr : World} {g cap v : Nat} {st : List Nat} (hg : w.heap.size + 2 ≤ g)
    (h : wr.ownsRow (w.heap.size + 2) 3 1 (.slice (some ⟨g, 0, none⟩) (st.length + 1) cap) (st.length + 1) ((st ++ [v]).map fun (x : Nat) => Value.int .i64 (x : Int))) : Stk w wr (.slice (some ⟨g, 0, none⟩) st.length cap) st := by
  refine ⟨g, cap, rfl, hg, ownsRow_pop (last := [.int .i64 (v : Int)]) (by simp) ?_⟩
  simpa using h

theorem owns_cap {w : World} {base g n cap : Nat} {xs : List Value} (h : w.ownsRow base 3 1 (.slice (some ⟨g, 0, none⟩) n cap) n xs) : n ≤ cap := by
  rcases h.2 with ⟨h', _⟩ | ⟨g', cap', cur, h', _, _, hc, _⟩
  · cases h'
  · cases h'; exact hc

/-- Behind 'stack = append(stack, y)'. -/
theorem Stk.push {w wr w1 : World} {n g g1 cap1 : Nat} {comp : Nat → Nat} {seen : Nat → Bool} {st : List Nat} {y : Nat} (hM : CMem w wr n comp seen) (hg : w.heap.size + 2 ≤ g) (hgr : wr.grownBy w1 (some g)) (hat : (some g : Option Nat) = some g1 ∨ g1 = wr.heap.size)
    (ho : w1.ownsRow (w.heap.size + 2) 3 1 (.slice (some ⟨g1, 0, none⟩) (st.length + 1) cap1) (st.length + 1) ((st.map fun (x : Nat) => Value.int .i64 (x : Int)) ++ [.int .i64 (y : Int)])) :
    CMem w w1 n comp seen ∧ Stk w w1 (.slice (some ⟨g1, 0, none⟩) (st.length + 1) cap1) (st ++ [y]) := by
  refine ⟨hM.grown hg hgr, g1, cap1, by simp, ?_, by simpa using ho⟩
  have := hM.lt
  rcases hat with e | e
  · cases e; exact hg
  · omega

theorem news_one (w : World) (x : Value) (t : TypeId) (H : Nat) (hH : w.heap.size = H) : ∀ (j : Nat) (u : Value), ([x] : List Value)[j]? = some u → (w.alloc (.cells #[x] t)).cell? ((⟨H, 0, none⟩ : Addr).add j) = some u := by
  subst hH
  exact World.news_of_block (heap_alloc_new w _)

theorem Stk.other {w wr : World} {s : Value} {st : List Nat} (h : Stk w wr s st) {a : Addr} (ha : a.block < w.heap.size + 2) (x : Value) : Stk w (wr.setCell a x) s st := by
  obtain ⟨g, cap, e, hg, ho⟩ := h
  exact ⟨g, cap, e, hg, ownsRow_setCell_below ho ha x⟩

set_option maxHeartbeats 2000000 in
set_option maxRecDepth 100000 in
theorem comp14 (rows : List (List Int)) (v : Value) (w : World) (hg : GraphAt w w.heap.size v rows) (wf : WF rows) (hn1 : 3 * rows.length ≤ 131072) :
    Calls Try.prog 14 #[v] w fun e w' => CompPost rows w e w' := by
  obtain ⟨a, b, o, c, n, rfl, HN, hl, ha, HC⟩ := hg.parts
  rw [← HN.out] at hn1
  clear hg
  have hmk1 := run_make_row' (P := Try.prog) 27 31 (.int .i64 0) 8 Try.underlying27 Try.infoK31 rfl .i64 .i64 n (by omega) (by omega)
  have hmk2 := run_make_row' (P := Try.prog) 44 4 (.bool false) 1 Try.underlying44 Try.infoK4 rfl .i64 .i64 n (by omega) (by omega)
  go_enter Try.func14, Try.ntmps14
  go_wp2
  clear hmk1 hmk2
  go_loopg [18] n (fun gk x wr => ∃ f : Nat, f ≤ n ∧ gk = n - f ∧ x = .int .i64 f ∧ ∃ seen comp, CMem w wr n comp seen ∧ COut rows f seen comp)
  case atStart => exact ⟨0, Nat.zero_le _, rfl, rfl, _, _, CMem.start w n, COut.start rows⟩
  case round =>
    obtain ⟨f, hf, rfl, rfl, seen, comp, hM, hO⟩ := hrel
    by_cases hlt : f < n
    · have hcell := hM.seen.cell hlt
      have hfroz := hM.seen.frozen f
      cases hs : seen f with
      | true =>
        rw [hs] at hcell
        go_wp2
        go_roundg (n - (f + 1))
        case measure => go_light; omega
        case rel => go_light; exact ⟨f + 1, by omega, rfl, by go_num, seen, comp, hM, hO.skip hs⟩
      | false =>
        rw [hs] at hcell
        have hM1 := (hM.mark f).alloc (.cells #[.int .i64 (f : Int)] 3)
        have hI1 := hO.enter hs (by rw [← HN.out]; exact hlt)
        have hK1 := Stk.start (hM.mark f) f
        rw [size_setCell] at hK1
        have hU1 := unseen_set seen f n hlt hs
        have hU2 := unseen_le seen n
        have A1 : Aside (CIn rows f seen (upd seen f true) comp [f] ∧ unseen (upd seen f true) n + 1 ≤ n) := ⟨hI1, by omega⟩
        clear hI1 hU1 hU2
        go_wp2
        clear hcell hfroz hM hO hs
        -- THE STACK
        go_loopg [6] (unseen (upd seen f true) n + 1) (fun gk s wr => ∃ seen' comp' st, CMem w wr n comp' seen' ∧ CIn rows f seen seen' comp' st ∧ Stk w wr s st ∧ unseen seen' n + st.length = gk ∧ gk ≤ n)
        case atStart => exact ⟨upd seen f true, comp, [f], hM1, A1.out.1, hK1, rfl, A1.out.2⟩
        case round =>
          clear hM1 hK1 A1
          obtain ⟨seen1, comp1, st, hM, hI, ⟨g, cap, rfl, hgl, hown⟩, hk1, hk2⟩ := hrel
          have A2 : Aside (unseen seen1 n + st.length = gk ∧ gk ≤ n) := ⟨hk1, hk2⟩
          clear hk1 hk2
          rcases List.eq_nil_or_concat st with rfl | ⟨st', x, rfl⟩
          · go_wp2
            go_roundg (n - (f + 1))
            case measure => go_light; omega
            case rel => go_light; exact ⟨f + 1, by omega, rfl, by go_num, seen1, comp1, hM, hI.leave wf⟩
          · rw [List.concat_eq_append] at *
            obtain ⟨m, hm⟩ : ∃ m, m = st'.length := ⟨_, rfl⟩
            have hlen : (st' ++ [x]).length = m + 1 := by rw [hm]; simp
            rw [hlen] at hown A2 ⊢
            have hcap := owns_cap hown
            have hcx : wr.cell? ⟨g, m, none⟩ = some (.int .i64 (x : Int)) := by rw [hown.cellAt m (by omega), hm]; simp
            have hK := Stk.pop (v := x) (st := st') hgl (by rw [← hm]; exact hown)
            rw [← hm] at hK
            have Hm : Hid (m = st'.length) := hm
            have hmn : m + 1 ≤ n := by have := A2.out; omega
            obtain ⟨hxn, hxs, hxS⟩ := hI.isOpen x (by simp)
            rw [← HN.out] at hxn
            have hI1 := hI.label (v := x) (by simp)
            have hM1 := hM.label x f
            have hst1 := hM.comp.cell hxn
            have hst2 := hM.comp.frozen x
            obtain ⟨rfl, hbB⟩ := ha (by omega)
            obtain ⟨u, hu0, hrow0⟩ := HC.out x hxn
            have hu : (wr.setCell ⟨w.heap.size, x, none⟩ (.int .i64 (f : Int))).cell? ⟨b, o + x, none⟩ = some u := by rw [hM1.below.cell (p := ⟨b, o + x, none⟩) hbB]; exact hu0
            obtain ⟨a', b', o', c', L, fr, rfl, HL, hL, ha', hc', HF, HM⟩ := hrow0.parts
            have A3 : Aside (CIn rows f seen seen1 (upd comp1 x f) (st' ++ [x])) := hI1
            have hK1 := hK.other (a := ⟨w.heap.size, x, none⟩) (by show w.heap.size < _; omega) (.int .i64 (f : Int))
            clear hm hlen hown hxs hxS hI hI1 hu0 hrow0 hM hK
            go_wp2
            clear hcx hst1 hst2 hu
            -- THE NEIGHBOURS
            go_loopg [6, 53] L (fun gk s y wr => ∃ (j : Nat) (seen2 : Nat → Bool) (st2 : List Nat), j ≤ L ∧ gk = L - j ∧ y = .int .i64 j ∧ CMem w wr n (upd comp1 x f) seen2 ∧ CIn rows f seen seen2 (upd comp1 x f) (x :: st2) ∧
              (∀ i, i < j → seen2 (fr i).toNat = true) ∧ Stk w wr s st2 ∧ unseen seen2 n + st2.length = unseen seen1 n + m)
            case atStart =>
              refine ⟨0, seen1, st', Nat.zero_le _, rfl, rfl, hM1, ?_, fun i hi => absurd hi (Nat.not_lt_zero _), hK1, by rw [Hm.out]⟩
              exact A3.out.reopen (fun y => by simp [or_comm])
            case round =>
              clear hM1 hK1 A3
              obtain ⟨j, seen2, st2, hj, rfl, rfl, hM, hI, hsn, ⟨g2, cap2, rfl, hgl2, hown2⟩, hcnt⟩ := hrel
              have A4 : Aside (CIn rows f seen seen2 (upd comp1 x f) (x :: st2) ∧ (∀ i, i < j → seen2 (fr i).toNat = true) ∧ unseen seen2 n + st2.length = unseen seen1 n + m) := ⟨hI, hsn, hcnt⟩
              clear hI hsn hcnt
              by_cases hjL : j < L
              · obtain ⟨rfl, hbB'⟩ := ha' (by omega)
                have hcj : wr.cell? ⟨b', o' + j, none⟩ = some (.int .i64 (fr j)) := by rw [hM.below.cell (p := ⟨b', o' + j, none⟩) hbB']; exact hc' j hjL
                have hmem := HM.out j hjL
                have hrange := wf.range x (by rw [← HN.out]; exact hxn) _ hmem
                obtain ⟨y, hy⟩ : ∃ y : Nat, fr j = y := ⟨(fr j).toNat, by omega⟩
                rw [hy] at hcj hmem hrange
                rw [← HN.out] at hrange
                have hyn : y < n := by omega
                have A5 : Aside (fr j = y ∧ (y : Int) ∈ rows.getD x []) := ⟨hy, hmem⟩
                have hsc := hM.seen.cell hyn
                have hsf := hM.seen.frozen y
                clear hc' hy hmem hrange
                cases hs2 : seen2 y with
                | true =>
                  rw [hs2] at hsc
                  go_wp2
                  go_roundg (L - (j + 1))
                  case measure => go_light; omega
                  case rel =>
                    go_light
                    obtain ⟨q1, q2, q3⟩ := A4.out
                    refine ⟨j + 1, seen2, st2, by omega, rfl, by go_num, hM, q1, fun i hi => ?_, ⟨g2, cap2, rfl, hgl2, hown2⟩, q3⟩
                    by_cases e : i = j
                    · rw [e, A5.out.1]; simpa using hs2
                    · exact q2 i (by omega)
                | false =>
                  rw [hs2] at hsc
                  obtain ⟨m2, hm2⟩ : ∃ m2, m2 = st2.length := ⟨_, rfl⟩
                  have hM3 := (hM.mark y).alloc (.cells #[.int .i64 (y : Int)] 3)
                  have hownA := (ownsRow_setCell_below hown2 (a := ⟨w.heap.size + 1, y, none⟩) (by show w.heap.size + 1 < _; omega) (.bool true)).alloc (.cells #[.int .i64 (y : Int)] 3)
                  have hbase : w.heap.size + 2 ≤ wr.heap.size := hM.lt
                  have hm2n : m2 + 1 ≤ n := by have := A4.out.2.2; have := A2.out; omega
                  have hnews : ∀ (j : Nat) (u : Value), ([.int .i64 (y : Int)] : List Value)[j]? = some u → ((wr.setCell ⟨w.heap.size + 1, y, none⟩ (.bool true)).alloc (.cells #[.int .i64 (y : Int)] 3)).cell? ((⟨wr.heap.size, 0, none⟩ : Addr).add j) = some u := news_one _ _ 3 _ (size_setCell _ _ _)
                  rw [← hm2] at hownA ⊢
                  have Hm2 : Hid (m2 = st2.length) := hm2
                  obtain ⟨i0, hi0, hz0, hz1, hz2⟩ := info_parts Try.infoK3
                  clear hm2 hown2
                  have h63 : m2 + 1 ≤ maxLen := by unfold maxLen; omega
                  have h1c : ∀ u ∈ ([.int .i64 (y : Int)] : List Value), u.oneCell' = true := fun u hu => by simp at hu; subst hu; rfl
                  have hH : ((wr.setCell ⟨w.heap.size + 1, y, none⟩ (.bool true)).alloc (.cells #[.int .i64 (y : Int)] 3)).heap.size = wr.heap.size + 1 := by simp
                  have hbs : w.heap.size + 2 ≤ ((wr.setCell ⟨w.heap.size + 1, y, none⟩ (.bool true)).alloc (.cells #[.int .i64 (y : Int)] 3)).heap.size := by rw [hH]; omega
                  have AH : Aside (((wr.setCell ⟨w.heap.size + 1, y, none⟩ (.bool true)).alloc (.cells #[.int .i64 (y : Int)] 3)).heap.size = wr.heap.size + 1) := hH
                  clear hH
                  go_wp2_with (at_builtin; refine wpList_append_lies _ rfl (.tmp 65) (.tmp 67) 29 rfl (w.heap.size + 2) 3 i0 (.int .i64 0) 1 8 Try.underlying29 hi0 hz0 hz1 hz2 rfl (by decide) _ _ _ rfl hownA ⟨wr.heap.size, 0, none⟩ 1 1 [.int .i64 (y : Int)] rfl rfl hnews h1c (by decide) h63 (by omega) hbs (wr.heap.size + 1) AH.out ?_; intro g1 cap1 w1 ho1 hgr1 hat1 hlt1)
                  go_roundg (L - (j + 1))
                  case measure => go_light; omega
                  case rel =>
                    go_light
                    obtain ⟨q1, q2, q3⟩ := A4.out
                    rw [Hm2.out] at ho1
                    obtain ⟨r1, r2⟩ := Stk.push hM3 hgl2 hgr1 (by rw [AH.out]; exact hat1) ho1
                    have r3 := unseen_set seen2 y n hyn hs2
                    refine ⟨j + 1, upd seen2 y true, st2 ++ [y], by omega, rfl, by go_num, r1, q1.push (v := x) (by simp) A5.out.2 (by rw [← HN.out]; exact hyn) hs2 (fun z => by simp [or_assoc]), fun i hi => ?_, by rw [Hm2.out]; exact r2, by simp; omega⟩
                    by_cases e : i = j
                    · rw [e, A5.out.1]; simp [upd]
                    · have := q2 i (by omega)
                      unfold upd; split
                      · rfl
                      · exact this
              · clear hc'
                go_wp2
                go_roundg (gk - 1)
                case measure => go_light; have := A2.out; omega
                case rel =>
                  go_light
                  obtain ⟨q1, q2, q3⟩ := A4.out
                  have q4 := A2.out
                  refine ⟨seen2, _, st2, hM, q1.close (v := x) (upd_same _ _ _) (fun u hu => ?_) (fun y => by simp [or_comm]), ⟨g2, cap2, rfl, hgl2, hown2⟩, by omega, by omega⟩
                  obtain ⟨i, hi, rfl⟩ := List.getElem_of_mem hu
                  have hiL : i < L := by rw [HL.out]; exact hi
                  have e1 := HF.out i hiL
                  rw [List.getD, List.getElem?_eq_getElem hi] at e1
                  have e2 := q2 i (by omega)
                  rw [e1] at e2
                  exact e2
    · go_wp2
      go_ret
      have : f = n := by omega
      subst this
      exact ⟨w.heap.size, f, comp, rfl, HN.out, Nat.le_refl _, hM.comp, by rw [HN.out] at hO; exact hO.done, hM.below⟩

end Go.Proofs.Qxb6602969a
