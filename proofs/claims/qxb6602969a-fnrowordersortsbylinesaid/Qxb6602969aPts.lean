/-
  THE WALKS of zzClonePts and zzMakeFile: points are pairs of floats; only how many there are is told.
-/
import Derived.Test.Qxb6602969aOrd
import Derived.Deep.QuietTactic
import Derived.BigQuiet
namespace Go.Proofs.Qxb6602969a
open Go.RowKit

/-- The slice value v holds n pairs of floats. -/
def PtsAt (w : World) (B : Nat) (v : Value) (n : Nat) : Prop :=
  ∃ (a : Option Addr) (b o c : Nat) (X Y : Nat → Nat), v = .slice a n c ∧ n ≤ 9223372036854775807 ∧ (0 < n → a = some ⟨b, o, none⟩ ∧ b < B) ∧
    ∀ i, i < n → w.cell? ⟨b, o + i * 2, none⟩ = some (.float .f64 (X i)) ∧ w.cell? ⟨b, o + i * 2 + 1, none⟩ = some (.float .f64 (Y i))

theorem PtsAt.below {w w' : World} {B n : Nat} {v : Value} (h : PtsAt w B v n) (hb : Below B w w') : PtsAt w' B v n := by
  obtain ⟨a, b, o, c, X, Y, hv, hl, ha, hc⟩ := h
  refine ⟨a, b, o, c, X, Y, hv, hl, ha, fun i hi => ?_⟩
  have hbB := (ha (by omega)).2
  rw [hb.cell (p := ⟨b, o + i * 2, none⟩) hbB, hb.cell (p := ⟨b, o + i * 2 + 1, none⟩) hbB]
  exact hc i hi

theorem PtsAt.mono {w : World} {B B' n : Nat} {v : Value} (h : PtsAt w B v n) (hb : B ≤ B') : PtsAt w B' v n := by
  obtain ⟨a, b, o, c, X, Y, hv, hl, ha, hc⟩ := h
  exact ⟨a, b, o, c, X, Y, hv, hl, fun h0 => ⟨(ha h0).1, Nat.lt_of_lt_of_le (ha h0).2 hb⟩, hc⟩

/-- Block g is a row of n floats. -/
def RowF (w : World) (g : Nat) (t : TypeId) (n : Nat) : Prop := ∃ F : Nat → Nat, w.rowIs g t n (fun j => .float .f64 (F j))

theorem RowF.set {w : World} {g t n : Nat} (h : RowF w g t n) (k x : Nat) : RowF (w.setCell ⟨g, k, none⟩ (.float .f64 x)) g t n := by
  obtain ⟨F, hF⟩ := h
  exact ⟨fun j => if j = k then x else F j, (hF.set k _).congr (fun i _ => by by_cases e : i = k <;> simp [e])⟩

theorem RowF.drewN {w : World} {g t n : Nat} (h : RowF w g t n) (k : Nat) : RowF (w.drewN k) g t n := h

theorem RowF.made (w : World) (n : Nat) (t : TypeId) : RowF (w.alloc (.cells (madeCells #[.float .f64 0, .float .f64 0] n) t)) w.heap.size t n := by
  refine ⟨fun _ => 0, ?_⟩
  refine ⟨_, heap_alloc_new w _, size_madeCells _ _, fun i hi => ?_⟩
  simp [madeCells, hi]
  have : i % 2 = 0 ∨ i % 2 = 1 := by omega
  rcases this with h | h <;> simp [h]

theorem RowF.pts {w : World} {g t n : Nat} (h : RowF w g t (n * 2)) (hn : n ≤ 65536) : PtsAt w w.heap.size (.slice (some ⟨g, 0, none⟩) n n) n := by
  obtain ⟨F, hF⟩ := h
  exact ⟨_, g, 0, n, fun i => F (i * 2), fun i => F (i * 2 + 1), rfl, by omega, fun _ => ⟨rfl, hF.lt⟩, fun i hi => ⟨by rw [Nat.zero_add]; exact hF.cell (by omega), by rw [Nat.zero_add]; exact hF.cell (by omega)⟩⟩

theorem Try.infoP51 : (Try.prog.info? 51).map (fun i => (i.zero, i.size, i.bytes)) = some (some (.agg #[.float .f64 0, .float .f64 0]), 2, 16) := by kernel_rfl
theorem Try.infoP52 : (Try.prog.info? 52).map (fun i => (i.zero, i.size, i.bytes)) = some (some (.agg #[.float .f64 0, .float .f64 0]), 2, 16) := by kernel_rfl

/-- 'make' at elements of two floats. -/
theorem make_pts (t e : TypeId) (ht : Try.prog.underlying t = some (.slice e)) (hinfo : (Try.prog.info? e).map (fun i => (i.zero, i.size, i.bytes)) = some (some (.agg #[.float .f64 0, .float .f64 0]), 2, 16)) (n : Nat) (hn : n ≤ 65536) (w : World) :
    (Instr.makeSlice t (.int .i64 (n : Int)) (.int .i64 (n : Int))).run Try.prog w = .ok (.slice (some ⟨w.heap.size, 0, none⟩) n n) (w.alloc (.cells (madeCells #[.float .f64 0, .float .f64 0] (n * 2)) e)) := by
  obtain ⟨i, hi, hzz⟩ := Option.map_eq_some_iff.1 hinfo
  simp only [Prod.mk.injEq] at hzz
  obtain ⟨hz, hs, hb⟩ := hzz
  have hr := run_make (P := Try.prog) w t e i _ ht hi hz .i64 .i64 n n (by omega) (Int.le_refl _) (by rw [hb]; omega) (by omega)
  simp only [Int.toNat_natCast, hs] at hr
  exact hr

/-- A store of a float: as of every value of one cell. -/
theorem run_store_float {P : Program} {w : World} {a : Addr} {m : Mode} (k : FloatKind) (x : Nat) : (store a (.float k x) m).run P w = stored P w a (.float k x) m := run_store P w a _ m rfl
attribute [local go_sem] run_store_float

def PtsPost (n : Nat) (w : World) (e : Ending) (w' : World) : Prop :=
  ∃ (a' : Option Addr) (c' : Nat), e = .returned (.slice a' n c') ∧ PtsAt w' w'.heap.size (.slice a' n c') n ∧ Below w.heap.size w w'

set_option maxHeartbeats 1000000 in
theorem pts23 (n pc : Nat) (pa : Option Addr) (w : World) (hp : PtsAt w w.heap.size (.slice pa n pc) n) (hn : n ≤ 65536) :
    Calls Try.prog 23 #[.slice pa n pc] w fun e w' => PtsPost n w e w' := by
  obtain ⟨a, b, o, c, X, Y, e, hl, ha, hc⟩ := hp
  cases e
  cases pa with
  | none =>
    have hn0 : n = 0 := by
      by_cases h0 : 0 < n
      · exact absurd (ha h0).1 (by simp)
      · omega
    have HZ : Hid (n = 0) := hn0
    have hnil := fun w => Lib.run_eql_slice_nil (P := Try.prog) w 32 51 none n pc 0 0 Try.underlying32
    clear hc hn0
    go_enter Try.func23, Try.ntmps23
    go_wp2
    go_ret
    refine ⟨none, 0, ?_, ?_, Below.refl _ _⟩
    · rw [HZ.out]; rfl
    · exact ⟨none, 0, 0, 0, fun _ => 0, fun _ => 0, rfl, by omega, fun h => by rw [HZ.out] at h; omega, fun j hj => by rw [HZ.out] at hj; omega⟩
  | some ad =>
    have hnil := fun w => Lib.run_eql_slice_nil (P := Try.prog) w 32 51 (some ad) n pc 0 0 Try.underlying32
    have hmk := make_pts 32 51 Try.underlying32 Try.infoP51 n hn
    go_enter Try.func23, Try.ntmps23
    go_wp2
    clear hnil hmk
    go_loopw [4] (fun x wi => ∃ j : Nat, j ≤ n ∧ x = .int .i64 j ∧ Below w.heap.size w wi ∧ RowF wi w.heap.size 51 (n * 2)) (fun x _ => n - (intOf x).toNat)
    case atStart => exact ⟨0, Nat.zero_le _, rfl, (Below.refl _ _).alloc (Nat.le_refl _) _, RowF.made w _ 51⟩
    case round =>
      obtain ⟨j, hj, rfl, hbel, hF⟩ := hrel
      by_cases hjn : j < n
      · obtain ⟨e, hbB⟩ := ha (by omega)
        obtain rfl := Option.some.inj e
        clear e
        obtain ⟨hx0, hy0⟩ := hc j hjn
        have hx : wr.cell? ⟨b, o + j * 2, none⟩ = some (.float .f64 (X j)) := by rw [hbel.cell (p := ⟨b, o + j * 2, none⟩) hbB]; exact hx0
        have hy : wr.cell? ⟨b, o + j * 2 + 1, none⟩ = some (.float .f64 (Y j)) := by rw [hbel.cell (p := ⟨b, o + j * 2 + 1, none⟩) hbB]; exact hy0
        obtain ⟨F, hF0⟩ := hF
        have hs1 := hF0.cell (i := j * 2) (by omega)
        have hs2 := hF0.cell (i := j * 2 + 1) (by omega)
        have hf1 := hF0.frozen (j * 2)
        have hf2 := hF0.frozen (j * 2 + 1)
        have hF : RowF wr w.heap.size 51 (n * 2) := ⟨F, hF0⟩
        clear hc hx0 hy0 hF0
        go_wp2
        go_roundw
        case rel => go_light; exact ⟨j + 1, by omega, by go_num, (hbel.setCell (Nat.le_refl _) _).setCell (Nat.le_refl _) _, (hF.set _ _).set _ _⟩
        case measure => go_light; simp [intOf]; omega
      · clear hc
        go_wp2
        go_ret
        exact ⟨_, _, rfl, hF.pts hn, hbel⟩

/-- What zzMakeFile leaves: a File of fresh copies. -/
def FilePost (s : ByteArray) (n : Nat) (la : Option Addr) (zs : List Int) (w : World) (e : Ending) (w' : World) : Prop :=
  ∃ (a1 : Option Addr) (c1 : Nat) (a2 : Option Addr) (c2 : Nat), e = .returned (.agg #[.string s, .slice a1 n c1, .slice a2 zs.length c2, .map none]) ∧
    RowAt w' w'.heap.size (.slice a2 zs.length c2) zs ∧ (a2 = none ↔ la = none) ∧ Below w.heap.size w w'

theorem file_made (w : World) : (w.alloc (.cells #[.string ⟨#[]⟩, .slice none 0 0, .slice none 0 0, .map none] 41)).rowIs w.heap.size 41 4 (fun i => #[.string ⟨#[]⟩, .slice none 0 0, .slice none 0 0, .map none].getD i undef) :=
  ⟨_, heap_alloc_new w _, rfl, fun i hi => by
    have : i = 0 ∨ i = 1 ∨ i = 2 ∨ i = 3 := by omega
    rcases this with rfl | rfl | rfl | rfl <;> rfl⟩

set_option maxHeartbeats 1000000 in
set_option maxRecDepth 100000 in
theorem file25 (s : ByteArray) (n pc m lc : Nat) (pa la : Option Addr) (zs : List Int) (w : World) (hp : PtsAt w w.heap.size (.slice pa n pc) n) (hn : n ≤ 65536) (hr : RowAt w w.heap.size (.slice la m lc) zs) (hm : m ≤ 131072) :
    Calls Try.prog 25 #[.string s, .slice pa n pc, .slice la m lc] w fun e w' => FilePost s n la zs w e w' := by
  obtain ⟨a, b, o, c, X, Y, e, hl, ha, hc⟩ := hp
  cases e
  cases pa with
  | none =>
    have hn0 : n = 0 := by
      by_cases h0 : 0 < n
      · exact absurd (ha h0).1 (by simp)
      · omega
    have HZ : Hid (n = 0) := hn0
    have hnil := fun w => run_neq_slice_nil_any (P := Try.prog) w 32 51 none n pc 0 0 Try.underlying32
    clear hc hn0
    have hR1 : (w.alloc (.cells #[.string ⟨#[]⟩, .slice none 0 0, .slice none 0 0, .map none] 41)).rowIs w.heap.size 41 4 (fun i => #[.string ⟨#[]⟩, .slice none 0 0, .slice none 0 0, .map none].getD i undef) := file_made w
    have hbel1 : Below w.heap.size w (w.alloc (.cells #[.string ⟨#[]⟩, .slice none 0 0, .slice none 0 0, .map none] 41)) := (Below.refl _ _).alloc (Nat.le_refl _) _
    have hr1 : RowAt (w.alloc (.cells #[.string ⟨#[]⟩, .slice none 0 0, .slice none 0 0, .map none] 41)) (w.alloc (.cells #[.string ⟨#[]⟩, .slice none 0 0, .slice none 0 0, .map none] 41)).heap.size (.slice la m lc) zs := (hr.below hbel1).mono hbel1.size
    have hlt1 : w.heap.size < (w.alloc (.cells #[.string ⟨#[]⟩, .slice none 0 0, .slice none 0 0, .map none] 41)).heap.size := hR1.lt
    have AW : Aside (Below w.heap.size w (w.alloc (.cells #[.string ⟨#[]⟩, .slice none 0 0, .slice none 0 0, .map none] 41))) := hbel1
    go_enter Try.func25, Try.ntmps25
    go_wp2_with fail
    obtain ⟨W1, hW1⟩ : ∃ W, W = w.alloc (.cells #[.string ⟨#[]⟩, .slice none 0 0, .slice none 0 0, .map none] 41) := ⟨_, rfl⟩
    rw [← hW1] at hR1 hbel1 hr1 hlt1 ⊢
    clear hW1 AW
    refine (copy24 m lc la zs _ hr1 hm).mono ?_
    rintro e w2 ⟨a2, c2, rfl, hr2, hnl, hfr2, hb2⟩
    have hg0 := (hR1.of_block (hb2.block _ hlt1)).cell (i := 0) (by omega)
    have hg1 := (hR1.of_block (hb2.block _ hlt1)).cell (i := 1) (by omega)
    have hg2 := (hR1.of_block (hb2.block _ hlt1)).cell (i := 2) (by omega)
    have hg3 := (hR1.of_block (hb2.block _ hlt1)).cell (i := 3) (by omega)
    have hfr := (hR1.of_block (hb2.block _ hlt1)).frozen
    have hs2 := hb2.size
    have hbB : Below w.heap.size w w2 := hbel1.trans (hb2.mono (by omega))
    have hne : ∀ ad, a2 = some ad → ad.block ≠ w.heap.size := fun ad h => by have := hfr2 ad h; omega
    obtain ⟨L, hL⟩ : ∃ L, L = zs.length := ⟨_, rfl⟩
    have A1 : Aside (RowAt w2 w2.heap.size (.slice a2 zs.length c2) zs ∧ (a2 = none ↔ la = none) ∧ L = zs.length ∧ (∀ ad, a2 = some ad → ad.block ≠ w.heap.size)) := ⟨hr2, hnl, hL, hne⟩
    rw [← hL]
    clear hr2 hnl hb2 hL hfr2 hne
    go_wp2_with fail
    obtain ⟨q1, q2, q3, q4⟩ := A1.out
    refine bodyPost_ret (v := .agg #[.string s, .slice none 0 0, .slice a2 L c2, .map none]) (by simp [results, Try.results25, go_sem, hg0, hg1, hg2, hg3]) rfl ⟨_, _, a2, c2, by rw [← q3, HZ.out], ?_, q2, ?_⟩
    · simp only [size_setCell]
      exact (((q1.setOther q4 _).setOther q4 _).setOther q4 _).setOther q4 _
    · exact (((hbB.setCell (Nat.le_refl _) _).setCell (Nat.le_refl _) _).setCell (Nat.le_refl _) _).setCell (Nat.le_refl _) _
  | some ad =>
    have hnil := fun w => run_neq_slice_nil_any (P := Try.prog) w 32 51 (some ad) n pc 0 0 Try.underlying32
    have hmk := make_pts 38 52 Try.underlying38 Try.infoP52 n hn
    go_enter Try.func25, Try.ntmps25
    go_wp2_with fail
    clear hnil hmk
    go_loopw [8] (fun x wi => ∃ j : Nat, j ≤ n ∧ x = .int .i64 j ∧ Below w.heap.size w wi ∧ wi.rowIs w.heap.size 41 4 (fun i => #[.string ⟨#[]⟩, .slice none 0 0, .slice none 0 0, .map none].getD i undef) ∧ RowF wi (w.heap.size + 1) 52 (n * 2)) (fun x _ => n - (intOf x).toNat)
    case atStart =>
      refine ⟨0, Nat.zero_le _, rfl, ((Below.refl _ _).alloc (Nat.le_refl _) _).alloc (by simp) _, (file_made w).alloc _, ?_⟩
      have := RowF.made (w.alloc (.cells #[.string ⟨#[]⟩, .slice none 0 0, .slice none 0 0, .map none] 41)) (n * 2) 52
      simpa using this
    case round =>
      obtain ⟨j, hj, rfl, hbel, hR1, hF⟩ := hrel
      have hlt1 := hR1.lt
      by_cases hjn : j < n
      · obtain ⟨e, hbB⟩ := ha (by omega)
        obtain rfl := Option.some.inj e
        clear e
        obtain ⟨hx0, hy0⟩ := hc j hjn
        have hx : wr.cell? ⟨b, o + j * 2, none⟩ = some (.float .f64 (X j)) := by rw [hbel.cell (p := ⟨b, o + j * 2, none⟩) hbB]; exact hx0
        have hy : wr.cell? ⟨b, o + j * 2 + 1, none⟩ = some (.float .f64 (Y j)) := by rw [hbel.cell (p := ⟨b, o + j * 2 + 1, none⟩) hbB]; exact hy0
        obtain ⟨F, hF0⟩ := hF
        have hs1 := hF0.cell (i := j * 2) (by omega)
        have hs2 := hF0.cell (i := j * 2 + 1) (by omega)
        have hf1 := hF0.frozen (j * 2)
        have hf2 := hF0.frozen (j * 2 + 1)
        have hF : RowF wr (w.heap.size + 1) 52 (n * 2) := ⟨F, hF0⟩
        have hjz : (j : Int) < (n : Int) := by omega
        clear hc hx0 hy0 hF0
        go_wp2_with fail
        go_region
        all_goals (go_wp2_with fail)
        all_goals go_roundw
        case rel => go_light; exact ⟨j + 1, by omega, by go_num, ((hbel.setCell (by show w.heap.size ≤ w.heap.size + 1; omega) _).setCell (by show w.heap.size ≤ w.heap.size + 1; omega) _).drew, (hR1.setOther (by show w.heap.size ≠ w.heap.size + 1; omega) _).setOther (by show w.heap.size ≠ w.heap.size + 1; omega) _, (hF.set _ _).set _ _⟩
        case measure => go_light; simp [intOf]; omega
      · have hr1 : RowAt wr wr.heap.size (.slice la m lc) zs := (hr.below hbel).mono hbel.size
        have hbel1 := hbel
        clear hc
        go_wp2_with fail
        refine (copy24 m lc la zs _ hr1 hm).mono ?_
        rintro e w2 ⟨a2, c2, rfl, hr2, hnl, hfr2, hb2⟩
        have hg0 := (hR1.of_block (hb2.block _ hlt1)).cell (i := 0) (by omega)
        have hg1 := (hR1.of_block (hb2.block _ hlt1)).cell (i := 1) (by omega)
        have hg2 := (hR1.of_block (hb2.block _ hlt1)).cell (i := 2) (by omega)
        have hg3 := (hR1.of_block (hb2.block _ hlt1)).cell (i := 3) (by omega)
        have hfr := (hR1.of_block (hb2.block _ hlt1)).frozen
        have hs2 := hb2.size
        have hbB : Below w.heap.size w w2 := hbel1.trans (hb2.mono (by omega))
        have hne : ∀ ad, a2 = some ad → ad.block ≠ w.heap.size := fun ad h => by have := hfr2 ad h; omega
        obtain ⟨L, hL⟩ : ∃ L, L = zs.length := ⟨_, rfl⟩
        have A1 : Aside (RowAt w2 w2.heap.size (.slice a2 zs.length c2) zs ∧ (a2 = none ↔ la = none) ∧ L = zs.length ∧ (∀ ad, a2 = some ad → ad.block ≠ w.heap.size)) := ⟨hr2, hnl, hL, hne⟩
        rw [← hL]
        clear hr2 hnl hb2 hL hfr2 hne
        go_wp2_with fail
        obtain ⟨q1, q2, q3, q4⟩ := A1.out
        refine bodyPost_ret (v := .agg #[.string s, .slice (some ⟨w.heap.size + 1, 0, none⟩) n n, .slice a2 L c2, .map none]) (by simp [results, Try.results25, go_sem, hg0, hg1, hg2, hg3]) rfl ⟨_, _, a2, c2, by rw [← q3], ?_, q2, ?_⟩
        · simp only [size_setCell]
          exact (((q1.setOther q4 _).setOther q4 _).setOther q4 _).setOther q4 _
        · exact (((hbB.setCell (Nat.le_refl _) _).setCell (Nat.le_refl _) _).setCell (Nat.le_refl _) _).setCell (Nat.le_refl _) _

end Go.Proofs.Qxb6602969a
