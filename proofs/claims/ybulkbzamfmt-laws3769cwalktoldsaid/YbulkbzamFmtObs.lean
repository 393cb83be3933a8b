/-
  OWN WORK. THE WALK of (*Grid).observation: the grid at block G (rows, columns, the state's two floats, obs, lit), its observation in block O.
-/
import Derived.Test.YbulkbzamFmtBase
namespace Go.Proofs.YbulkbzamFmt
open Go.RowKit
attribute [local go_sem] run_store_float

/-- 1.0, as bits. -/
def one : Nat := 4607182418800017408
def hot (l i : Nat) : Nat := if i = l then one else 0

/-- The grid's fixed cells and its state. -/
structure Gs (B G R C r c : Nat) (w : World) : Prop where
  base : B ≤ G
  lt : G < w.heap.size
  rows : w.cell? ⟨G, 0, none⟩ = some (.int .i64 R)
  cols : w.cell? ⟨G, 1, none⟩ = some (.int .i64 C)
  row : w.cell? ⟨G, 2, none⟩ = some (.float .f64 (fl r))
  col : w.cell? ⟨G, 3, none⟩ = some (.float .f64 (fl c))
  fz : ∀ j, w.frozen? ⟨G, j, none⟩ = false
/-- .. and its observation, in block O: cell i holds z i. -/
structure Gd (B G R C r c N O lit : Nat) (z : Nat → Nat) (w : World) : Prop where
  s : Gs B G R C r c w
  baseO : B ≤ O
  ltO : O < w.heap.size
  ne : ¬ G = O
  obs : w.cell? ⟨G, 4, none⟩ = some (.slice (some ⟨O, 0, none⟩) (N) (N))
  lit : w.cell? ⟨G, 5, none⟩ = some (.int .i64 lit)
  vals : ∀ i, i < N → w.cell? ⟨O, i, none⟩ = some (.float .f64 (z i))
  fzO : ∀ j, w.frozen? ⟨O, j, none⟩ = false

theorem Gs.later {B G R C r c : Nat} {w w' : World} (h : Gs B G R C r c w) (hb : Below w.heap.size w w') : Gs B G R C r c w' :=
  ⟨h.base, Nat.lt_of_lt_of_le h.lt hb.size, (hb.cell (p := ⟨G, 0, none⟩) (by exact h.lt)).trans h.rows, (hb.cell (p := ⟨G, 1, none⟩) (by exact h.lt)).trans h.cols, (hb.cell (p := ⟨G, 2, none⟩) (by exact h.lt)).trans h.row,
    (hb.cell (p := ⟨G, 3, none⟩) (by exact h.lt)).trans h.col, fun j => (hb.frozen (p := ⟨G, j, none⟩) (by exact h.lt)).trans (h.fz j)⟩
theorem Gd.later {B G R C r c N O lit : Nat} {z : Nat → Nat} {w w' : World} (h : Gd B G R C r c N O lit z w) (hb : Below w.heap.size w w') : Gd B G R C r c N O lit z w' :=
  ⟨h.s.later hb, h.baseO, Nat.lt_of_lt_of_le h.ltO hb.size, h.ne, (hb.cell (p := ⟨G, 4, none⟩) (by exact h.s.lt)).trans h.obs, (hb.cell (p := ⟨G, 5, none⟩) (by exact h.s.lt)).trans h.lit,
    fun i hi => (hb.cell (p := ⟨O, i, none⟩) (by exact h.ltO)).trans (h.vals i hi), fun j => (hb.frozen (p := ⟨O, j, none⟩) (by exact h.ltO)).trans (h.fzO j)⟩

/-- A store into the grid's own block, at a cell that is neither rows, columns nor the state. -/
theorem Gs.put {B G R C r c : Nat} {w : World} (h : Gs B G R C r c w) (o : Nat) (ho : 4 ≤ o) (v : Value) : Gs B G R C r c (w.setCell ⟨G, o, none⟩ v) :=
  ⟨h.base, by simpa [World.setCell] using h.lt, (World.cell?_setCell_other _ _ _ _ (by simp)).trans h.rows, (World.cell?_setCell_other _ _ _ _ (by simp)).trans h.cols, (World.cell?_setCell_other _ _ _ _ (by simp)).trans h.row,
    (World.cell?_setCell_other _ _ _ _ (by simp)).trans h.col, fun j => by rw [World.frozen?_setCell]; exact h.fz j⟩
/-- A store into another block. -/
theorem Gs.putO {B G R C r c O : Nat} {w : World} (h : Gs B G R C r c w) (hO : ¬ G = O) (i : Nat) (v : Value) : Gs B G R C r c (w.setCell ⟨O, i, none⟩ v) :=
  ⟨h.base, by simpa [World.setCell] using h.lt, (World.cell?_setCell_other _ _ _ _ (by simp)).trans h.rows, (World.cell?_setCell_other _ _ _ _ (by simp)).trans h.cols, (World.cell?_setCell_other _ _ _ _ (by simp)).trans h.row,
    (World.cell?_setCell_other _ _ _ _ (by simp)).trans h.col, fun j => by rw [World.frozen?_setCell]; exact h.fz j⟩

theorem Gd.setLit {B G R C r c N O lit : Nat} {z : Nat → Nat} {w : World} (h : Gd B G R C r c N O lit z w) (l : Nat) : Gd B G R C r c N O l z (w.setCell ⟨G, 5, none⟩ (.int .i64 l)) :=
  ⟨h.s.put 5 (by omega) _, h.baseO, by simpa [World.setCell] using h.ltO, h.ne, (World.cell?_setCell_other _ _ _ _ (by simp)).trans h.obs, World.cell?_setCell_same _ _ _ h.lit,
    fun i hi => (World.cell?_setCell_other _ _ _ _ (by simp [h.ne])).trans (h.vals i hi), fun j => by rw [World.frozen?_setCell]; exact h.fzO j⟩
theorem Gd.setVal {B G R C r c N O lit : Nat} {z : Nat → Nat} {w : World} (h : Gd B G R C r c N O lit z w) (k : Nat) (hk : k < N) (v : Nat) : Gd B G R C r c N O lit (fun i => if i = k then v else z i) (w.setCell ⟨O, k, none⟩ (.float .f64 v)) := by
  have hne : ¬ O = G := fun e => h.ne e.symm
  refine ⟨h.s.putO h.ne _ _, h.baseO, by simpa [World.setCell] using h.ltO, h.ne, (World.cell?_setCell_other _ _ _ _ (by simp)).trans h.obs, (World.cell?_setCell_other _ _ _ _ (by simp)).trans h.lit, fun i hi => ?_, fun j => by rw [World.frozen?_setCell]; exact h.fzO j⟩
  by_cases e : i = k
  · subst e; simp only [if_true]; exact World.cell?_setCell_same _ _ _ (h.vals i hi)
  · simp only [if_neg e]; rw [World.cell?_setCell_other _ _ _ _ (by simp)]; exact h.vals i hi
theorem Gd.congr {B G R C r c N O lit : Nat} {z z' : Nat → Nat} {w : World} (h : Gd B G R C r c N O lit z w) (e : ∀ i, i < N → z i = z' i) : Gd B G R C r c N O lit z' w :=
  ⟨h.s, h.baseO, h.ltO, h.ne, h.obs, h.lit, fun i hi => by rw [← e i hi]; exact h.vals i hi, h.fzO⟩
/-- The observation made. -/
theorem Gd.made {B G R C r c N : Nat} {w : World} (h : Gs B G R C r c w) (h4 : ∃ u, w.cell? ⟨G, 4, none⟩ = some u) (h5 : w.cell? ⟨G, 5, none⟩ = some (.int .i64 (0 : Nat))) :
    Gd B G R C r c N w.heap.size 0 (fun _ => 0) ((w.setCell ⟨G, 4, none⟩ (.slice (some ⟨w.heap.size, 0, none⟩) (N) (N))).alloc (.cells (madeCells #[.float .f64 0] (N)) 24)) := by
  obtain ⟨u, h4⟩ := h4
  have hp := h.put 4 (by omega) (.slice (some ⟨w.heap.size, 0, none⟩) (N) (N))
  have hz : (w.setCell ⟨G, 4, none⟩ (.slice (some ⟨w.heap.size, 0, none⟩) (N) (N))).heap.size = w.heap.size := by simp [World.setCell]
  have p4 : (w.setCell ⟨G, 4, none⟩ (.slice (some ⟨w.heap.size, 0, none⟩) (N) (N))).cell? ⟨G, 4, none⟩ = some (.slice (some ⟨w.heap.size, 0, none⟩) (N) (N)) := World.cell?_setCell_same _ _ _ h4
  have p5 : (w.setCell ⟨G, 4, none⟩ (.slice (some ⟨w.heap.size, 0, none⟩) (N) (N))).cell? ⟨G, 5, none⟩ = some (.int .i64 (0 : Nat)) := (World.cell?_setCell_other _ _ _ _ (by simp)).trans h5
  have hl := h.lt
  generalize w.setCell ⟨G, 4, none⟩ (.slice (some ⟨w.heap.size, 0, none⟩) (N) (N)) = w1 at *
  have hb : Below w1.heap.size w1 (w1.alloc (.cells (madeCells #[.float .f64 0] (N)) 24)) := (Below.refl _ _).alloc (Nat.le_refl _) _
  have hn := heap_alloc_new w1 (.cells (madeCells #[.float .f64 0] (N)) 24)
  rw [hz] at hn hb
  refine ⟨hp.later (by rw [hz]; exact hb), Nat.le_trans h.base (Nat.le_of_lt hl), by simp [hz], by omega, (hb.cell (p := ⟨G, 4, none⟩) (by exact hl)).trans p4,
    (hb.cell (p := ⟨G, 5, none⟩) (by exact hl)).trans p5, fun i hi => ?_, fun j => by simp only [World.frozen?, hn]; simp⟩
  simp only [World.cell?, hn]
  simp [madeCells, hi, Nat.mod_one]

theorem info24 : (Ybaf.prog.info? 24).map (fun i => (i.zero, i.size, i.bytes)) = some (some (.float .f64 0), 1, 8) := by kernel_rfl

theorem h_obs {B G R C r c N O lit : Nat} {z : Nat → Nat} {w : World} (h : Gd B G R C r c N O lit z w) : w.cell? ⟨G, 4, none⟩ = some (.slice (some ⟨O, 0, none⟩) (N) (N)) := h.obs

/-- What observation finds: no observation yet, or one whose one lit cell is lit. -/
def Before (B G R C r c N : Nat) (w : World) : Prop :=
  (Gs B G R C r c w ∧ w.cell? ⟨G, 4, none⟩ = some (.slice none 0 0) ∧ w.cell? ⟨G, 5, none⟩ = some (.int .i64 (0 : Nat))) ∨ ∃ O l, l < N ∧ Gd B G R C r c N O l (hot l) w

set_option maxHeartbeats 1600000 in
theorem obs_any (B G R C r c N : Nat) (w : World) (hN : R * C = N) (hR : R ≤ 24) (hC : C ≤ 24) (hr : r < R) (hc : c < C) (hB : Before B G R C r c N w) :
    Calls Ybaf.prog 10 #[.pointer (some ⟨G, 0, none⟩)] w fun e w' => ∃ O, e = .returned (.slice (some ⟨O, 0, none⟩) N N) ∧ Gd B G R C r c N O (r * C + c) (hot (r * C + c)) w' ∧ Below B w w' := by
  have hm : N ≤ 576 := by rw [← hN]; exact Nat.le_trans (Nat.mul_le_mul hR hC) (by omega)
  have hpos : 0 < N := by rw [← hN]; exact Nat.mul_pos (by omega) (by omega)
  have hidx : r * C + c < N := by
    have h1 : (r + 1) * C ≤ R * C := Nat.mul_le_mul_right C (by omega)
    have h2 : (r + 1) * C = r * C + C := Nat.succ_mul r C
    omega
  have b2 : IntKind.i64.wrap ((R : Int) * C) = (N : Int) := by rw [← Int.natCast_mul, hN, IntKind.wrap_i64]; omega
  obtain ⟨L, hL⟩ : ∃ L, L = r * C + c := ⟨_, rfl⟩
  have hLN : L < N := by omega
  have b3 : IntKind.i64.wrap ((r : Int) * C) = (r : Int) * C := by
    have e : (r : Int) * C = ((r * C : Nat) : Int) := by simp
    rw [e, IntKind.wrap_i64]; omega
  have b4 : IntKind.i64.wrap ((r : Int) * C + c) = (L : Int) := by
    have e : (r : Int) * C + c = ((r * C + c : Nat) : Int) := by simp
    rw [e, ← hL, IntKind.wrap_i64]; omega
  rw [← hL]
  have HL : Hid (L = r * C + c) := hL
  clear hL hN hidx
  have hq := fun (w : World) (a : Option Addr) (n c n2 c2 : Nat) => Lib.run_eql_slice_nil (P := Ybaf.prog) w 26 24 a n c n2 c2 Ybaf.underlying26
  have HB : Hid (Before B G R C r c N w) := hB
  clear hB
  have hG4 : ∃ a n c, w.cell? ⟨G, 4, none⟩ = some (.slice a n c) := by
    rcases HB.out with ⟨_, h, _⟩ | ⟨O, l, _, h⟩
    · exact ⟨_, _, _, h⟩
    · exact ⟨_, _, _, h.obs⟩
  obtain ⟨a4, n4, c4, g4⟩ := hG4
  go_enter Ybaf.func10, Ybaf.ntmps10
  go_upto_if 8 with fail
  go_cut [8] (fun _ wx => ∃ O l z, l < N ∧ (∀ i, ¬ i = l → z i = 0) ∧ Gd B G R C r c N O l z wx ∧ Below B w wx)
  case first =>
    rcases HB.out with ⟨hs, h4, h5⟩ | ⟨O, l, hl, hd⟩
    · obtain ⟨rfl, rfl, rfl⟩ : a4 = none ∧ n4 = 0 ∧ c4 = 0 := by rw [h4] at g4; simpa using g4.symm
      have h0 := hs.rows
      have h1 := hs.cols
      have gf := hs.fz
      have gl := hs.lt
      have n0 := World.new_ne w _ h0
      have hmk := fun w => run_make_row' (P := Ybaf.prog) 26 24 (.float .f64 0) 8 Ybaf.underlying26 info24 rfl .i64 .i64 N (by omega) (by omega) w
      have kk : ∀ (v : Value) (o : Obj) (j : Nat), ¬ j = 4 → ((w.setCell ⟨G, 4, none⟩ v).alloc o).cell? ⟨G, j, none⟩ = w.cell? ⟨G, j, none⟩ := fun v o j hj =>
        (World.cell?_alloc_past _ _ _ (by simpa [World.setCell] using gl)).trans (World.cell?_setCell_other _ _ _ _ (by simp))
      have k0 : ∀ (v : Value) (o : Obj), ((w.setCell ⟨G, 4, none⟩ v).alloc o).cell? ⟨G, 0, none⟩ = some (.int .i64 R) := fun v o => (kk v o 0 (by omega)).trans h0
      have k1 : ∀ (v : Value) (o : Obj), ((w.setCell ⟨G, 4, none⟩ v).alloc o).cell? ⟨G, 1, none⟩ = some (.int .i64 C) := fun v o => (kk v o 1 (by omega)).trans h1
      clear kk
      have HS : Hid (Gs B G R C r c w) := hs
      clear hs
      go_upto_region 2 with fail
      go_region_held3 (fun w' => w'.cell? ⟨G, 0, none⟩ = some (.int .i64 R) ∧ w'.cell? ⟨G, 1, none⟩ = some (.int .i64 C)) (go_keep) (fail)
      go_wp2
      go_meet
      case rel => exact ⟨w.heap.size, 0, fun _ => 0, hpos, fun _ _ => rfl, (Gd.made HS.out ⟨_, h4⟩ h5).later (Below.refl _ _).drew, (((Below.refl _ _).setCell (by exact HS.out.base) _).alloc (by have := HS.out.base; simp [World.setCell]; omega) _).drew⟩
    · rw [h_obs hd] at g4
      obtain ⟨rfl, rfl, rfl⟩ : some ⟨O, 0, none⟩ = a4 ∧ N = n4 ∧ N = c4 := by simpa using g4
      have HD : Hid (Gd B G R C r c N O l (hot l) w) := hd
      clear hd
      go_wp2
      go_meet
      case rel => exact ⟨O, l, hot l, hl, fun i hi => by simp [hot, hi], HD.out, Below.refl _ _⟩
  case rest =>
    obtain ⟨O, l, z, hl, hz, hd, hbx⟩ := hcut
    clear g4 HB hq b2
    go_wp2_with fail
    refine (at_any G r c _ (by omega) (by omega) hd.s.row hd.s.col).mono ?_
    rintro e w2 ⟨rfl, hb2⟩
    have hd2 := hd.later hb2
    have hbw2 : Below B w w2 := hbx.trans (hb2.mono (by have := hd.s.base; have := hd.s.lt; omega))
    have HZ : Hid (∀ i, ¬ i = l → z i = 0) := hz
    clear hd hb2 hbx hz
    have hd3 : Gd B G R C r c N O l z (w2.alloc (.cells #[.int .i64 r, .int .i64 c] 39)) := hd2.later ((Below.refl _ _).alloc (Nat.le_refl _) _)
    have hbw3 : Below B w (w2.alloc (.cells #[.int .i64 r, .int .i64 c] 39)) := hbw2.alloc (by have := hd2.s.base; have := hd2.s.lt; omega) _
    have p0 : (w2.alloc (.cells #[.int .i64 r, .int .i64 c] 39)).cell? ⟨w2.heap.size, 0, none⟩ = some (.int .i64 r) := by simp
    have p1 : (w2.alloc (.cells #[.int .i64 r, .int .i64 c] 39)).cell? ⟨w2.heap.size, 1, none⟩ = some (.int .i64 c) := by simp
    have pG : ¬ w2.heap.size = G := by have := hd2.s.lt; omega
    have pO : ¬ w2.heap.size = O := by have := hd2.ltO; omega
    clear hd2 hbw2
    go_upto_region 4 with fail
    generalize w2.alloc (.cells #[.int .i64 r, .int .i64 c] 39) = W3 at *
    generalize w2.heap.size = P at *
    have g4 := hd3.obs
    have g5 := hd3.lit
    have gfO := hd3.fzO
    have gv := hd3.vals l hl
    have gne := hd3.ne
    have gne' : ¬ O = G := fun e => gne e.symm
    have hl0 : (0 : Int) ≤ (l : Int) := by omega
    have hl1 : (l : Int) < (N : Int) := by omega
    have HD3 : Hid (Gd B G R C r c N O l z W3) := hd3
    clear hd3
    go_cut [] (fun wx => Gd B G R C r c N O l (fun _ => 0) wx ∧ wx.cell? ⟨P, 0, none⟩ = some (.int .i64 r) ∧ wx.cell? ⟨P, 1, none⟩ = some (.int .i64 c) ∧ Below B w wx)
    case first =>
      go_region_held3 (fun w' => w'.cell? ⟨G, 4, none⟩ = some (.slice (some ⟨O, 0, none⟩) N N) ∧ w'.cell? ⟨G, 5, none⟩ = some (.int .i64 l)) (go_keep) (fail)
      go_wp2
      go_meet
      case rel => exact ⟨((HD3.out.setVal l hl 0).later (Below.refl _ _).drew).congr (fun i _ => by by_cases e : i = l <;> simp [e, HZ.out i]), by rw [World.cell?_drew, World.cell?_setCell_other _ _ _ _ (by simp)]; exact p0, by rw [World.cell?_drew, World.cell?_setCell_other _ _ _ _ (by simp)]; exact p1, (hbw3.setCell (by exact HD3.out.baseO) _).drew⟩
    case rest =>
      obtain ⟨hd, q0, q1, hbx⟩ := hcut
      clear p0 p1 g4 g5 gfO gv HD3 hbw3 HZ
      have pG' : ¬ G = P := fun e => pG e.symm
      go_upto_region 5 with fail
      have g1 := hd.s.cols
      have g5 := hd.lit
      have gf := hd.s.fz
      have kc : ∀ v, (wc.setCell ⟨G, 5, none⟩ v).cell? ⟨G, 1, none⟩ = some (.int .i64 C) := fun v => (World.cell?_setCell_other _ _ _ _ (by simp)).trans g1
      have HD : Hid (Gd B G R C r c N O l (fun _ => 0) wc) := hd
      clear hd
      go_cut [] (fun wx => Gd B G R C r c N O L (fun _ => 0) wx ∧ Below B w wx)
      case first =>
        go_region_held3 (fun w' => w'.cell? ⟨P, 0, none⟩ = some (.int .i64 r) ∧ w'.cell? ⟨P, 1, none⟩ = some (.int .i64 c) ∧ w'.cell? ⟨G, 1, none⟩ = some (.int .i64 C)) (go_keep) (fail)
        go_wp2
        go_meet
        case rel => exact ⟨(HD.out.setLit L).later (Below.refl _ _).drew, (hbx.setCell (by exact HD.out.s.base) _).drew⟩
      case rest =>
        obtain ⟨hd, hbx⟩ := hcut
        clear q0 q1 g1 g5 gf HD b3 b4 kc
        go_upto_region 6 with fail
        have g4 := hd.obs
        have g5 := hd.lit
        have gfO := hd.fzO
        have gv := hd.vals L hLN
        have hl0 : (0 : Int) ≤ (L : Int) := by omega
        have hl1 : (L : Int) < (N : Int) := by omega
        have HD : Hid (Gd B G R C r c N O L (fun _ => 0) wc) := hd
        clear hd
        go_cut [] (fun wx => Gd B G R C r c N O L (hot L) wx ∧ Below B w wx)
        case first =>
          go_region_held3 (fun w' => w'.cell? ⟨G, 4, none⟩ = some (.slice (some ⟨O, 0, none⟩) N N) ∧ w'.cell? ⟨G, 5, none⟩ = some (.int .i64 L)) (go_keep) (fail)
          go_wp2
          go_meet
          case rel => exact ⟨(HD.out.setVal L hLN one).later (Below.refl _ _).drew, (hbx.setCell (by exact HD.out.baseO) _).drew⟩
        case rest =>
          obtain ⟨hd, hbx⟩ := hcut
          have g4 := hd.obs
          have HD : Hid (Gd B G R C r c N O L (hot L) wc) := hd
          clear hd
          go_wp2
          go_ret
          exact ⟨O, rfl, HD.out, hbx⟩
end Go.Proofs.YbulkbzamFmt
