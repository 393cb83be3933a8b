/-
  OWN WORK. THE WALK of (*Grid).Step.
-/
import Derived.Test.YbulkbzamFmtObs
namespace Go.Proofs.YbulkbzamFmt
open Go.RowKit
attribute [local go_sem] run_store_float

/-- Where the agent stands behind action a. -/
def nx (R C r c a : Nat) : Nat × Nat := if inB R C (r + (mv a).1) (c + (mv a).2) then ((r + (mv a).1).toNat, (c + (mv a).2).toNat) else (r, c)

/-- The table of moves, package-level variable 0. -/
def Moves (w : World) : Prop := ∀ a, a < 4 → w.cell? ⟨0, a * 2, none⟩ = some (.int .i64 (mv a).1) ∧ w.cell? ⟨0, a * 2 + 1, none⟩ = some (.int .i64 (mv a).2)
theorem Moves.below {B : Nat} {w w' : World} (h : Moves w) (hB : 0 < B) (hb : Below B w w') : Moves w' := fun a ha =>
  ⟨(hb.cell (p := ⟨0, a * 2, none⟩) (by exact hB)).trans (h a ha).1, (hb.cell (p := ⟨0, a * 2 + 1, none⟩) (by exact hB)).trans (h a ha).2⟩

theorem Before.later {B G R C r c N : Nat} {w w' : World} (h : Before B G R C r c N w) (hb : Below w.heap.size w w') : Before B G R C r c N w' := by
  rcases h with ⟨hs, h4, h5⟩ | ⟨O, l, hl, hd⟩
  · exact .inl ⟨hs.later hb, (hb.cell (p := ⟨G, 4, none⟩) (by exact hs.lt)).trans h4, (hb.cell (p := ⟨G, 5, none⟩) (by exact hs.lt)).trans h5⟩
  · exact .inr ⟨O, l, hl, hd.later hb⟩
theorem Before.s {B G R C r c N : Nat} {w : World} (h : Before B G R C r c N w) : Gs B G R C r c w := by
  rcases h with ⟨hs, _⟩ | ⟨O, l, hl, hd⟩
  · exact hs
  · exact hd.s

/-- The state stored anew. -/
theorem Gs.move {B G R C r c : Nat} {w : World} (h : Gs B G R C r c w) (r' c' : Nat) : Gs B G R C r' c' ((w.setCell ⟨G, 2, none⟩ (.float .f64 (floatOfInt .f64 r'))).setCell ⟨G, 3, none⟩ (.float .f64 (floatOfInt .f64 c'))) :=
  ⟨h.base, by simpa [World.setCell] using h.lt, (World.cell?_setCell_other _ _ _ _ (by simp)).trans ((World.cell?_setCell_other _ _ _ _ (by simp)).trans h.rows), (World.cell?_setCell_other _ _ _ _ (by simp)).trans ((World.cell?_setCell_other _ _ _ _ (by simp)).trans h.cols),
    (World.cell?_setCell_other _ _ _ _ (by simp)).trans (World.cell?_setCell_same _ _ _ h.row), World.cell?_setCell_same _ _ _ ((World.cell?_setCell_other _ _ _ _ (by simp)).trans h.col), fun j => by rw [World.frozen?_setCell, World.frozen?_setCell]; exact h.fz j⟩
theorem Gd.move {B G R C r c N O l : Nat} {z : Nat → Nat} {w : World} (h : Gd B G R C r c N O l z w) (r' c' : Nat) : Gd B G R C r' c' N O l z ((w.setCell ⟨G, 2, none⟩ (.float .f64 (floatOfInt .f64 r'))).setCell ⟨G, 3, none⟩ (.float .f64 (floatOfInt .f64 c'))) := by
  have hne := h.ne
  exact ⟨h.s.move r' c', h.baseO, by simpa [World.setCell] using h.ltO, h.ne, (World.cell?_setCell_other _ _ _ _ (by simp)).trans ((World.cell?_setCell_other _ _ _ _ (by simp)).trans h.obs), (World.cell?_setCell_other _ _ _ _ (by simp)).trans ((World.cell?_setCell_other _ _ _ _ (by simp)).trans h.lit),
    fun i hi => (World.cell?_setCell_other _ _ _ _ (by simp)).trans ((World.cell?_setCell_other _ _ _ _ (by simp)).trans (h.vals i hi)), fun j => by rw [World.frozen?_setCell, World.frozen?_setCell]; exact h.fzO j⟩
theorem Before.move {B G R C r c N : Nat} {w : World} (h : Before B G R C r c N w) (r' c' : Nat) : Before B G R C r' c' N ((w.setCell ⟨G, 2, none⟩ (.float .f64 (floatOfInt .f64 r'))).setCell ⟨G, 3, none⟩ (.float .f64 (floatOfInt .f64 c'))) := by
  rcases h with ⟨hs, h4, h5⟩ | ⟨O, l, hl, hd⟩
  · exact .inl ⟨hs.move r' c', (World.cell?_setCell_other _ _ _ _ (by simp)).trans ((World.cell?_setCell_other _ _ _ _ (by simp)).trans h4), (World.cell?_setCell_other _ _ _ _ (by simp)).trans ((World.cell?_setCell_other _ _ _ _ (by simp)).trans h5)⟩
  · exact .inr ⟨O, l, hl, hd.move r' c'⟩
theorem mv_fst (a : Nat) : -1 ≤ (mv a).1 ∧ (mv a).1 ≤ 1 := by
  unfold mv; split <;> (try split) <;> (try split) <;> simp
theorem mv_snd (a : Nat) : -1 ≤ (mv a).2 ∧ (mv a).2 ≤ 1 := by
  unfold mv; split <;> (try split) <;> (try split) <;> simp
theorem cell_alloc1 {w : World} {a : Addr} {v : Value} (h : w.cell? a = some v) (o : Obj) : (w.alloc o).cell? a = some v :=
  ((((Below.refl w.heap.size w).alloc (Nat.le_refl _) o).cell (p := a) (World.block_lt_of_cell? _ _ h))).trans h
theorem cell_alloc3 {w : World} {a : Addr} {v : Value} (h : w.cell? a = some v) : ∀ o1 o2 o3, (((w.alloc o1).alloc o2).alloc o3).cell? a = some v := fun o1 o2 o3 => cell_alloc1 (cell_alloc1 (cell_alloc1 h o1) o2) o3

theorem al3 (w : World) (A1 A2 A3 : Array Value) (t1 t2 t3 : TypeId) (i : Nat) : (((w.alloc (.cells A1 t1)).alloc (.cells A2 t2)).alloc (.cells A3 t3)).cell? ⟨w.heap.size + 1 + 1, i, none⟩ = A3[i]? := by
  have h := heap_alloc_new ((w.alloc (.cells A1 t1)).alloc (.cells A2 t2)) (.cells A3 t3)
  simp only [World.size_alloc] at h
  simp only [World.cell?, h]; simp
theorem al2 (w : World) (A1 A2 A3 : Array Value) (t1 t2 t3 : TypeId) (i : Nat) : (((w.alloc (.cells A1 t1)).alloc (.cells A2 t2)).alloc (.cells A3 t3)).cell? ⟨w.heap.size + 1, i, none⟩ = A2[i]? := by
  have h := heap_alloc_new (w.alloc (.cells A1 t1)) (.cells A2 t2)
  simp only [World.size_alloc] at h
  have h2 := (Below.heap_alloc ((w.alloc (.cells A1 t1)).alloc (.cells A2 t2)) (.cells A3 t3) (w.heap.size + 1) (by simp)).trans h
  simp only [World.cell?, h2]; simp
theorem al1 (w : World) (A1 A2 A3 : Array Value) (t1 t2 t3 : TypeId) (i : Nat) : (((w.alloc (.cells A1 t1)).alloc (.cells A2 t2)).alloc (.cells A3 t3)).cell? ⟨w.heap.size, i, none⟩ = A1[i]? := by
  have h := heap_alloc_new w (.cells A1 t1)
  have h1 := (Below.heap_alloc (w.alloc (.cells A1 t1)) (.cells A2 t2) w.heap.size (by simp)).trans h
  have h2 := (Below.heap_alloc ((w.alloc (.cells A1 t1)).alloc (.cells A2 t2)) (.cells A3 t3) w.heap.size (by simp; omega)).trans h1
  simp only [World.cell?, h2]; simp

set_option maxHeartbeats 1600000 in
theorem step_any (B G R C r c N a : Nat) (w : World) (hB0 : 0 < B) (hN : R * C = N) (hR : R ≤ 24) (hC : C ≤ 24) (hr : r < R) (hc : c < C) (ha : a < 4) (hM : Moves w) (hBf : Before B G R C r c N w) :
    Calls Ybaf.prog 5 #[.pointer (some ⟨G, 0, none⟩), .agg #[.int .i64 a, .slice none 0 0]] w fun e w' => ∃ O, e = .returned (.slice (some ⟨O, 0, none⟩) N N) ∧
      Gd B G R C (nx R C r c a).1 (nx R C r c a).2 N O ((nx R C r c a).1 * C + (nx R C r c a).2) (hot ((nx R C r c a).1 * C + (nx R C r c a).2)) w' ∧ Below B w w' := by
  have hs := hBf.s
  have hbase := hs.base
  have hlt := hs.lt
  have HB : Hid (Before B G R C r c N w) := hBf
  have HM : Hid (Moves w) := hM
  have HN : Hid (R * C = N) := hN
  clear hBf hM hN
  go_enter Ybaf.func5, Ybaf.ntmps5
  go_upto_region 3 with fail
  have hbe : Below w.heap.size w (w.alloc (.cells #[.int .i64 a, .slice none 0 0] 34)) := (Below.refl _ _).alloc (Nat.le_refl _) _
  have a0 : (w.alloc (.cells #[.int .i64 a, .slice none 0 0] 34)).cell? ⟨w.heap.size, 0, none⟩ = some (.int .i64 a) := by simp
  have hs1 := hs.later hbe
  have hM1 := Moves.below HM.out (by omega) hbe
  generalize w.alloc (.cells #[.int .i64 a, .slice none 0 0] 34) = W1 at *
  generalize hA : w.heap.size = A at *
  have m0 := (hM1 a ha).1
  have m1 := (hM1 a ha).2
  have g2 := hs1.row
  have g3 := hs1.col
  have i0 : (0 : Int) ≤ (a : Int) := by omega
  have i1 : (a : Int) < 4 := by omega
  have n0 := World.new_ne W1 _ m0
  have n1 := World.new_ne W1 _ a0
  have n2 := World.new_ne W1 _ g2
  have t0 := cell_alloc3 a0
  have t1 := cell_alloc3 m0
  have t2 := cell_alloc3 m1
  have t3 := cell_alloc3 g2
  have t4 := cell_alloc3 g3
  clear hs hs1 hM1 HM
  go_cut [5, 6] (fun s5 s6 wx => ∃ p5 p6, s5 = .pointer (some ⟨p5, 0, none⟩) ∧ s6 = .pointer (some ⟨p6, 0, none⟩) ∧ wx.cell? ⟨p5, 0, none⟩ = some (.int .i64 r) ∧ wx.cell? ⟨p5, 1, none⟩ = some (.int .i64 c) ∧
    wx.cell? ⟨p6, 0, none⟩ = some (.int .i64 (mv a).1) ∧ wx.cell? ⟨p6, 1, none⟩ = some (.int .i64 (mv a).2) ∧ Below W1.heap.size W1 wx)
  case first =>
    go_region_held3 (fun w' => w'.cell? ⟨A, 0, none⟩ = some (.int .i64 a) ∧ w'.cell? ⟨0, a * 2, none⟩ = some (.int .i64 (mv a).1) ∧ w'.cell? ⟨0, a * 2 + 1, none⟩ = some (.int .i64 (mv a).2) ∧ w'.cell? ⟨G, 2, none⟩ = some (.float .f64 (fl r)) ∧ w'.cell? ⟨G, 3, none⟩ = some (.float .f64 (fl c))) (go_keep)
      ((go_at_call 8; refine (at_is G r c _ (by omega) (by omega) ?_ ?_).mono ?_; (simp [*]); (simp [*]); rintro e w' ⟨rfl, rfl⟩))
    all_goals
      go_wp2
      go_meet
      case rel => exact ⟨_, _, rfl, rfl, by first | exact al3 _ _ _ _ _ _ _ _ | exact al2 _ _ _ _ _ _ _ _ | exact al1 _ _ _ _ _ _ _ _, by first | exact al3 _ _ _ _ _ _ _ _ | exact al2 _ _ _ _ _ _ _ _ | exact al1 _ _ _ _ _ _ _ _, by first | exact al3 _ _ _ _ _ _ _ _ | exact al2 _ _ _ _ _ _ _ _ | exact al1 _ _ _ _ _ _ _ _, by first | exact al3 _ _ _ _ _ _ _ _ | exact al2 _ _ _ _ _ _ _ _ | exact al1 _ _ _ _ _ _ _ _, (((((Below.refl _ _).alloc (Nat.le_refl _) _).alloc (by simp) _).alloc (by simp; omega) _).drew).drew⟩
  case rest =>
    obtain ⟨p5, p6, rfl, rfl, q0, q1, q2, q3, hb5⟩ := hcut
    clear t0 t1 t2 t3 t4 m0 m1 g2 g3 n0 n1 n2 a0
    have hbw : Below A w wc := hbe.trans (hb5.mono (by have := hbe.size; omega))
    have hBf : Before B G R C r c N wc := Before.later HB.out (by rw [hA]; exact hbw)
    have hs := hBf.s
    clear hb5 hbe HB
    have d1 : -1 ≤ (mv a).1 ∧ (mv a).1 ≤ 1 := mv_fst a
    have d2 : -1 ≤ (mv a).2 ∧ (mv a).2 ≤ 1 := mv_snd a
    have HNX : Hid (nx R C r c a = if inB R C (r + (mv a).1) (c + (mv a).2) then ((r + (mv a).1).toNat, (c + (mv a).2).toNat) else (r, c)) := rfl
    generalize (mv a).1 = dx at *
    generalize (mv a).2 = dy at *
    obtain ⟨d1, d1'⟩ := d1
    obtain ⟨d2, d2'⟩ := d2
    by_cases hin : inB R C (r + dx) (c + dy) = true
    · have hin' : 0 ≤ (r : Int) + dx ∧ (r : Int) + dx < R ∧ 0 ≤ (c : Int) + dy ∧ (c : Int) + dy < C := by simpa [inB] using hin
      obtain ⟨r', e1⟩ := Int.eq_ofNat_of_zero_le hin'.1
      obtain ⟨c', e2⟩ := Int.eq_ofNat_of_zero_le hin'.2.2.1
      have he : nx R C r c a = (r', c') := by
        have := HNX.out
        rw [if_pos hin, e1, e2] at this
        simpa using this
      have HE : Hid (nx R C r c a = (r', c')) := he
      clear he
      have hr' : r' < R := by omega
      have hc' : c' < C := by omega
      rw [e1, e2] at hin
      clear hin' HNX
      have HBF : Hid (Before B G R C r c N wc) := hBf
      clear hBf
      have hs7 := hs.later ((Below.refl _ _).alloc (Nat.le_refl _) (.cells #[.int .i64 r', .int .i64 c'] 39))
      go_wp2_with fail
      refine (contains_any G R C r' c' _ hs7.lt hs7.rows hs7.cols).mono ?_
      rintro e w4 ⟨rfl, hb4⟩
      rw [hin]
      have z0 : w4.cell? ⟨wc.heap.size, 0, none⟩ = some (.int .i64 r') := (hb4.cell (p := ⟨wc.heap.size, 0, none⟩) (by simp)).trans (by simp)
      have z1 : w4.cell? ⟨wc.heap.size, 1, none⟩ = some (.int .i64 c') := (hb4.cell (p := ⟨wc.heap.size, 1, none⟩) (by simp)).trans (by simp)
      have hs4 := hs7.later hb4
      have g2 := hs4.row
      have g3 := hs4.col
      have gf := hs4.fz
      clear q0 q1 q2 q3 hs7 hs
      go_wp2_with fail
      have hB4 : Before B G R C r c N w4 := Before.later (Before.later HBF.out ((Below.refl _ _).alloc (Nat.le_refl _) _)) hb4
      have hbw4 : Below B w w4 := ((hbw.mono (by omega)).alloc (by have := hbw.size; omega) _).trans (hb4.mono (by have := hbw.size; simp; omega))
      refine (obs_any B G R C r' c' N _ HN.out hR hC hr' hc' (hB4.move r' c')).mono ?_
      rintro e w5 ⟨O, rfl, hd5, hb5⟩
      have HD5 : Hid (Gd B G R C r' c' N O (r' * C + c') (hot (r' * C + c')) w5) := hd5
      clear hd5 hB4 hs4
      go_wp2
      go_ret
      rw [HE.out]
      exact ⟨O, rfl, HD5.out, ((hbw4.setCell (by exact hbase) _).setCell (by exact hbase) _).trans hb5⟩
    · have hin2 : inB R C (r + dx) (c + dy) = false := by simpa using hin
      have he : nx R C r c a = (r, c) := by
        have := HNX.out
        rw [if_neg hin] at this
        exact this
      have HE : Hid (nx R C r c a = (r, c)) := he
      clear he HNX hin
      have HBF : Hid (Before B G R C r c N wc) := hBf
      clear hBf
      have hs7 := hs.later ((Below.refl _ _).alloc (Nat.le_refl _) (.cells #[.int .i64 (r + dx), .int .i64 (c + dy)] 39))
      go_wp2_with fail
      refine (contains_any G R C (r + dx) (c + dy) _ hs7.lt hs7.rows hs7.cols).mono ?_
      rintro e w4 ⟨rfl, hb4⟩
      rw [hin2]
      clear q0 q1 q2 q3 hs7 hs
      go_wp2_with fail
      have hB4 : Before B G R C r c N w4 := Before.later (Before.later HBF.out ((Below.refl _ _).alloc (Nat.le_refl _) _)) hb4
      have hbw4 : Below B w w4 := ((hbw.mono (by omega)).alloc (by have := hbw.size; omega) _).trans (hb4.mono (by have := hbw.size; simp; omega))
      refine (obs_any B G R C r c N _ HN.out hR hC hr hc hB4).mono ?_
      rintro e w5 ⟨O, rfl, hd5, hb5⟩
      have HD5 : Hid (Gd B G R C r c N O (r * C + c) (hot (r * C + c)) w5) := hd5
      clear hd5 hB4
      go_wp2
      go_ret
      rw [HE.out]
      exact ⟨O, rfl, HD5.out, hbw4.trans hb5⟩
end Go.Proofs.YbulkbzamFmt
