/-
  OWN WORK. Small walks of package gridworld: the law's table of moves, (*Grid).at, contains, State, Sparse; the facts on floats that they lean on.
-/
import Derived.Test.YbulkbzamFmtRows
import Derived.WalkKit
import Derived.WalkSpells
import Derived.WalkSmall
import Derived.WalkLawsBesides
import Derived.Laws.Cover2
import Derived.Laws.FloatArith
import Derived.Deep.QuietTactic
import Derived.BigQuiet
import Derived.Deep.DeepCutAuto
import Derived.Deep.RegionHeld3
import Derived.Deep.OwnRows
namespace Go.Proofs.YbulkbzamFmt
open Go.RowKit

/-- A float is stored as any other value of one cell (the kit has this law for integers, bools, pointers, slices, strings). -/
theorem run_store_float {P : Program} {w : World} {a : Addr} {m : Mode} (k : FloatKind) (b : Nat) : (store a (.float k b) m).run P w = stored P w a (.float k b) m := run_store P w a _ m rfl

/-- float64(n), as bits. -/
def fl (n : Nat) : Nat := floatOfInt .f64 n
theorem fl_back (n : Nat) (h : n < 24) : floatToIntVal .f64 (fl n) .i64 = some (n : Int) := by
  have : ∀ i : Fin 24, floatToIntVal .f64 (fl i.val) .i64 = some (i.val : Int) := by decide +kernel
  exact this ⟨n, h⟩
theorem fl_same (n : Nat) (h : n < 24) : (FloatKind.f64.format.order (fl n) (fl n) != some .eq) = false := by
  have : ∀ i : Fin 24, (FloatKind.f64.format.order (fl i.val) (fl i.val) != some .eq) = false := by decide +kernel
  exact this ⟨n, h⟩

/-- The row and the column of action a. -/
def mv (a : Nat) : Int × Int := if a = 0 then (-1, 0) else if a = 1 then (0, 1) else if a = 2 then (1, 0) else (0, -1)

theorem move_any (a : Nat) (w : World) :
    Calls Ybaf.prog 4 #[.int .i64 a] w fun e w' => e = .returned (.tuple #[.int .i64 (mv a).1, .int .i64 (mv a).2]) ∧ w' = w := by
  by_cases h0 : a = 0
  · subst h0
    go_enter Ybaf.func4, Ybaf.ntmps4
    go_wp2
    go_ret2
    exact ⟨rfl, rfl⟩
  · have h0' : ((a : Int) == 0) = false := by simp [h0]
    by_cases h1 : a = 1
    · subst h1
      go_enter Ybaf.func4, Ybaf.ntmps4
      go_wp2
      go_ret2
      exact ⟨rfl, rfl⟩
    · have h1' : ((a : Int) == 1) = false := by simp; omega
      by_cases h2 : a = 2
      · subst h2
        go_enter Ybaf.func4, Ybaf.ntmps4
        go_wp2
        go_ret2
        exact ⟨rfl, rfl⟩
      · have h2' : ((a : Int) == 2) = false := by simp; omega
        go_enter Ybaf.func4, Ybaf.ntmps4
        go_wp2
        go_ret2
        exact ⟨by simp [mv, h0, h1, h2], rfl⟩

set_option maxHeartbeats 800000 in
/-- (*Grid).at: the agent's cell, out of the state's floats. -/
theorem at_is (G r c : Nat) (w : World) (hr : r < 24) (hc : c < 24) (h2 : w.cell? ⟨G, 2, none⟩ = some (.float .f64 (fl r))) (h3 : w.cell? ⟨G, 3, none⟩ = some (.float .f64 (fl c))) :
    Calls Ybaf.prog 8 #[.pointer (some ⟨G, 0, none⟩)] w fun e w' => e = .returned (.agg #[.int .i64 r, .int .i64 c]) ∧ w' = (w.alloc (.cells #[.int .i64 r, .int .i64 c] 39)).drew := by
  have c1 := fun w => run_convert_float_int (P := Ybaf.prog) w 24 3 .f64 .i64 (fl r) r (by kernel_rfl) Ybaf.underlying3 (fl_back r hr)
  have c2 := fun w => run_convert_float_int (P := Ybaf.prog) w 24 3 .f64 .i64 (fl c) c (by kernel_rfl) Ybaf.underlying3 (fl_back c hc)
  have n2 := World.new_ne w _ h2
  go_enter Ybaf.func8, Ybaf.ntmps8
  go_wp2
  go_region_held3 (fun w' => w'.cell? ⟨G, 2, none⟩ = some (.float .f64 (fl r)) ∧ w'.cell? ⟨G, 3, none⟩ = some (.float .f64 (fl c))) (go_keep) (fail)
  go_wp2
  refine bodyPost_ret (v := .agg #[.int .i64 r, .int .i64 c]) (by simp [results, Ybaf.results8, go_sem]) rfl ⟨rfl, rfl⟩

theorem at_any (G r c : Nat) (w : World) (hr : r < 24) (hc : c < 24) (h2 : w.cell? ⟨G, 2, none⟩ = some (.float .f64 (fl r))) (h3 : w.cell? ⟨G, 3, none⟩ = some (.float .f64 (fl c))) :
    Calls Ybaf.prog 8 #[.pointer (some ⟨G, 0, none⟩)] w fun e w' => e = .returned (.agg #[.int .i64 r, .int .i64 c]) ∧ Below w.heap.size w w' :=
  (at_is G r c w hr hc h2 h3).mono fun _ _ ⟨he, hw⟩ => ⟨he, hw ▸ ((Below.refl _ _).alloc (Nat.le_refl _) _).drew⟩

/-- Is (x, y) a cell of the grid? -/
def inB (R C x y : Int) : Bool := decide (0 ≤ x ∧ x < R ∧ 0 ≤ y ∧ y < C)

theorem inB_true {R C x y : Int} (h : 0 ≤ x ∧ x < R ∧ 0 ≤ y ∧ y < C) : true = inB R C x y := by simp [inB, h]
theorem inB_false {R C x y : Int} (h : ¬ (0 ≤ x ∧ x < R ∧ 0 ≤ y ∧ y < C)) : false = inB R C x y := (decide_eq_false h).symm

set_option maxHeartbeats 1600000 in
/-- (*Grid).contains. -/
theorem contains_any (G : Nat) (R C x y : Int) (w : World) (hG : G < w.heap.size) (h0 : w.cell? ⟨G, 0, none⟩ = some (.int .i64 R)) (h1 : w.cell? ⟨G, 1, none⟩ = some (.int .i64 C)) :
    Calls Ybaf.prog 9 #[.pointer (some ⟨G, 0, none⟩), .agg #[.int .i64 x, .int .i64 y]] w fun e w' => e = .returned (.bool (inB R C x y)) ∧ Below w.heap.size w w' := by
  have n0 := World.new_ne w _ h0
  have k0 : ∀ o, (w.alloc o).cell? ⟨G, 0, none⟩ = some (.int .i64 R) := fun o => (World.cell?_alloc_past _ _ _ hG).trans h0
  have k1 : ∀ o, (w.alloc o).cell? ⟨G, 1, none⟩ = some (.int .i64 C) := fun o => (World.cell?_alloc_past _ _ _ hG).trans h1
  have fin : ∀ (b : Bool), b = inB R C x y → ∀ q, (Ending.returned (.bool b) = Ending.returned (.bool (inB R C x y)) ∧ Below w.heap.size w ((w.alloc (.cells #[.int .i64 x, .int .i64 y] 39)).drewN q)) :=
    fun b hb q => ⟨by rw [hb], below_drewN ((Below.refl _ _).alloc (Nat.le_refl _) _) q⟩
  have FIN : Hid _ := fin
  clear fin h0 h1
  by_cases hx0 : 0 ≤ x
  · by_cases hxR : x < R
    · by_cases hy0 : 0 ≤ y
      · by_cases hyC : y < C
        · go_enter Ybaf.func9, Ybaf.ntmps9
          go_wp2
          go_quiet (fail)
          go_wp2
          go_ret
          exact FIN.out _ (inB_true (by omega)) _
        · have d : decide (y < C) = false := by simpa using hyC
          go_enter Ybaf.func9, Ybaf.ntmps9
          go_wp2
          go_quiet (fail)
          go_wp2
          go_ret
          exact FIN.out _ (inB_false (by omega)) _
      · have d : decide (0 ≤ y) = false := by simpa using hy0
        go_enter Ybaf.func9, Ybaf.ntmps9
        go_wp2
        go_quiet (fail)
        go_wp2
        go_ret
        exact FIN.out _ (inB_false (by omega)) _
    · have d : decide (x < R) = false := by simpa using hxR
      go_enter Ybaf.func9, Ybaf.ntmps9
      go_wp2
      go_quiet (fail)
      go_wp2
      go_ret
      exact FIN.out _ (inB_false (by omega)) _
  · have d : decide (0 ≤ x) = false := by simpa using hx0
    go_enter Ybaf.func9, Ybaf.ntmps9
    go_wp2
    go_quiet (fail)
    go_wp2
    go_ret
    exact FIN.out _ (inB_false (by omega)) _

theorem state_any (G : Nat) (w : World) :
    Calls Ybaf.prog 11 #[.pointer (some ⟨G, 0, none⟩)] w fun e w' => e = .returned (.slice (some ⟨G, 2, none⟩) 2 2) ∧ w' = w := by
  go_enter Ybaf.func11, Ybaf.ntmps11
  go_wp2
  go_ret
  exact ⟨rfl, rfl⟩

theorem sparse_any (G : Nat) (a : Option Addr) (n c : Nat) (w : World) (h4 : w.cell? ⟨G, 4, none⟩ = some (.slice a n c)) :
    Calls Ybaf.prog 12 #[.pointer (some ⟨G, 0, none⟩)] w fun e w' => e = .returned (.tuple #[.slice a n c, .slice (some ⟨G, 5, none⟩) 1 1]) ∧ ∃ q, w' = w.drewN q := by
  go_enter Ybaf.func12, Ybaf.ntmps12
  go_wp2
  go_quiet (fail)
  go_wp2
  go_ret2
  exact ⟨rfl, _, rfl⟩
end Go.Proofs.YbulkbzamFmt
