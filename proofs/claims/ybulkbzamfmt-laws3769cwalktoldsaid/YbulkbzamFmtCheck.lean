/-
  OWN WORK. THE WALK of zzs3769ccheck: true, of a grid that shows the agent at (r, c).
-/
import Derived.Test.YbulkbzamFmtStep
import Derived.LaidEqlPtr
namespace Go.Proofs.YbulkbzamFmt
open Go.RowKit

theorem one_same : (FloatKind.f64.format.order 4607182418800017408 4607182418800017408 != some .eq) = false := by decide +kernel
theorem zero_same : (FloatKind.f64.format.order 0 0 != some .eq) = false := by decide +kernel

theorem neq_same47 (a : Addr) (w : World) : (binOp .neq 47 (.pointer (some a)) (.pointer (some a))).run Ybaf.prog w = .ok (.bool false) w := by
  have hi : (Ybaf.prog.info? 24).isSome = true := by kernel_rfl
  obtain ⟨i, hi⟩ := Option.isSome_iff_exists.1 hi
  have h : ∀ d : Nat, (Op.equalIn (d + 1) 47 (.pointer (some a)) (.pointer (some a))).run Ybaf.prog w = .ok true w := fun d => by
    simp [Op.equalIn, run_underlying Ybaf.underlying47, sizeOf, typeInfo, hi, sameAddr]
  simp only [binOp]
  simp [Op.equal, Op.maxDepth, h 9999]

set_option maxRecDepth 20000 in
set_option maxHeartbeats 1600000 in
theorem check_true (B G R C r c N O : Nat) (w : World) (hN : R * C = N) (hR : R ≤ 24) (hC : C ≤ 24) (hr : r < R) (hc : c < C) (hd : Gd B G R C r c N O (r * C + c) (hot (r * C + c)) w) :
    Calls Ybaf.prog 6 #[.pointer (some ⟨G, 0, none⟩), .slice (some ⟨O, 0, none⟩) N N, .int .i64 R, .int .i64 C, .int .i64 r, .int .i64 c] w fun e w' => e = .returned (.bool true) ∧ ∃ q, w' = w.drewN q := by
  have hm : N ≤ 576 := by rw [← hN]; exact Nat.le_trans (Nat.mul_le_mul hR hC) (by omega)
  have hidx : r * C + c < N := by
    have h1 : (r + 1) * C ≤ R * C := Nat.mul_le_mul_right C (by omega)
    have h2 : (r + 1) * C = r * C + C := Nat.succ_mul r C
    omega
  have b2 : IntKind.i64.wrap ((R : Int) * C) = (N : Int) := by rw [← Int.natCast_mul, hN, IntKind.wrap_i64]; omega
  obtain ⟨L, hL⟩ : ∃ L, L = r * C + c := ⟨_, rfl⟩
  have hLN : L < N := by omega
  have b3 : IntKind.i64.wrap ((r : Int) * C) = (r : Int) * C := by
    have e : (r : Int) * C = ((r * C : Nat) : Int) := by simp
    rw [e, IntKind.wrap_i64]; omega
  have b4 : IntKind.i64.wrap ((r : Int) * C + c) = (L : Int) := by
    have e : (r : Int) * C + c = ((r * C + c : Nat) : Int) := by simp
    rw [e, ← hL, IntKind.wrap_i64]; omega
  rw [← hL] at hd
  clear hL hN hidx
  have g0 := hd.s.rows
  have g1 := hd.s.cols
  have g2 : w.cell? ⟨G, 2, none⟩ = some (.float .f64 (floatOfInt .f64 r)) := hd.s.row
  have g3 : w.cell? ⟨G, 3, none⟩ = some (.float .f64 (floatOfInt .f64 c)) := hd.s.col
  have f2 : (FloatKind.f64.format.order (floatOfInt .f64 r) (floatOfInt .f64 r) != some .eq) = false := fl_same r (by omega)
  have f3 : (FloatKind.f64.format.order (floatOfInt .f64 c) (floatOfInt .f64 c) != some .eq) = false := fl_same c (by omega)
  have g4 := hd.obs
  have g5 := hd.lit
  have HV : Hid (∀ i, i < N → w.cell? ⟨O, i, none⟩ = some (.float .f64 (hot L i))) := hd.vals
  clear hd
  go_enter Ybaf.func6, Ybaf.ntmps6
  go_wp2_with fail
  refine (state_any G _).mono ?_
  rintro e w1 ⟨rfl, rfl⟩
  go_wp2_with fail
  clear g0 g1 g2 g3 f2 f3 b2 b3 b4
  have f1 := one_same
  have f0 := zero_same
  have hnq := neq_same47
  go_loop [15] (fun i => ∃ k : Nat, k ≤ N ∧ i = .int .i64 k) (fun i => N - (intOf i).toNat)
  case atStart => exact ⟨0, Nat.zero_le _, rfl⟩
  case round =>
    obtain ⟨k, hk, rfl⟩ := hrel
    by_cases hlt : k < N
    · have gv := HV.out k hlt
      by_cases hkL : k = L
      · have gv1 : w1.cell? ⟨O, k, none⟩ = some (.float .f64 4607182418800017408) := by rw [gv]; simp [hot, hkL, one]
        have hk' : ((k : Int) == L) = true := by simp [hkL]
        clear gv hkL
        go_wp2
        go_round
        case rel => exact ⟨k + 1, by omega, by go_num⟩
        case measure => simp [intOf]; omega
      · have gv1 : w1.cell? ⟨O, k, none⟩ = some (.float .f64 0) := by rw [gv]; simp [hot, hkL]
        have hk' : ((k : Int) == L) = false := by simp; omega
        clear gv
        go_wp2
        go_round
        case rel => exact ⟨k + 1, by omega, by go_num⟩
        case measure => simp [intOf]; omega
    · go_wp2_with fail
      refine (sparse_any G (some ⟨O, 0, none⟩) N N _ g4).mono ?_
      rintro e w2 ⟨rfl, q, rfl⟩
      have hN0 : (0 : Int) < (N : Int) := by omega
      go_upto_region 20 with fail
      go_quiet (fail)
      go_wp2
      go_ret
      exact ⟨rfl, q + nq, by rw [World.drewN_drewN]⟩
end Go.Proofs.YbulkbzamFmt
