/-
  OWN WORK. THE WALK of the laws' own model where it says no.
-/
import Derived.Test.YbulkbzbaFmtModel
namespace Go.Proofs.YbulkbzbaFmt
open Go.RowKit
set_option linter.unusedSimpArgs false

set_option maxRecDepth 20000 in
set_option maxHeartbeats 3200000 in
theorem model_late (s p r f z sec flags root : Int) (h : Fits s p r f z sec flags root) (g1 : 512 ≤ s) (g2 : s ≤ 4096) (g3 : bits .and .i64 s (s - 1) = 0) (g4 : ¬ p = 0) (g5 : bits .and .i64 p (p - 1) = 0) (g6 : ¬ r = 0) (g7 : ¬ f = 0) (g8 : ¬ z = 0) (g9 : dsOf r f z + p ≤ sec) (g : ¬ ((bits .and .u16 flags 128 = 0 ∨ bits .and .u16 flags 15 < f) ∧ 2 ≤ bits .and .u32 root 268435455 ∧ bits .and .u32 root 268435455 ≤ clu s p r f z sec + 1)) (w : World) :
    Calls Ybaf.prog 10 #[.int .i64 s, .int .i64 p, .int .i64 r, .int .i64 f, .int .i64 z, .int .i64 sec, .int .u16 flags, .int .u32 root] w fun e w' =>
      (∃ x0 x1 x2 x3 x4 x5 : Int, e = .returned (.tuple #[.agg #[.int .i64 x0, .int .i64 x1, .int .i64 x2, .int .i64 x3, .int .u32 x4, .int .u32 x5], .bool false])) ∧ Below w.heap.size w w' := by
  obtain ⟨q, sp, rs, ds, zs, c1, a, az, azs, b8, rt, N⟩ := nums h
  obtain ⟨hs, hp, hr, hf, hz, hc, hg, ht⟩ := h
  obtain ⟨hq, hq1, hsp, hrs, hrs1, hds, hzs, hzs1, hc1, hc2, ha, ha1, haz, hazs, hazs1, hb8, hrt, hrt1, eq, esp, ers, eds, ezs, ec1, eaz⟩ := N
  simp only [clu, dsOf, fatOf, ← eq, ← ezs, ← ers, ← esp, ← eds, ha, hb8, hrt, ← eaz] at g9 g
  have k9 : r + q ≤ sec := by omega
  have hzs2 : 512 ≤ zs := by
    rw [ezs]
    have : 1 * 512 ≤ z * s := Int.mul_le_mul (by omega) (by omega) (by omega) (by omega)
    omega
  replace hc1 := hc1 k9
  replace hc2 := hc2 k9
  replace ec1 := ec1 k9
  simp only [← ec1] at g
  have t1 : decide (s < 512) = false := by simp; omega
  have t2 : decide (4096 < s) = false := by simp; omega
  have t3 : (r == 0) = false := by simp [g6]
  have t4 : (f == 0) = false := by simp [g7]
  have t5 : (z == 0) = false := by simp [g8]
  have t6 : decide (sec < r + q + p) = false := by simp; omega
  clear eq esp ers eds ezs ec1 eaz
  obtain ⟨C, hC⟩ : ∃ C, min (min c1 (zs / 4 - 2)) 268435445 = C := ⟨_, rfl⟩
  simp only [hC] at g
  have G : Hid _ := g
  clear g
  have HC : Hid _ := hC
  clear hC
  have hC0 : 0 ≤ C ∧ C ≤ 268435445 := by have := HC.out; omega
  clear hzs2
  go_enter Ybaf.func10, Ybaf.ntmps10
  go_upto_region 13 with fail
  go_cut [20] (fun s20 wx => s20 = .int .i64 c1 ∧ wx = (w.alloc (.cells #[.int .i64 0, .int .i64 0, .int .i64 0, .int .i64 0, .int .u32 0, .int .u32 0] 64)).alloc (.cells #[.int .i64 0, .int .i64 0, .int .i64 0, .int .i64 0, .int .u32 0, .int .u32 0] 64))
  case first =>
    go_wp2
    go_meet
    case rel => exact ⟨rfl, rfl⟩
  case rest =>
    obtain ⟨rfl, hwc⟩ := hcut
    apply_assumption
    refine wp_seq_k fun K hK => ?_
    go_cut [20] (fun s20 wx => s20 = .int .i64 (min c1 (zs / 4 - 2)) ∧ wx = wc)
    case first =>
      by_cases k : zs / 4 - 2 < c1
      · go_wp2
        go_meet
        case rel => exact ⟨by congr 1; omega, hwc.symm⟩
      · go_wp2
        go_meet
        case rel => exact ⟨by congr 1; omega, hwc.symm⟩
    case rest =>
      obtain ⟨rfl, rfl⟩ := hcut
      apply_assumption
      refine wp_seq_k fun K hK => ?_
      go_cut [20] (fun s20 wx => s20 = .int .i64 C ∧ wx = wc)
      case first =>
        have hC := HC.out
        by_cases k : 268435445 < min c1 (zs / 4 - 2)
        · obtain rfl : C = 268435445 := by omega
          have k' : decide (268435445 < min c1 (zs / 4 - 2)) = true := by simp only [k, decide_true]
          go_wp2
          go_meet
          case rel => exact ⟨rfl, hwc.symm⟩
        · obtain rfl : C = min c1 (zs / 4 - 2) := by omega
          have k' : decide (268435445 < min c1 (zs / 4 - 2)) = false := by simp only [k, decide_false]
          go_wp2
          go_meet
          case rel => exact ⟨rfl, hwc.symm⟩
      case rest =>
        obtain ⟨rfl, rfl⟩ := hcut
        subst hwc
        have fin := fun (v0 v1 v2 v3 v4 v5 : Int) (o1 o2 : Obj) => (⟨⟨v0, v1, v2, v3, v4, v5, rfl⟩, ((Below.refl _ _).alloc (Nat.le_refl _) _).alloc (by simp) _⟩ : (∃ x0 x1 x2 x3 x4 x5 : Int, Ending.returned (.tuple #[.agg #[.int .i64 v0, .int .i64 v1, .int .i64 v2, .int .i64 v3, .int .u32 v4, .int .u32 v5], .bool false]) = .returned (.tuple #[.agg #[.int .i64 x0, .int .i64 x1, .int .i64 x2, .int .i64 x3, .int .u32 x4, .int .u32 x5], .bool false])) ∧ Below w.heap.size w ((w.alloc o1).alloc o2))
        have FIN : Hid _ := fin
        clear fin
        by_cases hb : b8 = 0
        · have e0 : (b8 != 0) = false := by simp [hb]
          by_cases h2 : rt < 2
          · have u1 : decide (rt < 2) = true := by simp [h2]
            go_wp2
            exact bodyPost_ret (v := .tuple #[.agg #[.int .i64 s, .int .i64 sp, .int .i64 rs, .int .i64 ds, .int .u32 (C + 1), .int .u32 rt], .bool false]) (by simp [results, Ybaf.results10, go_sem]) rfl (FIN.out _ _ _ _ _ _ _ _)
          · have u1 : decide (rt < 2) = false := by simp; omega
            have u2 : decide (C + 1 < rt) = true := by
              have : ¬ (2 ≤ rt ∧ rt ≤ C + 1) := fun h => G.out ⟨.inl hb, h⟩
              simp; omega
            go_wp2
            exact bodyPost_ret (v := .tuple #[.agg #[.int .i64 s, .int .i64 sp, .int .i64 rs, .int .i64 ds, .int .u32 (C + 1), .int .u32 rt], .bool false]) (by simp [results, Ybaf.results10, go_sem]) rfl (FIN.out _ _ _ _ _ _ _ _)
        · have e0 : (b8 != 0) = true := by simp [hb]
          by_cases e1 : a < f
          · have e2 : decide (f ≤ a) = false := by simp; omega
            by_cases h2 : rt < 2
            · have u1 : decide (rt < 2) = true := by simp [h2]
              go_wp2
              exact bodyPost_ret (v := .tuple #[.agg #[.int .i64 s, .int .i64 sp, .int .i64 (rs + azs), .int .i64 ds, .int .u32 (C + 1), .int .u32 rt], .bool false]) (by simp [results, Ybaf.results10, go_sem]) rfl (FIN.out _ _ _ _ _ _ _ _)
            · have u1 : decide (rt < 2) = false := by simp; omega
              have u2 : decide (C + 1 < rt) = true := by
                have : ¬ (2 ≤ rt ∧ rt ≤ C + 1) := fun h => G.out ⟨.inr e1, h⟩
                simp; omega
              go_wp2
              exact bodyPost_ret (v := .tuple #[.agg #[.int .i64 s, .int .i64 sp, .int .i64 (rs + azs), .int .i64 ds, .int .u32 (C + 1), .int .u32 rt], .bool false]) (by simp [results, Ybaf.results10, go_sem]) rfl (FIN.out _ _ _ _ _ _ _ _)
          · have e2 : decide (f ≤ a) = true := by simp; omega
            go_wp2
            exact bodyPost_ret (v := .tuple #[.agg #[.int .i64 s, .int .i64 sp, .int .i64 rs, .int .i64 ds, .int .u32 (C + 1), .int .u32 rt], .bool false]) (by simp [results, Ybaf.results10, go_sem]) rfl (FIN.out _ _ _ _ _ _ _ _)

set_option maxRecDepth 20000 in
set_option maxHeartbeats 3200000 in
theorem model_early (s p r f z sec flags root : Int) (h : Fits s p r f z sec flags root) (g1 : 512 ≤ s) (g2 : s ≤ 4096) (g : ¬ (bits .and .i64 s (s - 1) = 0 ∧ ¬ p = 0 ∧ bits .and .i64 p (p - 1) = 0 ∧ ¬ r = 0 ∧ ¬ f = 0 ∧ ¬ z = 0 ∧ dsOf r f z + p ≤ sec)) (w : World) :
    Calls Ybaf.prog 10 #[.int .i64 s, .int .i64 p, .int .i64 r, .int .i64 f, .int .i64 z, .int .i64 sec, .int .u16 flags, .int .u32 root] w fun e w' =>
      (∃ x0 x1 x2 x3 x4 x5 : Int, e = .returned (.tuple #[.agg #[.int .i64 x0, .int .i64 x1, .int .i64 x2, .int .i64 x3, .int .u32 x4, .int .u32 x5], .bool false])) ∧ Below w.heap.size w w' := by
  obtain ⟨q, sp, rs, ds, zs, c1, a, az, azs, b8, rt, N⟩ := nums h
  obtain ⟨hs, hp, hr, hf, hz, hc, hg, ht⟩ := h
  obtain ⟨hq, hq1, hsp, hrs, hrs1, hds, hzs, hzs1, hc1, hc2, ha, ha1, haz, hazs, hazs1, hb8, hrt, hrt1, eq, esp, ers, eds, ezs, ec1, eaz⟩ := N
  simp only [dsOf, ← eq] at g
  clear hsp hrs hrs1 hds hzs hzs1 hc1 hc2 ha ha1 haz hazs hazs1 hb8 hrt hrt1 eq esp ers eds ezs ec1 eaz
  have t1 : decide (s < 512) = false := by simp; omega
  have t2 : decide (4096 < s) = false := by simp; omega
  have fin := fun (v0 v1 v2 v3 v4 v5 : Int) (o1 o2 : Obj) => (⟨⟨v0, v1, v2, v3, v4, v5, rfl⟩, ((Below.refl _ _).alloc (Nat.le_refl _) _).alloc (by simp) _⟩ : (∃ x0 x1 x2 x3 x4 x5 : Int, Ending.returned (.tuple #[.agg #[.int .i64 v0, .int .i64 v1, .int .i64 v2, .int .i64 v3, .int .u32 v4, .int .u32 v5], .bool false]) = .returned (.tuple #[.agg #[.int .i64 x0, .int .i64 x1, .int .i64 x2, .int .i64 x3, .int .u32 x4, .int .u32 x5], .bool false])) ∧ Below w.heap.size w ((w.alloc o1).alloc o2))
  have FIN : Hid _ := fin
  have G : Hid _ := g
  clear fin g
  by_cases k1 : bits .and .i64 s (s - 1) = 0
  · by_cases k2 : p = 0
    · have t3 : (p == 0) = true := by simp [k2]
      go_enter Ybaf.func10, Ybaf.ntmps10
      go_wp2
      exact bodyPost_ret (v := .tuple #[.agg #[.int .i64 0, .int .i64 0, .int .i64 0, .int .i64 0, .int .u32 0, .int .u32 0], .bool false]) (by simp [results, Ybaf.results10, go_sem]) rfl (FIN.out _ _ _ _ _ _ _ _)
    · by_cases k3 : bits .and .i64 p (p - 1) = 0
      · by_cases k4 : r = 0
        · have t3 : (r == 0) = true := by simp [k4]
          go_enter Ybaf.func10, Ybaf.ntmps10
          go_wp2
          exact bodyPost_ret (v := .tuple #[.agg #[.int .i64 0, .int .i64 0, .int .i64 0, .int .i64 0, .int .u32 0, .int .u32 0], .bool false]) (by simp [results, Ybaf.results10, go_sem]) rfl (FIN.out _ _ _ _ _ _ _ _)
        · have t3 : (r == 0) = false := by simp [k4]
          by_cases k5 : f = 0
          · have t4 : (f == 0) = true := by simp [k5]
            go_enter Ybaf.func10, Ybaf.ntmps10
            go_wp2
            exact bodyPost_ret (v := .tuple #[.agg #[.int .i64 0, .int .i64 0, .int .i64 0, .int .i64 0, .int .u32 0, .int .u32 0], .bool false]) (by simp [results, Ybaf.results10, go_sem]) rfl (FIN.out _ _ _ _ _ _ _ _)
          · have t4 : (f == 0) = false := by simp [k5]
            by_cases k6 : z = 0
            · have t5 : (z == 0) = true := by simp [k6]
              go_enter Ybaf.func10, Ybaf.ntmps10
              go_wp2
              exact bodyPost_ret (v := .tuple #[.agg #[.int .i64 0, .int .i64 0, .int .i64 0, .int .i64 0, .int .u32 0, .int .u32 0], .bool false]) (by simp [results, Ybaf.results10, go_sem]) rfl (FIN.out _ _ _ _ _ _ _ _)
            · have t5 : (z == 0) = false := by simp [k6]
              have t6 : decide (sec < r + q + p) = true := by
                have : ¬ (r + q + p ≤ sec) := fun h => G.out ⟨k1, k2, k3, k4, k5, k6, h⟩
                simp; omega
              go_enter Ybaf.func10, Ybaf.ntmps10
              go_wp2
              exact bodyPost_ret (v := .tuple #[.agg #[.int .i64 0, .int .i64 0, .int .i64 0, .int .i64 0, .int .u32 0, .int .u32 0], .bool false]) (by simp [results, Ybaf.results10, go_sem]) rfl (FIN.out _ _ _ _ _ _ _ _)
      · have k3' : (bits BinOp.and IntKind.i64 p (p - 1) != 0) = true := by simp [k3]
        go_enter Ybaf.func10, Ybaf.ntmps10
        go_wp2
        exact bodyPost_ret (v := .tuple #[.agg #[.int .i64 0, .int .i64 0, .int .i64 0, .int .i64 0, .int .u32 0, .int .u32 0], .bool false]) (by simp [results, Ybaf.results10, go_sem]) rfl (FIN.out _ _ _ _ _ _ _ _)
  · have k1' : (bits BinOp.and IntKind.i64 s (s - 1) != 0) = true := by simp [k1]
    go_enter Ybaf.func10, Ybaf.ntmps10
    go_wp2
    exact bodyPost_ret (v := .tuple #[.agg #[.int .i64 0, .int .i64 0, .int .i64 0, .int .i64 0, .int .u32 0, .int .u32 0], .bool false]) (by simp [results, Ybaf.results10, go_sem]) rfl (FIN.out _ _ _ _ _ _ _ _)

theorem model_bad (s p r f z sec flags root : Int) (h : Fits s p r f z sec flags root) (g1 : 512 ≤ s) (g2 : s ≤ 4096) (g : ¬ Good s p r f z sec flags root) (w : World) :
    Calls Ybaf.prog 10 #[.int .i64 s, .int .i64 p, .int .i64 r, .int .i64 f, .int .i64 z, .int .i64 sec, .int .u16 flags, .int .u32 root] w fun e w' =>
      (∃ x0 x1 x2 x3 x4 x5 : Int, e = .returned (.tuple #[.agg #[.int .i64 x0, .int .i64 x1, .int .i64 x2, .int .i64 x3, .int .u32 x4, .int .u32 x5], .bool false])) ∧ Below w.heap.size w w' := by
  by_cases k : bits .and .i64 s (s - 1) = 0 ∧ ¬ p = 0 ∧ bits .and .i64 p (p - 1) = 0 ∧ ¬ r = 0 ∧ ¬ f = 0 ∧ ¬ z = 0 ∧ dsOf r f z + p ≤ sec
  · obtain ⟨k1, k2, k3, k4, k5, k6, k7⟩ := k
    exact model_late s p r f z sec flags root h g1 g2 k1 k2 k3 k4 k5 k6 k7 (fun ⟨a, b, c⟩ => g ⟨g1, g2, k1, k2, k3, k4, k5, k6, k7, a, b, c⟩) w
  · exact model_early s p r f z sec flags root h g1 g2 k w
end Go.Proofs.YbulkbzbaFmt
