/-
  OWN WORK. What makes a boot sector a good one, as plain arithmetic; THE WALK of the laws' own model.
-/
import Derived.Test.YbulkbzbaFmtBin
namespace Go.Proofs.YbulkbzbaFmt
open Go.RowKit

theorem mul_in {a b A B : Int} (ha : 0 ≤ a ∧ a ≤ A) (hb : 0 ≤ b ∧ b ≤ B) : 0 ≤ a * b ∧ a * b ≤ A * B :=
  ⟨Int.mul_nonneg ha.1 hb.1, Int.mul_le_mul ha.2 hb.2 hb.1 (by omega)⟩
theorem wrap_in {x : Int} (h : 0 ≤ x ∧ x ≤ 9223372036854775807) : IntKind.i64.wrap x = x := by rw [IntKind.wrap_i64]; omega

/-- Where the data begins. -/
def dsOf (r f z : Int) : Int := r + f * z
/-- The clusters. -/
def clu (s p r f z sec : Int) : Int := min (min ((sec - dsOf r f z) / p) (z * s / 4 - 2)) 268435445
structure Good (s p r f z sec flags root : Int) : Prop where
  s0 : 512 ≤ s
  s1 : s ≤ 4096
  s2 : bits .and .i64 s (s - 1) = 0
  p0 : ¬ p = 0
  p1 : bits .and .i64 p (p - 1) = 0
  r0 : ¬ r = 0
  f0 : ¬ f = 0
  z0 : ¬ z = 0
  d : dsOf r f z + p ≤ sec
  a : bits .and .u16 flags 128 = 0 ∨ bits .and .u16 flags 15 < f
  t0 : 2 ≤ bits .and .u32 root 268435455
  t1 : bits .and .u32 root 268435455 ≤ clu s p r f z sec + 1
def fatOf (s r z flags : Int) : Int := r * s + (if bits .and .u16 flags 128 = 0 then 0 else bits .and .u16 flags 15 * z * s)
/-- What is handed in. -/
structure Fits (s p r f z sec flags root : Int) : Prop where
  s : 0 ≤ s ∧ s ≤ 65535
  p : 0 ≤ p ∧ p ≤ 255
  r : 0 ≤ r ∧ r ≤ 65535
  f : 0 ≤ f ∧ f ≤ 255
  z : 0 ≤ z ∧ z ≤ 65535
  sec : 0 ≤ sec ∧ sec ≤ 4294967295
  flags : 0 ≤ flags ∧ flags ≤ 65535
  root : 0 ≤ root ∧ root ≤ 4294967295

theorem and16 (x k : Int) (h : 0 ≤ x ∧ x ≤ 65535) (hk : 0 ≤ k ∧ k < 65536) : 0 ≤ bits .and .u16 x k ∧ bits .and .u16 x k ≤ k := by
  obtain ⟨m, rfl⟩ := Int.eq_ofNat_of_zero_le h.1
  obtain ⟨n, rfl⟩ := Int.eq_ofNat_of_zero_le hk.1
  rw [u16_and_nat m n (by omega) (by omega)]
  have : m &&& n ≤ n := Nat.and_le_right
  omega
theorem and32 (x k : Int) (h : 0 ≤ x ∧ x ≤ 4294967295) (hk : 0 ≤ k ∧ k < 4294967296) : 0 ≤ bits .and .u32 x k ∧ bits .and .u32 x k ≤ k := by
  obtain ⟨m, rfl⟩ := Int.eq_ofNat_of_zero_le h.1
  obtain ⟨n, rfl⟩ := Int.eq_ofNat_of_zero_le hk.1
  rw [u32_and_nat m n (by omega) (by omega)]
  have : m &&& n ≤ n := Nat.and_le_right
  omega

/-- The products and the rest that is not linear, by name, each with its bounds: what the walks' arithmetic leans on. -/
structure Nums (s p r f z sec flags root q sp rs ds zs c1 a az azs b8 rt : Int) : Prop where
  hq : IntKind.i64.wrap (f * z) = q
  hq1 : 0 ≤ q ∧ q ≤ 16711425
  hsp : IntKind.i64.wrap (s * p) = sp
  hrs : IntKind.i64.wrap (r * s) = rs
  hrs1 : 0 ≤ rs ∧ rs ≤ 4294836225
  hds : IntKind.i64.wrap ((r + q) * s) = ds
  hzs : IntKind.i64.wrap (z * s) = zs
  hzs1 : 0 ≤ zs ∧ zs ≤ 4294836225
  hc1 : r + q ≤ sec → (sec - (r + q)).tdiv p = c1
  hc2 : r + q ≤ sec → 0 ≤ c1 ∧ c1 ≤ 4294967295
  ha : bits .and .u16 flags 15 = a
  ha1 : 0 ≤ a ∧ a ≤ 15
  haz : IntKind.i64.wrap (a * z) = az
  hazs : IntKind.i64.wrap (az * s) = azs
  hazs1 : 0 ≤ azs ∧ azs ≤ 64424509440
  hb8 : bits .and .u16 flags 128 = b8
  hrt : bits .and .u32 root 268435455 = rt
  hrt1 : 0 ≤ rt ∧ rt ≤ 268435455
  eq : q = f * z
  esp : sp = s * p
  ers : rs = r * s
  eds : ds = (r + q) * s
  ezs : zs = z * s
  ec1 : r + q ≤ sec → c1 = (sec - (r + q)) / p
  eaz : azs = a * z * s
theorem nums {s p r f z sec flags root : Int} (h : Fits s p r f z sec flags root) : ∃ q sp rs ds zs c1 a az azs b8 rt, Nums s p r f z sec flags root q sp rs ds zs c1 a az azs b8 rt := by
  obtain ⟨hs, hp, hr, hf, hz, hc, hg, ht⟩ := h
  have q1 := mul_in hf hz
  have q2 := mul_in hs hp
  have q3 := mul_in hr hs
  have q4 := mul_in (a := r + f * z) (A := 16776960) (by omega) hs
  have q5 := mul_in hz hs
  have a1 := and16 flags 15 hg (by omega)
  have q6 := mul_in (A := 15) a1 hz
  have q7 := mul_in (a := bits .and .u16 flags 15 * z) (A := 983025) (by omega) hs
  have t1 := and32 root 268435455 ht (by omega)
  refine ⟨f * z, s * p, r * s, (r + f * z) * s, z * s, (sec - (r + f * z)) / p, bits .and .u16 flags 15, bits .and .u16 flags 15 * z, bits .and .u16 flags 15 * z * s, bits .and .u16 flags 128, bits .and .u32 root 268435455,
    wrap_in (by omega), by omega, wrap_in (by omega), wrap_in (by omega), by omega, wrap_in (by omega), wrap_in (by omega), by omega, fun h => Int.tdiv_eq_ediv_of_nonneg (by omega), fun h => ⟨Int.ediv_nonneg (by omega) (by omega), ?_⟩, rfl, by omega, wrap_in (by omega), wrap_in (by omega), by omega, rfl, rfl, by omega, rfl, rfl, rfl, rfl, rfl, fun _ => rfl, rfl⟩
  have := Int.ediv_le_self p (a := sec - (r + f * z)) (by omega)
  omega

set_option maxRecDepth 20000 in
set_option maxHeartbeats 3200000 in
theorem model_good (s p r f z sec flags root : Int) (h : Fits s p r f z sec flags root) (g : Good s p r f z sec flags root) (w : World) :
    Calls Ybaf.prog 10 #[.int .i64 s, .int .i64 p, .int .i64 r, .int .i64 f, .int .i64 z, .int .i64 sec, .int .u16 flags, .int .u32 root] w fun e w' =>
      e = .returned (.tuple #[.agg #[.int .i64 s, .int .i64 (s * p), .int .i64 (fatOf s r z flags), .int .i64 (dsOf r f z * s), .int .u32 (clu s p r f z sec + 1), .int .u32 (bits .and .u32 root 268435455)], .bool true]) ∧ Below w.heap.size w w' := by
  obtain ⟨q, sp, rs, ds, zs, c1, a, az, azs, b8, rt, N⟩ := nums h
  obtain ⟨hs, hp, hr, hf, hz, hc, hg, ht⟩ := h
  obtain ⟨g1, g2, g3, g4, g5, g6, g7, g8, g9, g10, g11, g12⟩ := g
  obtain ⟨hq, hq1, hsp, hrs, hrs1, hds, hzs, hzs1, hc1, hc2, ha, ha1, haz, hazs, hazs1, hb8, hrt, hrt1, eq, esp, ers, eds, ezs, ec1, eaz⟩ := N
  simp only [clu, dsOf, fatOf, ← eq, ← ezs, ← ers, ← esp, ← eds, ha, hb8, hrt, ← eaz] at g9 g10 g11 g12 ⊢
  have k9 : r + q ≤ sec := by omega
  replace hc1 := hc1 k9
  replace hc2 := hc2 k9
  replace ec1 := ec1 k9
  simp only [← ec1] at g12 ⊢
  have t1 : decide (s < 512) = false := by simp; omega
  have t2 : decide (4096 < s) = false := by simp; omega
  have t3 : (r == 0) = false := by simp [g6]
  have t4 : (f == 0) = false := by simp [g7]
  have t5 : (z == 0) = false := by simp [g8]
  have t6 : decide (sec < r + q + p) = false := by simp; omega
  clear eq esp ers eds ezs ec1 eaz
  obtain ⟨C, hC⟩ : ∃ C, min (min c1 (zs / 4 - 2)) 268435445 = C := ⟨_, rfl⟩
  simp only [hC] at g12 ⊢
  have G : Hid _ := And.intro g10 (And.intro g11 g12)
  clear g10 g11 g12
  obtain ⟨FT, hFT⟩ : ∃ FT, rs + (if b8 = 0 then 0 else azs) = FT := ⟨_, rfl⟩
  rw [hFT]
  have HC : Hid _ := hC
  have HF : Hid _ := hFT
  clear hC hFT
  have hm : (c1 = C ∧ ¬ zs / 4 - 2 < c1 ∧ ¬ 268435445 < c1) ∨ (zs / 4 - 2 = C ∧ zs / 4 - 2 < c1 ∧ ¬ 268435445 < zs / 4 - 2) ∨ (C = 268435445 ∧ ¬ zs / 4 - 2 < c1 ∧ 268435445 < c1) ∨ (C = 268435445 ∧ zs / 4 - 2 < c1 ∧ 268435445 < zs / 4 - 2) := by have := HC.out; omega
  obtain ⟨ga, gt0, gt1⟩ := G.out
  have u1 : decide (rt < 2) = false := by simp; omega
  have u2 : decide (C + 1 < rt) = false := by simp; omega
  have hC0 : 0 ≤ C ∧ C ≤ 268435445 := by omega
  have GA : Hid _ := ga
  clear hm G gt0 gt1 ga
  go_enter Ybaf.func10, Ybaf.ntmps10
  go_upto_region 13 with fail
  go_cut [20] (fun s20 wx => s20 = .int .i64 c1 ∧ wx = (w.alloc (.cells #[.int .i64 0, .int .i64 0, .int .i64 0, .int .i64 0, .int .u32 0, .int .u32 0] 64)).alloc (.cells #[.int .i64 0, .int .i64 0, .int .i64 0, .int .i64 0, .int .u32 0, .int .u32 0] 64))
  case first =>
    go_wp2
    go_meet
    case rel => exact ⟨rfl, rfl⟩
  case rest =>
    obtain ⟨rfl, hwc⟩ := hcut
    apply_assumption
    refine wp_seq_k fun K hK => ?_
    go_cut [20] (fun s20 wx => s20 = .int .i64 (min c1 (zs / 4 - 2)) ∧ wx = wc)
    case first =>
      by_cases k : zs / 4 - 2 < c1
      · go_wp2
        go_meet
        case rel => exact ⟨by congr 1; omega, hwc.symm⟩
      · go_wp2
        go_meet
        case rel => exact ⟨by congr 1; omega, hwc.symm⟩
    case rest =>
      obtain ⟨rfl, rfl⟩ := hcut
      apply_assumption
      refine wp_seq_k fun K hK => ?_
      go_cut [20] (fun s20 wx => s20 = .int .i64 C ∧ wx = wc)
      case first =>
        have hC := HC.out
        by_cases k : 268435445 < min c1 (zs / 4 - 2)
        · obtain rfl : C = 268435445 := by omega
          have k' : decide (268435445 < min c1 (zs / 4 - 2)) = true := by simp only [k, decide_true]
          go_wp2
          go_meet
          case rel => exact ⟨rfl, hwc.symm⟩
        · obtain rfl : C = min c1 (zs / 4 - 2) := by omega
          have k' : decide (268435445 < min c1 (zs / 4 - 2)) = false := by simp only [k, decide_false]
          go_wp2
          go_meet
          case rel => exact ⟨rfl, hwc.symm⟩
      case rest =>
        obtain ⟨rfl, rfl⟩ := hcut
        subst hwc
        by_cases hb : b8 = 0
        · have hft := HF.out
          rw [if_pos hb, Int.add_zero] at hft
          subst hft
          have e0 : (b8 != 0) = false := by simp [hb]
          go_wp2
          refine bodyPost_ret (v := .tuple #[.agg #[.int .i64 s, .int .i64 sp, .int .i64 rs, .int .i64 ds, .int .u32 (C + 1), .int .u32 rt], .bool true]) (by simp [results, Ybaf.results10, go_sem]) rfl ⟨rfl, ?_⟩
          exact ((Below.refl _ _).alloc (Nat.le_refl _) _).alloc (by simp) _
        · have hft := HF.out
          rw [if_neg hb] at hft
          subst hft
          have e0 : (b8 != 0) = true := by simp [hb]
          have e1 : a < f := by rcases GA.out with h | h; exact absurd h hb; exact h
          have e2 : decide (f ≤ a) = false := by simp; omega
          go_wp2
          refine bodyPost_ret (v := .tuple #[.agg #[.int .i64 s, .int .i64 sp, .int .i64 (rs + azs), .int .i64 ds, .int .u32 (C + 1), .int .u32 rt], .bool true]) (by simp [results, Ybaf.results10, go_sem]) rfl ⟨rfl, ?_⟩
          exact ((Below.refl _ _).alloc (Nat.le_refl _) _).alloc (by simp) _
end Go.Proofs.YbulkbzbaFmt
