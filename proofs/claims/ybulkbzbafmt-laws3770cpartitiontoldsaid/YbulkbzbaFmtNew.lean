/-
  OWN WORK. THE WALKS of fat.partition where it finds none, and of the laws' comparison with their model.
-/
import Derived.Test.YbulkbzbaFmtVolume
namespace Go.Proofs.YbulkbzbaFmt
open Go.RowKit

set_option maxRecDepth 20000 in
set_option maxHeartbeats 3200000 in
theorem part_none (D : Nat) (zb : Nat → Int) (w : World) (hD : D < w.heap.size) (hz : ∀ i, i < 512 → w.cell? ⟨D, i, none⟩ = some (.int .u8 (zb i))) (hfit : ∀ i, i < 512 → 0 ≤ zb i ∧ zb i ≤ 255) (hsig : zb 510 + zb 511 * 256 = 43605)
    (hno : ∀ k, k < 4 → ¬ zb (450 + 16 * k) = 11 ∧ ¬ zb (450 + 16 * k) = 12) :
    Calls Ybaf.prog 17 #[.slice (some ⟨D, 0, none⟩) 512 512] w fun e w' => e = .returned (.tuple #[.int .i64 0, .int .i64 0, .bool false]) ∧ Below w.heap.size w w' := by
  have HZ : Hid _ := hz
  have HT : Hid _ := hfit
  have HN : Hid _ := hno
  have HS : Hid _ := hsig
  clear hz hfit hno hsig
  go_enter Ybaf.func17, Ybaf.ntmps17
  go_upto_region 1 with fail
  go_cut [13] from 9 to 12 (fun sv wx => sv = .bool false ∧ Below w.heap.size w wx)
  case first =>
    go_region_held3 (fun _ => True) (trivial) ((go_at_call 25; refine (u16_v D 510 2 2 (zb 510) (zb 511) 43605 HS.out (by omega) _ (((Below.refl _ _).drew.cell (p := ⟨D, 510, none⟩) (by exact hD)).trans (HZ.out 510 (by omega))) (((Below.refl _ _).drew.cell (p := ⟨D, 511, none⟩) (by exact hD)).trans (HZ.out 511 (by omega))) (HT.out 510 (by omega)) (HT.out 511 (by omega))).mono ?_; rintro e w1 ⟨rfl, hl1⟩))
    go_wp2
    go_meet
    case rel => exact ⟨rfl, (Below.refl _ _).drew.trans hl1⟩
  case rest =>
    obtain ⟨rfl, hwc⟩ := hcut
    have HL : Hid (Below w.heap.size w wc) := hwc
    clear hwc
    go_wp2_with fail
    go_loopw [5] (fun i wr => ∃ k : Nat, k ≤ 4 ∧ i = .int .i64 k ∧ Below w.heap.size w wr) (fun i _ => 4 - (intOf i).toNat)
    case atStart => exact ⟨0, by omega, rfl, HL.out⟩
    case round =>
      obtain ⟨k, hk, rfl, hb⟩ := hrel
      have HB : Hid _ := hb
      clear hb
      have hk' : k = 0 ∨ k = 1 ∨ k = 2 ∨ k = 3 ∨ k = 4 := by omega
      rcases hk' with rfl | rfl | rfl | rfl | rfl
      · have c4 := (HB.out.cell (p := ⟨D, 450, none⟩) (by exact hD)).trans (HZ.out 450 (by omega))
        have n1 : (zb 450 != 11) = true := by simp; exact (HN.out 0 (by omega)).1
        have n2 : (zb 450 != 12) = true := by simp; exact (HN.out 0 (by omega)).2
        go_wp2
        exact ⟨⟨1, by omega, rfl, HB.out⟩, by simp [intOf]⟩
      · have c4 := (HB.out.cell (p := ⟨D, 466, none⟩) (by exact hD)).trans (HZ.out 466 (by omega))
        have n1 : (zb 466 != 11) = true := by simp; exact (HN.out 1 (by omega)).1
        have n2 : (zb 466 != 12) = true := by simp; exact (HN.out 1 (by omega)).2
        go_wp2
        exact ⟨⟨2, by omega, rfl, HB.out⟩, by simp [intOf]⟩
      · have c4 := (HB.out.cell (p := ⟨D, 482, none⟩) (by exact hD)).trans (HZ.out 482 (by omega))
        have n1 : (zb 482 != 11) = true := by simp; exact (HN.out 2 (by omega)).1
        have n2 : (zb 482 != 12) = true := by simp; exact (HN.out 2 (by omega)).2
        go_wp2
        exact ⟨⟨3, by omega, rfl, HB.out⟩, by simp [intOf]⟩
      · have c4 := (HB.out.cell (p := ⟨D, 498, none⟩) (by exact hD)).trans (HZ.out 498 (by omega))
        have n1 : (zb 498 != 11) = true := by simp; exact (HN.out 3 (by omega)).1
        have n2 : (zb 498 != 12) = true := by simp; exact (HN.out 3 (by omega)).2
        go_wp2
        exact ⟨⟨4, by omega, rfl, HB.out⟩, by simp [intOf]⟩
      · go_wp2
        refine bodyPost_ret (v := .tuple #[.int .i64 0, .int .i64 0, .bool false]) (by simp [results, Ybaf.results17, go_sem]) rfl ⟨rfl, HB.out⟩

set_option maxRecDepth 20000 in
set_option maxHeartbeats 6400000 in
/-- The comparison of a file system with the model's geometry. -/
theorem same_any (G : Nat) (dv : Value) (S : Nat) (sp ft ds la rt : Int) (w : World) (h : FsAt G dv (S : Int) sp ft ds la rt w) :
    Calls Ybaf.prog 11 #[.pointer (some ⟨G, 0, none⟩), .agg #[.int .i64 (S : Int), .int .i64 sp, .int .i64 ft, .int .i64 ds, .int .u32 la, .int .u32 rt]] w fun e w' => e = .returned (.bool true) ∧ Below w.heap.size w w' := by
  obtain ⟨h0, h1, h2, h3, h4, h5, h6, h9, sa, sc, h10⟩ := h
  have a1 := past h1
  have a2 := past h2
  have a3 := past h3
  have a4 := past h4
  have a5 := past h5
  have a6 := past h6
  have a9 := past h9
  have a10 := past h10
  simp only [Int.toNat_natCast] at a10
  clear h0 h1 h2 h3 h4 h5 h6 h9 h10
  go_enter Ybaf.func11, Ybaf.ntmps11
  go_wp2
  go_quiet (fail)
  go_wp2
  go_ret
  exact ⟨rfl, below_drewN ((Below.refl _ _).alloc (Nat.le_refl _) _) nq⟩
end Go.Proofs.YbulkbzbaFmt
