/-
  OWN WORK. THE WALK of fat.partition where entry K is the first of type FAT32.
-/
import Derived.Test.YbulkbzbaFmtVolume
namespace Go.Proofs.YbulkbzbaFmt
open Go.RowKit

/-- A master boot record whose entry K is the first of type FAT32: it begins at sector st and has sz sectors. -/
structure Mbr (zb : Nat → Int) (K : Nat) (st sz : Int) : Prop where
  boot : Boot zb 0 0 0 0 0 0 0 0
  lt : K < 4
  no : ∀ k, k < K → ¬ zb (450 + 16 * k) = 11 ∧ ¬ zb (450 + 16 * k) = 12
  ty : zb (450 + 16 * K) = 11 ∨ zb (450 + 16 * K) = 12
  e1 : zb (454 + 16 * K) + zb (455 + 16 * K) * 256 + zb (456 + 16 * K) * 65536 + zb (457 + 16 * K) * 16777216 = st
  e2 : zb (458 + 16 * K) + zb (459 + 16 * K) * 256 + zb (460 + 16 * K) * 65536 + zb (461 + 16 * K) * 16777216 = sz
  st1 : 1 ≤ st ∧ st ≤ 4294967295
  sz1 : 1 ≤ sz ∧ sz ≤ 4294967295

set_option maxRecDepth 20000 in
set_option maxHeartbeats 6400000 in
theorem part_found (D : Nat) (zb : Nat → Int) (K : Nat) (st sz : Int) (w : World) (hD : D < w.heap.size) (hz : ∀ i, i < 512 → w.cell? ⟨D, i, none⟩ = some (.int .u8 (zb i))) (hfit : ∀ i, i < 512 → 0 ≤ zb i ∧ zb i ≤ 255) (hm : Mbr zb K st sz) :
    Calls Ybaf.prog 17 #[.slice (some ⟨D, 0, none⟩) 512 512] w fun e w' => e = .returned (.tuple #[.int .i64 (st * 512), .int .i64 (sz * 512), .bool true]) ∧ Below w.heap.size w w' := by
  have HZ : Hid _ := hz
  have HT : Hid _ := hfit
  obtain ⟨hbt, hK, hno, hty, hst, hsz, hs1, hs2⟩ := hm
  have HS : Hid _ := hbt.sig
  have k1 : IntKind.i64.wrap st = st := wrap_in (by omega)
  have k2 : IntKind.i64.wrap sz = sz := wrap_in (by omega)
  have k3 : IntKind.i64.wrap (st * 512) = st * 512 := wrap_in (by omega)
  have k4 : IntKind.i64.wrap (sz * 512) = sz * 512 := wrap_in (by omega)
  have HN : Hid _ := hno
  have HTY : Hid _ := hty
  have HST : Hid _ := hst
  have HSZ : Hid _ := hsz
  clear hz hfit hno hty hst hsz hbt
  go_enter Ybaf.func17, Ybaf.ntmps17
  go_upto_region 1 with fail
  go_cut [13] from 9 to 12 (fun sv wx => sv = .bool false ∧ Below w.heap.size w wx)
  case first =>
    go_region_held3 (fun _ => True) (trivial) ((go_at_call 25; refine (u16_v D 510 2 2 (zb 510) (zb 511) 43605 HS.out (by omega) _ (((Below.refl _ _).drew.cell (p := ⟨D, 510, none⟩) (by exact hD)).trans (HZ.out 510 (by omega))) (((Below.refl _ _).drew.cell (p := ⟨D, 511, none⟩) (by exact hD)).trans (HZ.out 511 (by omega))) (HT.out 510 (by omega)) (HT.out 511 (by omega))).mono ?_; rintro e w1 ⟨rfl, hl1⟩))
    go_wp2
    go_meet
    case rel => exact ⟨rfl, (Below.refl _ _).drew.trans hl1⟩
  case rest =>
    obtain ⟨rfl, hwc⟩ := hcut
    have HL : Hid (Below w.heap.size w wc) := hwc
    clear hwc
    go_wp2_with fail
    go_loopw [5] (fun i wr => ∃ k : Nat, k ≤ K ∧ i = .int .i64 k ∧ Below w.heap.size w wr) (fun i _ => 4 - (intOf i).toNat)
    case atStart => exact ⟨0, by omega, rfl, HL.out⟩
    case round =>
      obtain ⟨k, hk, rfl, hb⟩ := hrel
      have HB : Hid _ := hb
      clear hb
      by_cases hkK : k = K
      · subst hkK
        have hk' : k = 0 ∨ k = 1 ∨ k = 2 ∨ k = 3 := by omega
        rcases hk' with rfl | rfl | rfl | rfl
        · have c4 := (HB.out.cell (p := ⟨D, 450, none⟩) (by exact hD)).trans (HZ.out 450 (by omega))
          have ty : Hid (zb 450 = 11 ∨ zb 450 = 12) := HTY.out
          go_upto_region 7 with fail
          go_cut [32] from 23 to 31 (fun sv wx => sv = .bool false ∧ Below w.heap.size w wx)
          case first =>
            rcases ty.out with t | t
            · rw [t] at c4
              go_wp2
              go_meet
              case rel => exact ⟨rfl, HB.out⟩
            · rw [t] at c4
              go_wp2
              go_meet
              case rel => exact ⟨rfl, HB.out⟩
          case rest =>
            obtain ⟨rfl, hwc⟩ := hcut
            replace HB : Hid (Below w.heap.size w wc) := hwc
            clear hwc c4
            go_upto_region 8 with fail
            go_cut [7] from 33 to 38 (fun sv wx => sv = .int .i64 (st * 512) ∧ Below w.heap.size w wx)
            case first =>
              go_region_held3 (fun _ => True) (trivial) ((go_at_call 21; refine (u32_v D 454 58 58 (zb 454) (zb 455) (zb 456) (zb 457) st HST.out (by omega) _ ((HB.out.drew.cell (p := ⟨D, 454, none⟩) (by exact hD)).trans (HZ.out 454 (by omega))) ((HB.out.drew.cell (p := ⟨D, 455, none⟩) (by exact hD)).trans (HZ.out 455 (by omega))) ((HB.out.drew.cell (p := ⟨D, 456, none⟩) (by exact hD)).trans (HZ.out 456 (by omega))) ((HB.out.drew.cell (p := ⟨D, 457, none⟩) (by exact hD)).trans (HZ.out 457 (by omega))) (HT.out 454 (by omega)) (HT.out 455 (by omega)) (HT.out 456 (by omega)) (HT.out 457 (by omega))).mono ?_; rintro e w1 ⟨rfl, hl1⟩))
              go_wp2
              go_meet
              case rel => exact ⟨by first | rfl | rw [k1, k3] | rw [k2, k4], HB.out.drew.trans (hl1.mono HB.out.drew.size)⟩
            case rest =>
              obtain ⟨rfl, hwc⟩ := hcut
              replace HB : Hid (Below w.heap.size w wc) := hwc
              clear hwc
              go_upto_region 9 with fail
              go_cut [8] from 39 to 44 (fun sv wx => sv = .int .i64 (sz * 512) ∧ Below w.heap.size w wx)
              case first =>
                go_region_held3 (fun _ => True) (trivial) ((go_at_call 21; refine (u32_v D 458 54 54 (zb 458) (zb 459) (zb 460) (zb 461) sz HSZ.out (by omega) _ ((HB.out.drew.cell (p := ⟨D, 458, none⟩) (by exact hD)).trans (HZ.out 458 (by omega))) ((HB.out.drew.cell (p := ⟨D, 459, none⟩) (by exact hD)).trans (HZ.out 459 (by omega))) ((HB.out.drew.cell (p := ⟨D, 460, none⟩) (by exact hD)).trans (HZ.out 460 (by omega))) ((HB.out.drew.cell (p := ⟨D, 461, none⟩) (by exact hD)).trans (HZ.out 461 (by omega))) (HT.out 458 (by omega)) (HT.out 459 (by omega)) (HT.out 460 (by omega)) (HT.out 461 (by omega))).mono ?_; rintro e w1 ⟨rfl, hl1⟩))
                go_wp2
                go_meet
                case rel => exact ⟨by first | rfl | rw [k1, k3] | rw [k2, k4], HB.out.drew.trans (hl1.mono HB.out.drew.size)⟩
              case rest =>
                obtain ⟨rfl, hwc⟩ := hcut
                replace HB : Hid (Below w.heap.size w wc) := hwc
                clear hwc
                go_wp2
                refine bodyPost_ret (v := .tuple #[.int .i64 (st * 512), .int .i64 (sz * 512), .bool true]) (by simp [results, Ybaf.results17, go_sem]) rfl ⟨rfl, HB.out⟩
        · have c4 := (HB.out.cell (p := ⟨D, 466, none⟩) (by exact hD)).trans (HZ.out 466 (by omega))
          have ty : Hid (zb 466 = 11 ∨ zb 466 = 12) := HTY.out
          go_upto_region 7 with fail
          go_cut [32] from 23 to 31 (fun sv wx => sv = .bool false ∧ Below w.heap.size w wx)
          case first =>
            rcases ty.out with t | t
            · rw [t] at c4
              go_wp2
              go_meet
              case rel => exact ⟨rfl, HB.out⟩
            · rw [t] at c4
              go_wp2
              go_meet
              case rel => exact ⟨rfl, HB.out⟩
          case rest =>
            obtain ⟨rfl, hwc⟩ := hcut
            replace HB : Hid (Below w.heap.size w wc) := hwc
            clear hwc c4
            go_upto_region 8 with fail
            go_cut [7] from 33 to 38 (fun sv wx => sv = .int .i64 (st * 512) ∧ Below w.heap.size w wx)
            case first =>
              go_region_held3 (fun _ => True) (trivial) ((go_at_call 21; refine (u32_v D 470 42 42 (zb 470) (zb 471) (zb 472) (zb 473) st HST.out (by omega) _ ((HB.out.drew.cell (p := ⟨D, 470, none⟩) (by exact hD)).trans (HZ.out 470 (by omega))) ((HB.out.drew.cell (p := ⟨D, 471, none⟩) (by exact hD)).trans (HZ.out 471 (by omega))) ((HB.out.drew.cell (p := ⟨D, 472, none⟩) (by exact hD)).trans (HZ.out 472 (by omega))) ((HB.out.drew.cell (p := ⟨D, 473, none⟩) (by exact hD)).trans (HZ.out 473 (by omega))) (HT.out 470 (by omega)) (HT.out 471 (by omega)) (HT.out 472 (by omega)) (HT.out 473 (by omega))).mono ?_; rintro e w1 ⟨rfl, hl1⟩))
              go_wp2
              go_meet
              case rel => exact ⟨by first | rfl | rw [k1, k3] | rw [k2, k4], HB.out.drew.trans (hl1.mono HB.out.drew.size)⟩
            case rest =>
              obtain ⟨rfl, hwc⟩ := hcut
              replace HB : Hid (Below w.heap.size w wc) := hwc
              clear hwc
              go_upto_region 9 with fail
              go_cut [8] from 39 to 44 (fun sv wx => sv = .int .i64 (sz * 512) ∧ Below w.heap.size w wx)
              case first =>
                go_region_held3 (fun _ => True) (trivial) ((go_at_call 21; refine (u32_v D 474 38 38 (zb 474) (zb 475) (zb 476) (zb 477) sz HSZ.out (by omega) _ ((HB.out.drew.cell (p := ⟨D, 474, none⟩) (by exact hD)).trans (HZ.out 474 (by omega))) ((HB.out.drew.cell (p := ⟨D, 475, none⟩) (by exact hD)).trans (HZ.out 475 (by omega))) ((HB.out.drew.cell (p := ⟨D, 476, none⟩) (by exact hD)).trans (HZ.out 476 (by omega))) ((HB.out.drew.cell (p := ⟨D, 477, none⟩) (by exact hD)).trans (HZ.out 477 (by omega))) (HT.out 474 (by omega)) (HT.out 475 (by omega)) (HT.out 476 (by omega)) (HT.out 477 (by omega))).mono ?_; rintro e w1 ⟨rfl, hl1⟩))
                go_wp2
                go_meet
                case rel => exact ⟨by first | rfl | rw [k1, k3] | rw [k2, k4], HB.out.drew.trans (hl1.mono HB.out.drew.size)⟩
              case rest =>
                obtain ⟨rfl, hwc⟩ := hcut
                replace HB : Hid (Below w.heap.size w wc) := hwc
                clear hwc
                go_wp2
                refine bodyPost_ret (v := .tuple #[.int .i64 (st * 512), .int .i64 (sz * 512), .bool true]) (by simp [results, Ybaf.results17, go_sem]) rfl ⟨rfl, HB.out⟩
        · have c4 := (HB.out.cell (p := ⟨D, 482, none⟩) (by exact hD)).trans (HZ.out 482 (by omega))
          have ty : Hid (zb 482 = 11 ∨ zb 482 = 12) := HTY.out
          go_upto_region 7 with fail
          go_cut [32] from 23 to 31 (fun sv wx => sv = .bool false ∧ Below w.heap.size w wx)
          case first =>
            rcases ty.out with t | t
            · rw [t] at c4
              go_wp2
              go_meet
              case rel => exact ⟨rfl, HB.out⟩
            · rw [t] at c4
              go_wp2
              go_meet
              case rel => exact ⟨rfl, HB.out⟩
          case rest =>
            obtain ⟨rfl, hwc⟩ := hcut
            replace HB : Hid (Below w.heap.size w wc) := hwc
            clear hwc c4
            go_upto_region 8 with fail
            go_cut [7] from 33 to 38 (fun sv wx => sv = .int .i64 (st * 512) ∧ Below w.heap.size w wx)
            case first =>
              go_region_held3 (fun _ => True) (trivial) ((go_at_call 21; refine (u32_v D 486 26 26 (zb 486) (zb 487) (zb 488) (zb 489) st HST.out (by omega) _ ((HB.out.drew.cell (p := ⟨D, 486, none⟩) (by exact hD)).trans (HZ.out 486 (by omega))) ((HB.out.drew.cell (p := ⟨D, 487, none⟩) (by exact hD)).trans (HZ.out 487 (by omega))) ((HB.out.drew.cell (p := ⟨D, 488, none⟩) (by exact hD)).trans (HZ.out 488 (by omega))) ((HB.out.drew.cell (p := ⟨D, 489, none⟩) (by exact hD)).trans (HZ.out 489 (by omega))) (HT.out 486 (by omega)) (HT.out 487 (by omega)) (HT.out 488 (by omega)) (HT.out 489 (by omega))).mono ?_; rintro e w1 ⟨rfl, hl1⟩))
              go_wp2
              go_meet
              case rel => exact ⟨by first | rfl | rw [k1, k3] | rw [k2, k4], HB.out.drew.trans (hl1.mono HB.out.drew.size)⟩
            case rest =>
              obtain ⟨rfl, hwc⟩ := hcut
              replace HB : Hid (Below w.heap.size w wc) := hwc
              clear hwc
              go_upto_region 9 with fail
              go_cut [8] from 39 to 44 (fun sv wx => sv = .int .i64 (sz * 512) ∧ Below w.heap.size w wx)
              case first =>
                go_region_held3 (fun _ => True) (trivial) ((go_at_call 21; refine (u32_v D 490 22 22 (zb 490) (zb 491) (zb 492) (zb 493) sz HSZ.out (by omega) _ ((HB.out.drew.cell (p := ⟨D, 490, none⟩) (by exact hD)).trans (HZ.out 490 (by omega))) ((HB.out.drew.cell (p := ⟨D, 491, none⟩) (by exact hD)).trans (HZ.out 491 (by omega))) ((HB.out.drew.cell (p := ⟨D, 492, none⟩) (by exact hD)).trans (HZ.out 492 (by omega))) ((HB.out.drew.cell (p := ⟨D, 493, none⟩) (by exact hD)).trans (HZ.out 493 (by omega))) (HT.out 490 (by omega)) (HT.out 491 (by omega)) (HT.out 492 (by omega)) (HT.out 493 (by omega))).mono ?_; rintro e w1 ⟨rfl, hl1⟩))
                go_wp2
                go_meet
                case rel => exact ⟨by first | rfl | rw [k1, k3] | rw [k2, k4], HB.out.drew.trans (hl1.mono HB.out.drew.size)⟩
              case rest =>
                obtain ⟨rfl, hwc⟩ := hcut
                replace HB : Hid (Below w.heap.size w wc) := hwc
                clear hwc
                go_wp2
                refine bodyPost_ret (v := .tuple #[.int .i64 (st * 512), .int .i64 (sz * 512), .bool true]) (by simp [results, Ybaf.results17, go_sem]) rfl ⟨rfl, HB.out⟩
        · have c4 := (HB.out.cell (p := ⟨D, 498, none⟩) (by exact hD)).trans (HZ.out 498 (by omega))
          have ty : Hid (zb 498 = 11 ∨ zb 498 = 12) := HTY.out
          go_upto_region 7 with fail
          go_cut [32] from 23 to 31 (fun sv wx => sv = .bool false ∧ Below w.heap.size w wx)
          case first =>
            rcases ty.out with t | t
            · rw [t] at c4
              go_wp2
              go_meet
              case rel => exact ⟨rfl, HB.out⟩
            · rw [t] at c4
              go_wp2
              go_meet
              case rel => exact ⟨rfl, HB.out⟩
          case rest =>
            obtain ⟨rfl, hwc⟩ := hcut
            replace HB : Hid (Below w.heap.size w wc) := hwc
            clear hwc c4
            go_upto_region 8 with fail
            go_cut [7] from 33 to 38 (fun sv wx => sv = .int .i64 (st * 512) ∧ Below w.heap.size w wx)
            case first =>
              go_region_held3 (fun _ => True) (trivial) ((go_at_call 21; refine (u32_v D 502 10 10 (zb 502) (zb 503) (zb 504) (zb 505) st HST.out (by omega) _ ((HB.out.drew.cell (p := ⟨D, 502, none⟩) (by exact hD)).trans (HZ.out 502 (by omega))) ((HB.out.drew.cell (p := ⟨D, 503, none⟩) (by exact hD)).trans (HZ.out 503 (by omega))) ((HB.out.drew.cell (p := ⟨D, 504, none⟩) (by exact hD)).trans (HZ.out 504 (by omega))) ((HB.out.drew.cell (p := ⟨D, 505, none⟩) (by exact hD)).trans (HZ.out 505 (by omega))) (HT.out 502 (by omega)) (HT.out 503 (by omega)) (HT.out 504 (by omega)) (HT.out 505 (by omega))).mono ?_; rintro e w1 ⟨rfl, hl1⟩))
              go_wp2
              go_meet
              case rel => exact ⟨by first | rfl | rw [k1, k3] | rw [k2, k4], HB.out.drew.trans (hl1.mono HB.out.drew.size)⟩
            case rest =>
              obtain ⟨rfl, hwc⟩ := hcut
              replace HB : Hid (Below w.heap.size w wc) := hwc
              clear hwc
              go_upto_region 9 with fail
              go_cut [8] from 39 to 44 (fun sv wx => sv = .int .i64 (sz * 512) ∧ Below w.heap.size w wx)
              case first =>
                go_region_held3 (fun _ => True) (trivial) ((go_at_call 21; refine (u32_v D 506 6 6 (zb 506) (zb 507) (zb 508) (zb 509) sz HSZ.out (by omega) _ ((HB.out.drew.cell (p := ⟨D, 506, none⟩) (by exact hD)).trans (HZ.out 506 (by omega))) ((HB.out.drew.cell (p := ⟨D, 507, none⟩) (by exact hD)).trans (HZ.out 507 (by omega))) ((HB.out.drew.cell (p := ⟨D, 508, none⟩) (by exact hD)).trans (HZ.out 508 (by omega))) ((HB.out.drew.cell (p := ⟨D, 509, none⟩) (by exact hD)).trans (HZ.out 509 (by omega))) (HT.out 506 (by omega)) (HT.out 507 (by omega)) (HT.out 508 (by omega)) (HT.out 509 (by omega))).mono ?_; rintro e w1 ⟨rfl, hl1⟩))
                go_wp2
                go_meet
                case rel => exact ⟨by first | rfl | rw [k1, k3] | rw [k2, k4], HB.out.drew.trans (hl1.mono HB.out.drew.size)⟩
              case rest =>
                obtain ⟨rfl, hwc⟩ := hcut
                replace HB : Hid (Below w.heap.size w wc) := hwc
                clear hwc
                go_wp2
                refine bodyPost_ret (v := .tuple #[.int .i64 (st * 512), .int .i64 (sz * 512), .bool true]) (by simp [results, Ybaf.results17, go_sem]) rfl ⟨rfl, HB.out⟩
      · have hk' : k = 0 ∨ k = 1 ∨ k = 2 := by omega
        rcases hk' with rfl | rfl | rfl
        · have c4 := (HB.out.cell (p := ⟨D, 450, none⟩) (by exact hD)).trans (HZ.out 450 (by omega))
          have n1 : (zb 450 != 11) = true := by simp; exact (HN.out 0 (by omega)).1
          have n2 : (zb 450 != 12) = true := by simp; exact (HN.out 0 (by omega)).2
          go_wp2
          exact ⟨⟨1, by omega, rfl, HB.out⟩, by simp [intOf]⟩
        · have c4 := (HB.out.cell (p := ⟨D, 466, none⟩) (by exact hD)).trans (HZ.out 466 (by omega))
          have n1 : (zb 466 != 11) = true := by simp; exact (HN.out 1 (by omega)).1
          have n2 : (zb 466 != 12) = true := by simp; exact (HN.out 1 (by omega)).2
          go_wp2
          exact ⟨⟨2, by omega, rfl, HB.out⟩, by simp [intOf]⟩
        · have c4 := (HB.out.cell (p := ⟨D, 482, none⟩) (by exact hD)).trans (HZ.out 482 (by omega))
          have n1 : (zb 482 != 11) = true := by simp; exact (HN.out 2 (by omega)).1
          have n2 : (zb 482 != 12) = true := by simp; exact (HN.out 2 (by omega)).2
          go_wp2
          exact ⟨⟨3, by omega, rfl, HB.out⟩, by simp [intOf]⟩
end Go.Proofs.YbulkbzbaFmt
