/-
  OWN WORK. THE WALK of fat.volume over a boot sector that lies in block D.
-/
import Derived.Test.YbulkbzbaFmtErr
import Derived.Test.YbulkbzbaFmtModel
namespace Go.Proofs.YbulkbzbaFmt
open Go.RowKit Go.Extern.Stop Go.Stop Go.Extern

/-- The bytes of a boot sector, as far as they are read. -/
structure Boot (zb : Nat → Int) (s p r f z sec flags root : Int) : Prop where
  s : zb 11 + zb 12 * 256 = s
  p : zb 13 = p
  r : zb 14 + zb 15 * 256 = r
  f : zb 16 = f
  re : zb 17 + zb 18 * 256 = 0
  s16 : zb 19 + zb 20 * 256 = 0
  f16 : zb 22 + zb 23 * 256 = 0
  sec : zb 32 + zb 33 * 256 + zb 34 * 65536 + zb 35 * 16777216 = sec
  z : zb 36 + zb 37 * 256 + zb 38 * 65536 + zb 39 * 16777216 = z
  flags : zb 40 + zb 41 * 256 = flags
  root : zb 44 + zb 45 * 256 + zb 46 * 65536 + zb 47 * 16777216 = root
  sig : zb 510 + zb 511 * 256 = 43605

theorem u16_v (b o len cap : Nat) (z0 z1 v : Int) (hv : z0 + z1 * 256 = v) (hl : 2 ≤ len) (w : World) (h0 : w.cell? ⟨b, o, none⟩ = some (.int .u8 z0)) (h1 : w.cell? ⟨b, o + 1, none⟩ = some (.int .u8 z1)) (f0 : 0 ≤ z0 ∧ z0 ≤ 255) (f1 : 0 ≤ z1 ∧ z1 ≤ 255) :
    Calls Ybaf.prog 25 #[.agg #[], .slice (some ⟨b, o, none⟩) len cap] w fun e w' => e = .returned (.int .u16 v) ∧ Below w.heap.size w w' := hv ▸ u16_any b o len cap z0 z1 hl w h0 h1 f0 f1
theorem u32_v (b o len cap : Nat) (z0 z1 z2 z3 v : Int) (hv : z0 + z1 * 256 + z2 * 65536 + z3 * 16777216 = v) (hl : 4 ≤ len) (w : World) (h0 : w.cell? ⟨b, o, none⟩ = some (.int .u8 z0)) (h1 : w.cell? ⟨b, o + 1, none⟩ = some (.int .u8 z1)) (h2 : w.cell? ⟨b, o + 2, none⟩ = some (.int .u8 z2)) (h3 : w.cell? ⟨b, o + 3, none⟩ = some (.int .u8 z3)) (f0 : 0 ≤ z0 ∧ z0 ≤ 255) (f1 : 0 ≤ z1 ∧ z1 ≤ 255) (f2 : 0 ≤ z2 ∧ z2 ≤ 255) (f3 : 0 ≤ z3 ∧ z3 ≤ 255) :
    Calls Ybaf.prog 21 #[.agg #[], .slice (some ⟨b, o, none⟩) len cap] w fun e w' => e = .returned (.int .u32 v) ∧ Below w.heap.size w w' := hv ▸ u32_any b o len cap z0 z1 z2 z3 hl w h0 h1 h2 h3 f0 f1 f2 f3

/-- A good file system, at G. -/
def FsAt (G : Nat) (dv : Value) (s sp ft ds la rt : Int) (w : World) : Prop :=
  w.cell? ⟨G, 0, none⟩ = some dv ∧ w.cell? ⟨G, 1, none⟩ = some (.int .i64 s) ∧ w.cell? ⟨G, 2, none⟩ = some (.int .i64 sp) ∧ w.cell? ⟨G, 3, none⟩ = some (.int .i64 ft) ∧ w.cell? ⟨G, 4, none⟩ = some (.int .i64 ds) ∧
  w.cell? ⟨G, 5, none⟩ = some (.int .u32 la) ∧ w.cell? ⟨G, 6, none⟩ = some (.int .u32 rt) ∧ w.cell? ⟨G, 9, none⟩ = some (.int .i64 (-1)) ∧ ∃ a c, w.cell? ⟨G, 10, none⟩ = some (.slice a s.toNat c)
/-- What volume hands back. -/
def VolPost (dv : Value) (s p r f z sec flags root : Int) (w : World) (e : Ending) (w' : World) : Prop :=
  Below w.heap.size w w' ∧ ((Good s p r f z sec flags root ∧ ∃ G, w.heap.size ≤ G ∧ e = .returned (.tuple #[.pointer (some ⟨G, 0, none⟩), .nilIface]) ∧ FsAt G dv s (s * p) (fatOf s r z flags) (dsOf r f z * s) (clu s p r f z sec + 1) (bits .and .u32 root 268435455) w') ∨
    (¬ Good s p r f z sec flags root ∧ ∃ v, e = .returned (.tuple #[.pointer none, v]) ∧ IsErr v w'))

theorem info5 : (Ybaf.prog.info? 5).map (fun i => (i.zero, i.size, i.bytes)) = some (some (.int .u8 0), 1, 1) := by kernel_rfl
theorem new_cell2 (w : World) (v u : Value) (ty : TypeId) : (w.alloc (.cells #[v, u] ty)).cell? ⟨w.heap.size, 0, none⟩ = some v := by
  have h := heap_alloc_new w (.cells #[v, u] ty)
  simp only [World.cell?, h]; rfl
theorem new_cell2b (w : World) (v u : Value) (ty : TypeId) : (w.alloc (.cells #[v, u] ty)).cell? ⟨w.heap.size, 1, none⟩ = some u := by
  have h := heap_alloc_new w (.cells #[v, u] ty)
  simp only [World.cell?, h]; rfl
theorem valid_any (G : Nat) (n la : Int) (w : World) (h : w.cell? ⟨G, 5, none⟩ = some (.int .u32 la)) :
    Calls Ybaf.prog 22 #[.pointer (some ⟨G, 0, none⟩), .int .u32 n] w fun e w' => e = .returned (.bool (decide (2 ≤ n ∧ n ≤ la))) ∧ w' = w := by
  by_cases h2 : 2 ≤ n
  · by_cases hl : n ≤ la
    · go_enter Ybaf.func22, Ybaf.ntmps22
      go_wp2
      go_ret
      exact ⟨by simp [h2, hl], rfl⟩
    · go_enter Ybaf.func22, Ybaf.ntmps22
      go_wp2
      go_ret
      exact ⟨by simp [hl], rfl⟩
  · go_enter Ybaf.func22, Ybaf.ntmps22
    go_wp2
    go_ret
    exact ⟨by simp; omega, rfl⟩
/-- The new file system's block. -/
theorem fs_cells (dv : Value) (sp ft ds la rt : Int) (sa : Option Addr) (n c : Nat) (w : World) : FsAt w.heap.size dv (n : Int) sp ft ds la rt (w.alloc (.cells #[dv, .int .i64 (n : Int), .int .i64 sp, .int .i64 ft, .int .i64 ds, .int .u32 la, .int .u32 rt, .int .i32 0, .int .u32 0, .int .i64 (-1), .slice sa n c] 41)) := by
  have h := heap_alloc_new w (.cells #[dv, .int .i64 (n : Int), .int .i64 sp, .int .i64 ft, .int .i64 ds, .int .u32 la, .int .u32 rt, .int .i32 0, .int .u32 0, .int .i64 (-1), .slice sa n c] 41)
  refine ⟨?_, ?_, ?_, ?_, ?_, ?_, ?_, ?_, sa, c, ?_⟩ <;> (simp only [World.cell?, h]; rfl)
theorem vol_err {dv v : Value} {s p r f z sec flags root : Int} {w w1 w2 : World} (hn : ¬ Good s p r f z sec flags root) (hl : Below w.heap.size w w1) (he : IsErr v w2) (hb : Below w1.heap.size w1 w2) :
    VolPost dv s p r f z sec flags root w (.returned (.tuple #[.pointer none, v])) w2 :=
  ⟨hl.trans (hb.mono hl.size), .inr ⟨hn, v, rfl, he⟩⟩

set_option maxRecDepth 20000 in
set_option maxHeartbeats 12800000 in
theorem volume_any (F : Interp) (dT : TypeId) (da : Addr) (D : Nat) (zb : Nat → Int) (s p r f z sec flags root : Int) (h : Fits s p r f z sec flags root) (h4 : s ≤ 4096) (hb : Boot zb s p r f z sec flags root) (w : World) (hF : F.answers w.tape)
    (hD : D < w.heap.size) (hz : ∀ i, i < 512 → w.cell? ⟨D, i, none⟩ = some (.int .u8 (zb i))) (hfit : ∀ i, i < 512 → 0 ≤ zb i ∧ zb i ≤ 255) :
    Calls Ybaf.prog 16 #[.iface dT (.pointer (some da)), .slice (some ⟨D, 0, none⟩) 512 512] w fun e w' => VolPost (.iface dT (.pointer (some da))) s p r f z sec flags root w e w' := by
  have FT : Hid _ := h
  obtain ⟨bs, bp, br, bf, bre, bs16, bf16, bsec, bz, bfl, brt, bsig⟩ := hb
  obtain ⟨hs, hp, hr, hf, hzz, hc, hg, ht⟩ := h
  have HZ : Hid _ := hz
  have HT : Hid _ := hfit
  clear hz hfit
  obtain ⟨rt, hrt⟩ : ∃ rt, bits .and .u32 root 268435455 = rt := ⟨_, rfl⟩
  obtain ⟨POST, hPOST⟩ : ∃ POST : Ending → World → Prop, POST = fun e w' => VolPost (.iface dT (.pointer (some da))) s p r f z sec flags root w e w' := ⟨_, rfl⟩
  rw [← hPOST]
  have HP : Hid _ := hPOST
  clear hPOST
  have BS : Hid _ := And.intro bs (And.intro bp (And.intro br (And.intro bf (And.intro bre (And.intro bs16 (And.intro bf16 (And.intro bsec (And.intro bz (And.intro bfl (And.intro brt bsig))))))))))
  clear bs bp br bf bre bs16 bf16 bsec bz bfl brt bsig
  go_enter Ybaf.func16, Ybaf.ntmps16
  go_upto_region 2 with fail
  go_cut [7] from 22 to 26 (fun sv wx => sv = .int .i64 s ∧ Below w.heap.size w wx)
  case first =>
    go_region_held3 (fun _ => True) (trivial) ((go_at_call 25; refine (u16_v D 11 501 501 (zb 11) (zb 12) s BS.out.1 (by omega) _ ((((Below.refl _ _).alloc (Nat.le_refl _) _).drew.cell (p := ⟨D, 11, none⟩) (by exact hD)).trans (HZ.out 11 (by omega))) ((((Below.refl _ _).alloc (Nat.le_refl _) _).drew.cell (p := ⟨D, 12, none⟩) (by exact hD)).trans (HZ.out 12 (by omega))) (HT.out 11 (by omega)) (HT.out 12 (by omega))).mono ?_; rintro e w1 ⟨rfl, hl1⟩))
    go_wp2
    go_meet
    case rel => exact ⟨by first | rfl | rw [wrap_in (by omega)], ((Below.refl _ _).alloc (Nat.le_refl _) _).drew.trans (hl1.mono ((Below.refl _ _).alloc (Nat.le_refl _) _).drew.size)⟩
  case rest =>
    obtain ⟨rfl, hwc⟩ := hcut
    have HL : Hid (Below w.heap.size w wc) := hwc
    clear hwc
    go_upto_region 3 with fail
    go_cut [8] from 27 to 30 (fun sv wx => sv = .int .i64 p ∧ Below w.heap.size w wx)
    case first =>
      have c1 := (HL.out.cell (p := ⟨D, 13, none⟩) (by exact hD)).trans (HZ.out 13 (by omega))
      rw [BS.out.2.1] at c1
      go_wp2
      go_meet
      case rel => exact ⟨by first | rfl | rw [wrap_in (by omega)], HL.out⟩
    case rest =>
      obtain ⟨rfl, hwc⟩ := hcut
      replace HL : Hid (Below w.heap.size w wc) := hwc
      clear hwc
      go_upto_region 4 with fail
      go_cut [9] from 31 to 35 (fun sv wx => sv = .int .i64 r ∧ Below w.heap.size w wx)
      case first =>
        go_region_held3 (fun _ => True) (trivial) ((go_at_call 25; refine (u16_v D 14 498 498 (zb 14) (zb 15) r BS.out.2.2.1 (by omega) _ ((HL.out.drew.cell (p := ⟨D, 14, none⟩) (by exact hD)).trans (HZ.out 14 (by omega))) ((HL.out.drew.cell (p := ⟨D, 15, none⟩) (by exact hD)).trans (HZ.out 15 (by omega))) (HT.out 14 (by omega)) (HT.out 15 (by omega))).mono ?_; rintro e w1 ⟨rfl, hl1⟩))
        go_wp2
        go_meet
        case rel => exact ⟨by first | rfl | rw [wrap_in (by omega)], HL.out.drew.trans (hl1.mono HL.out.drew.size)⟩
      case rest =>
        obtain ⟨rfl, hwc⟩ := hcut
        replace HL : Hid (Below w.heap.size w wc) := hwc
        clear hwc
        go_upto_region 5 with fail
        go_cut [10] from 36 to 39 (fun sv wx => sv = .int .i64 f ∧ Below w.heap.size w wx)
        case first =>
          have c1 := (HL.out.cell (p := ⟨D, 16, none⟩) (by exact hD)).trans (HZ.out 16 (by omega))
          rw [BS.out.2.2.2.1] at c1
          go_wp2
          go_meet
          case rel => exact ⟨by first | rfl | rw [wrap_in (by omega)], HL.out⟩
        case rest =>
          obtain ⟨rfl, hwc⟩ := hcut
          replace HL : Hid (Below w.heap.size w wc) := hwc
          clear hwc
          go_upto_region 6 with fail
          go_cut [11] from 40 to 43 (fun sv wx => sv = .int .u16 0 ∧ Below w.heap.size w wx)
          case first =>
            go_region_held3 (fun _ => True) (trivial) ((go_at_call 25; refine (u16_v D 17 495 495 (zb 17) (zb 18) 0 BS.out.2.2.2.2.1 (by omega) _ ((HL.out.drew.cell (p := ⟨D, 17, none⟩) (by exact hD)).trans (HZ.out 17 (by omega))) ((HL.out.drew.cell (p := ⟨D, 18, none⟩) (by exact hD)).trans (HZ.out 18 (by omega))) (HT.out 17 (by omega)) (HT.out 18 (by omega))).mono ?_; rintro e w1 ⟨rfl, hl1⟩))
            go_wp2
            go_meet
            case rel => exact ⟨by first | rfl | rw [wrap_in (by omega)], HL.out.drew.trans (hl1.mono HL.out.drew.size)⟩
          case rest =>
            obtain ⟨rfl, hwc⟩ := hcut
            replace HL : Hid (Below w.heap.size w wc) := hwc
            clear hwc
            go_upto_region 7 with fail
            go_cut [12] from 44 to 48 (fun sv wx => sv = .int .i64 0 ∧ Below w.heap.size w wx)
            case first =>
              go_region_held3 (fun _ => True) (trivial) ((go_at_call 25; refine (u16_v D 19 493 493 (zb 19) (zb 20) 0 BS.out.2.2.2.2.2.1 (by omega) _ ((HL.out.drew.cell (p := ⟨D, 19, none⟩) (by exact hD)).trans (HZ.out 19 (by omega))) ((HL.out.drew.cell (p := ⟨D, 20, none⟩) (by exact hD)).trans (HZ.out 20 (by omega))) (HT.out 19 (by omega)) (HT.out 20 (by omega))).mono ?_; rintro e w1 ⟨rfl, hl1⟩))
              go_wp2
              go_meet
              case rel => exact ⟨by first | rfl | rw [wrap_in (by omega)], HL.out.drew.trans (hl1.mono HL.out.drew.size)⟩
            case rest =>
              obtain ⟨rfl, hwc⟩ := hcut
              replace HL : Hid (Below w.heap.size w wc) := hwc
              clear hwc
              go_upto_region 9 with fail
              go_cut [12] from 51 to 55 (fun sv wx => sv = .int .i64 sec ∧ Below w.heap.size w wx)
              case first =>
                go_region_held3 (fun _ => True) (trivial) ((go_at_call 21; refine (u32_v D 32 480 480 (zb 32) (zb 33) (zb 34) (zb 35) sec BS.out.2.2.2.2.2.2.2.1 (by omega) _ ((HL.out.drew.cell (p := ⟨D, 32, none⟩) (by exact hD)).trans (HZ.out 32 (by omega))) ((HL.out.drew.cell (p := ⟨D, 33, none⟩) (by exact hD)).trans (HZ.out 33 (by omega))) ((HL.out.drew.cell (p := ⟨D, 34, none⟩) (by exact hD)).trans (HZ.out 34 (by omega))) ((HL.out.drew.cell (p := ⟨D, 35, none⟩) (by exact hD)).trans (HZ.out 35 (by omega))) (HT.out 32 (by omega)) (HT.out 33 (by omega)) (HT.out 34 (by omega)) (HT.out 35 (by omega))).mono ?_; rintro e w1 ⟨rfl, hl1⟩))
                go_wp2
                go_meet
                case rel => exact ⟨by first | rfl | rw [wrap_in (by omega)], HL.out.drew.trans (hl1.mono HL.out.drew.size)⟩
              case rest =>
                obtain ⟨rfl, hwc⟩ := hcut
                replace HL : Hid (Below w.heap.size w wc) := hwc
                clear hwc
                go_upto_region 10 with fail
                go_cut [13] from 56 to 59 (fun sv wx => sv = .int .u16 0 ∧ Below w.heap.size w wx)
                case first =>
                  go_region_held3 (fun _ => True) (trivial) ((go_at_call 25; refine (u16_v D 22 490 490 (zb 22) (zb 23) 0 BS.out.2.2.2.2.2.2.1 (by omega) _ ((HL.out.drew.cell (p := ⟨D, 22, none⟩) (by exact hD)).trans (HZ.out 22 (by omega))) ((HL.out.drew.cell (p := ⟨D, 23, none⟩) (by exact hD)).trans (HZ.out 23 (by omega))) (HT.out 22 (by omega)) (HT.out 23 (by omega))).mono ?_; rintro e w1 ⟨rfl, hl1⟩))
                  go_wp2
                  go_meet
                  case rel => exact ⟨by first | rfl | rw [wrap_in (by omega)], HL.out.drew.trans (hl1.mono HL.out.drew.size)⟩
                case rest =>
                  obtain ⟨rfl, hwc⟩ := hcut
                  replace HL : Hid (Below w.heap.size w wc) := hwc
                  clear hwc
                  go_upto_region 11 with fail
                  go_cut [14] from 60 to 64 (fun sv wx => sv = .int .i64 z ∧ Below w.heap.size w wx)
                  case first =>
                    go_region_held3 (fun _ => True) (trivial) ((go_at_call 21; refine (u32_v D 36 476 476 (zb 36) (zb 37) (zb 38) (zb 39) z BS.out.2.2.2.2.2.2.2.2.1 (by omega) _ ((HL.out.drew.cell (p := ⟨D, 36, none⟩) (by exact hD)).trans (HZ.out 36 (by omega))) ((HL.out.drew.cell (p := ⟨D, 37, none⟩) (by exact hD)).trans (HZ.out 37 (by omega))) ((HL.out.drew.cell (p := ⟨D, 38, none⟩) (by exact hD)).trans (HZ.out 38 (by omega))) ((HL.out.drew.cell (p := ⟨D, 39, none⟩) (by exact hD)).trans (HZ.out 39 (by omega))) (HT.out 36 (by omega)) (HT.out 37 (by omega)) (HT.out 38 (by omega)) (HT.out 39 (by omega))).mono ?_; rintro e w1 ⟨rfl, hl1⟩))
                    go_wp2
                    go_meet
                    case rel => exact ⟨by first | rfl | rw [wrap_in (by omega)], HL.out.drew.trans (hl1.mono HL.out.drew.size)⟩
                  case rest =>
                    obtain ⟨rfl, hwc⟩ := hcut
                    replace HL : Hid (Below w.heap.size w wc) := hwc
                    clear hwc
                    go_upto_region 12 with fail
                    go_cut [15] from 65 to 68 (fun sv wx => sv = .int .u16 flags ∧ Below w.heap.size w wx)
                    case first =>
                      go_region_held3 (fun _ => True) (trivial) ((go_at_call 25; refine (u16_v D 40 472 472 (zb 40) (zb 41) flags BS.out.2.2.2.2.2.2.2.2.2.1 (by omega) _ ((HL.out.drew.cell (p := ⟨D, 40, none⟩) (by exact hD)).trans (HZ.out 40 (by omega))) ((HL.out.drew.cell (p := ⟨D, 41, none⟩) (by exact hD)).trans (HZ.out 41 (by omega))) (HT.out 40 (by omega)) (HT.out 41 (by omega))).mono ?_; rintro e w1 ⟨rfl, hl1⟩))
                      go_wp2
                      go_meet
                      case rel => exact ⟨by first | rfl | rw [wrap_in (by omega)], HL.out.drew.trans (hl1.mono HL.out.drew.size)⟩
                    case rest =>
                      obtain ⟨rfl, hwc⟩ := hcut
                      replace HL : Hid (Below w.heap.size w wc) := hwc
                      clear hwc
                      go_upto_region 13 with fail
                      go_cut [16] from 69 to 73 (fun sv wx => sv = .int .u32 rt ∧ Below w.heap.size w wx)
                      case first =>
                        go_region_held3 (fun _ => True) (trivial) ((go_at_call 21; refine (u32_v D 44 468 468 (zb 44) (zb 45) (zb 46) (zb 47) root BS.out.2.2.2.2.2.2.2.2.2.2.1 (by omega) _ ((HL.out.drew.cell (p := ⟨D, 44, none⟩) (by exact hD)).trans (HZ.out 44 (by omega))) ((HL.out.drew.cell (p := ⟨D, 45, none⟩) (by exact hD)).trans (HZ.out 45 (by omega))) ((HL.out.drew.cell (p := ⟨D, 46, none⟩) (by exact hD)).trans (HZ.out 46 (by omega))) ((HL.out.drew.cell (p := ⟨D, 47, none⟩) (by exact hD)).trans (HZ.out 47 (by omega))) (HT.out 44 (by omega)) (HT.out 45 (by omega)) (HT.out 46 (by omega)) (HT.out 47 (by omega))).mono ?_; rintro e w1 ⟨rfl, hl1⟩))
                        go_wp2
                        go_meet
                        case rel => exact ⟨by first | rfl | rw [wrap_in (by omega)], HL.out.drew.trans (hl1.mono HL.out.drew.size)⟩
                      case rest =>
                        obtain ⟨rfl, hwc⟩ := hcut
                        replace HL : Hid (Below w.heap.size w wc) := hwc
                        clear hwc
                        go_upto_region 14 with fail
                        go_cut [74] from 75 to 79 (fun sv wx => sv = .bool false ∧ Below w.heap.size w wx)
                        case first =>
                          go_region_held3 (fun _ => True) (trivial) ((go_at_call 25; refine (u16_v D 510 2 2 (zb 510) (zb 511) 43605 BS.out.2.2.2.2.2.2.2.2.2.2.2 (by omega) _ ((HL.out.drew.cell (p := ⟨D, 510, none⟩) (by exact hD)).trans (HZ.out 510 (by omega))) ((HL.out.drew.cell (p := ⟨D, 511, none⟩) (by exact hD)).trans (HZ.out 511 (by omega))) (HT.out 510 (by omega)) (HT.out 511 (by omega))).mono ?_; rintro e w1 ⟨rfl, hl1⟩))
                          go_wp2
                          go_meet
                          case rel => exact ⟨by first | rfl | rw [wrap_in (by omega)], HL.out.drew.trans (hl1.mono HL.out.drew.size)⟩
                        case rest =>
                          obtain ⟨rfl, hwc⟩ := hcut
                          replace HL : Hid (Below w.heap.size w wc) := hwc
                          clear hwc
                          have hFc : F.answers wc.tape := by rw [HL.out.tape]; exact hF
                          have HFC : Hid _ := hFc
                          clear hFc
                          obtain ⟨q, sp, rs, ds, zs, c1, a, az, azs, b8, rt', N⟩ := nums FT.out
                          obtain ⟨hq, hq1, hsp, hrs, hrs1, hds, hzs, hzs1, hc1, hc2, ha, ha1, haz, hazs, hazs1, hb8, hrt', hrt1, eq, esp, ers, eds, ezs, ec1, eaz⟩ := N
                          obtain rfl : rt' = rt := hrt'.symm.trans hrt
                          by_cases k0 : s < 512
                          · have t1 : decide (s < 512) = true := by simp [k0]
                            go_wp2_with (go_at_call 13; refine (errorf_d1 F _ (fun _ => by kernel_rfl) _ _ _ (by exact HFC.out) (new_cell _ _ _)).mono ?_; rintro e w2 ⟨v, rfl, he, hb2⟩)
                            rw [HP.out]
                            exact vol_err (fun g => by have := g.s0; omega) (HL.out.alloc HL.out.size _) he hb2
                          have t1 : decide (s < 512) = false := by simp; omega
                          have t2 : decide (4096 < s) = false := by simp; omega
                          by_cases k1 : bits .and .i64 s (s - 1) = 0
                          rotate_left
                          · have k1' : (bits BinOp.and IntKind.i64 s (s - 1) != 0) = true := by simp [k1]
                            go_wp2_with (go_at_call 13; refine (errorf_d1 F _ (fun _ => by kernel_rfl) _ _ _ (by exact HFC.out) (new_cell _ _ _)).mono ?_; rintro e w2 ⟨v, rfl, he, hb2⟩)
                            rw [HP.out]
                            exact vol_err (fun g => k1 g.s2) (HL.out.alloc HL.out.size _) he hb2
                          by_cases k2 : p = 0
                          · have t3 : (p == 0) = true := by simp [k2]
                            go_wp2_with (go_at_call 13; refine (errorf_d1 F _ (fun _ => by kernel_rfl) _ _ _ (by exact HFC.out) (new_cell _ _ _)).mono ?_; rintro e w2 ⟨v, rfl, he, hb2⟩)
                            rw [HP.out]
                            exact vol_err (fun g => g.p0 k2) (HL.out.alloc HL.out.size _) he hb2
                          have t3 : (p == 0) = false := by simp [k2]
                          by_cases k3 : bits .and .i64 p (p - 1) = 0
                          rotate_left
                          · have k3' : (bits BinOp.and IntKind.i64 p (p - 1) != 0) = true := by simp [k3]
                            go_wp2_with (go_at_call 13; refine (errorf_d1 F _ (fun _ => by kernel_rfl) _ _ _ (by exact HFC.out) (new_cell _ _ _)).mono ?_; rintro e w2 ⟨v, rfl, he, hb2⟩)
                            rw [HP.out]
                            exact vol_err (fun g => k3 g.p1) (HL.out.alloc HL.out.size _) he hb2
                          by_cases k4 : r = 0
                          · have t4 : (r == 0) = true := by simp [k4]
                            go_wp2_with (go_at_call 13; refine (errorf_d2 F _ (fun _ => by kernel_rfl) _ _ _ _ (by exact HFC.out) (new_cell2 _ _ _ _) (new_cell2b _ _ _ _)).mono ?_; rintro e w2 ⟨v, rfl, he, hb2⟩)
                            rw [HP.out]
                            exact vol_err (fun g => g.r0 k4) (HL.out.alloc HL.out.size _) he hb2
                          have t4 : (r == 0) = false := by simp [k4]
                          by_cases k5 : f = 0
                          · have t5 : (f == 0) = true := by simp [k5]
                            go_wp2_with (go_at_call 13; refine (errorf_d2 F _ (fun _ => by kernel_rfl) _ _ _ _ (by exact HFC.out) (new_cell2 _ _ _ _) (new_cell2b _ _ _ _)).mono ?_; rintro e w2 ⟨v, rfl, he, hb2⟩)
                            rw [HP.out]
                            exact vol_err (fun g => g.f0 k5) (HL.out.alloc HL.out.size _) he hb2
                          have t5 : (f == 0) = false := by simp [k5]
                          by_cases k6 : z = 0
                          · have t6 : (z == 0) = true := by simp [k6]
                            go_wp2_with (go_at_call 24; refine (new_any _ _).mono ?_; rintro e w2 ⟨v, rfl, he, hb2⟩)
                            rw [HP.out]
                            exact vol_err (fun g => g.z0 k6) HL.out he hb2
                          have t6 : (z == 0) = false := by simp [k6]
                          have HZS : Hid (512 ≤ zs) := by
                            rw [ezs]
                            have : 1 * 512 ≤ z * s := Int.mul_le_mul (by omega) (by omega) (by omega) (by omega)
                            show 512 ≤ z * s
                            omega
                          have EQ : Hid _ := eq
                          have EX : Hid _ := And.intro esp (And.intro ers (And.intro eds (And.intro ezs (And.intro ec1 eaz))))
                          clear eq esp ers eds ezs ec1 eaz
                          by_cases k7 : sec < r + q + p
                          · have t7 : decide (sec < r + q + p) = true := by simp [k7]
                            go_wp2_with (go_at_call 13; refine (errorf_d1 F _ (fun _ => by kernel_rfl) _ _ _ (by exact HFC.out) (new_cell _ _ _)).mono ?_; rintro e w2 ⟨v, rfl, he, hb2⟩)
                            rw [HP.out]
                            exact vol_err (fun g => by have := g.d; rw [dsOf, ← EQ.out] at this; omega) (HL.out.alloc HL.out.size _) he hb2
                          have t7 : decide (sec < r + q + p) = false := by simp; omega
                          have hzs2 : 512 ≤ zs := HZS.out
                          have k9 : r + q ≤ sec := by omega
                          replace hc1 := hc1 k9
                          replace hc2 := hc2 k9
                          obtain ⟨C, hC⟩ : ∃ C, min (min c1 (zs / 4 - 2)) 268435445 = C := ⟨_, rfl⟩
                          have hC0 : 0 ≤ C ∧ C ≤ 268435445 := by omega
                          have HC : Hid _ := hC
                          clear hC hzs2
                          go_upto_region 29 with fail
                          go_cut [18] from 152 to 162 (fun sv wx => sv = .int .i64 C ∧ wx = wc)
                          case first =>
                            go_wp2_with fail
                            all_goals
                              go_meet
                              case rel => exact ⟨by have := HC.out; congr 1; omega, rfl⟩
                          case rest =>
                            obtain ⟨rfl, rfl⟩ := hcut
                            obtain ⟨S, rfl⟩ := Int.eq_ofNat_of_zero_le hs.1
                            obtain ⟨i0, hi, hz0, hz1, hz2⟩ := info_parts info5
                            go_wp2_with (at_make; refine wpList_make_full _ rfl _ _ 25 rfl w.heap.size 5 i0 (.int .u8 0) 1 Ybaf.underlying25 hi hz0 hz1 _ _ _ _ S rfl rfl rfl rfl (by rw [hz2]; omega) (by unfold maxLen; omega) HL.out.size ?_)
                            intro w3 hown hgrow
                            have HL3 : Hid (Below w.heap.size w w3) := HL.out.grown hgrow HL.out.size (fun k h => by cases h)
                            have HF3 : Hid (F.answers w3.tape) := by rw [hgrow.tape]; exact HFC.out
                            clear hown hgrow
                            go_upto_region 31 with fail
                            have HRT : Hid _ := hrt
                            have HE : Hid ((S : Int) * p = sp ∧ dsOf r f z * (S : Int) = ds ∧ clu (S : Int) p r f z sec = C) :=
                              ⟨EX.out.1.symm, by rw [dsOf, ← EQ.out]; exact EX.out.2.2.1.symm, by unfold clu dsOf; rw [← EQ.out, ← EX.out.2.2.2.1, ← EX.out.2.2.2.2.1 k9]; exact HC.out⟩
                            have GOOD : Hid ((b8 = 0 ∨ a < f) → (2 ≤ rt' ∧ rt' ≤ C + 1) → Good (S : Int) p r f z sec flags root) := fun h1 h2 =>
                              ⟨by omega, h4, k1, k2, k3, k4, k5, k6, by rw [dsOf, ← EQ.out]; omega, by rw [hb8, ha]; exact h1, by rw [hrt]; exact h2.1, by rw [hrt, HE.out.2.2]; exact h2.2⟩
                            have hFAT : fatOf (S : Int) r z flags = rs + (if b8 = 0 then 0 else azs) := by unfold fatOf; rw [hb8, ha, ← EX.out.2.1, ← EX.out.2.2.2.2.2]
                            have FAT : Hid _ := hFAT
                            clear hFAT
                            clear t7 hq hds hc1 hc2
                            by_cases hb : b8 = 0
                            · have e0 : (b8 != 0) = false := by simp [hb]
                              have HA : Hid (b8 = 0 ∨ a < f) := .inl hb
                              have hft : Hid (fatOf (S : Int) r z flags = rs) := by show fatOf (S : Int) r z flags = rs; rw [FAT.out, if_pos hb, Int.add_zero]
                              clear FAT
                              go_upto_region 36 with fail
                              generalize hW4 : World.alloc w3 _ = W4
                              have FS : Hid (FsAt w3.heap.size (.iface dT (.pointer (some da))) (S : Int) sp (rs) ds (C + 1) rt' W4) := hW4 ▸ fs_cells (.iface dT (.pointer (some da))) sp (rs) ds (C + 1) rt' (some ⟨wc.heap.size, 0, none⟩) S S w3
                              have BL : Hid (Below w.heap.size w W4) := hW4 ▸ HL3.out.alloc HL3.out.size _
                              have HF4 : Hid (F.answers W4.tape) := by rw [← hW4]; exact HF3.out
                              have CL : Hid (W4.cell? ⟨w3.heap.size, 5, none⟩ = some (.int .u32 (C + 1))) := FS.out.2.2.2.2.2.1
                              have GLE : Hid (w.heap.size ≤ w3.heap.size) := HL3.out.size
                              clear hW4 HL3 HF3 HFC HL
                              by_cases hv : 2 ≤ rt' ∧ rt' ≤ C + 1
                              · have vd : decide (2 ≤ rt' ∧ rt' ≤ C + 1) = true := by simp only [hv, and_self, decide_true]
                                have HV : Hid _ := hv
                                clear hv
                                go_wp2_with (go_at_call 22; refine (valid_any w3.heap.size rt' (C + 1) W4 CL.out).mono ?_; rintro e w4 ⟨rfl, rfl⟩)
                                rw [HP.out]
                                refine ⟨BL.out, .inl ⟨GOOD.out HA.out HV.out, w3.heap.size, GLE.out, rfl, ?_⟩⟩
                                rw [HE.out.1, HE.out.2.1, HE.out.2.2, hft.out, HRT.out]
                                exact FS.out
                              · have vd : decide (2 ≤ rt' ∧ rt' ≤ C + 1) = false := by simp only [hv, decide_false]
                                have HV : Hid _ := hv
                                clear hv
                                have c5 := CL.out
                                go_wp2_with (first | (go_at_call 22; refine (valid_any w3.heap.size rt' (C + 1) W4 CL.out).mono ?_; rintro e w4 ⟨rfl, rfl⟩) | (go_at_call 13; refine (errorf_u2 F _ (fun _ => by kernel_rfl) _ _ _ _ (by exact HF4.out) (new_cell2 _ _ _ _) (new_cell2b _ _ _ _)).mono ?_; rintro e w2 ⟨v, rfl, he, hb2⟩))
                                rw [HP.out]
                                exact vol_err (fun g => HV.out ⟨by rw [← HRT.out]; exact g.t0, by rw [← HRT.out, ← HE.out.2.2]; exact g.t1⟩) (BL.out.alloc BL.out.size _) he hb2
                            · have e0 : (b8 != 0) = true := by simp [hb]
                              have hft : Hid (fatOf (S : Int) r z flags = rs + azs) := by show fatOf (S : Int) r z flags = rs + azs; rw [FAT.out, if_neg hb]
                              clear FAT
                              by_cases e1 : a < f
                              · have e2 : decide (f ≤ a) = false := by simp; omega
                                have HA : Hid (b8 = 0 ∨ a < f) := .inr e1
                                go_upto_region 36 with fail
                                generalize hW4 : World.alloc w3 _ = W4
                                have FS : Hid (FsAt w3.heap.size (.iface dT (.pointer (some da))) (S : Int) sp (rs + azs) ds (C + 1) rt' W4) := hW4 ▸ fs_cells (.iface dT (.pointer (some da))) sp (rs + azs) ds (C + 1) rt' (some ⟨wc.heap.size, 0, none⟩) S S w3
                                have BL : Hid (Below w.heap.size w W4) := hW4 ▸ HL3.out.alloc HL3.out.size _
                                have HF4 : Hid (F.answers W4.tape) := by rw [← hW4]; exact HF3.out
                                have CL : Hid (W4.cell? ⟨w3.heap.size, 5, none⟩ = some (.int .u32 (C + 1))) := FS.out.2.2.2.2.2.1
                                have GLE : Hid (w.heap.size ≤ w3.heap.size) := HL3.out.size
                                clear hW4 HL3 HF3 HFC HL
                                by_cases hv : 2 ≤ rt' ∧ rt' ≤ C + 1
                                · have vd : decide (2 ≤ rt' ∧ rt' ≤ C + 1) = true := by simp only [hv, and_self, decide_true]
                                  have HV : Hid _ := hv
                                  clear hv
                                  go_wp2_with (go_at_call 22; refine (valid_any w3.heap.size rt' (C + 1) W4 CL.out).mono ?_; rintro e w4 ⟨rfl, rfl⟩)
                                  rw [HP.out]
                                  refine ⟨BL.out, .inl ⟨GOOD.out HA.out HV.out, w3.heap.size, GLE.out, rfl, ?_⟩⟩
                                  rw [HE.out.1, HE.out.2.1, HE.out.2.2, hft.out, HRT.out]
                                  exact FS.out
                                · have vd : decide (2 ≤ rt' ∧ rt' ≤ C + 1) = false := by simp only [hv, decide_false]
                                  have HV : Hid _ := hv
                                  clear hv
                                  have c5 := CL.out
                                  go_wp2_with (first | (go_at_call 22; refine (valid_any w3.heap.size rt' (C + 1) W4 CL.out).mono ?_; rintro e w4 ⟨rfl, rfl⟩) | (go_at_call 13; refine (errorf_u2 F _ (fun _ => by kernel_rfl) _ _ _ _ (by exact HF4.out) (new_cell2 _ _ _ _) (new_cell2b _ _ _ _)).mono ?_; rintro e w2 ⟨v, rfl, he, hb2⟩))
                                  rw [HP.out]
                                  exact vol_err (fun g => HV.out ⟨by rw [← HRT.out]; exact g.t0, by rw [← HRT.out, ← HE.out.2.2]; exact g.t1⟩) (BL.out.alloc BL.out.size _) he hb2
                              · have e2 : decide (f ≤ a) = true := by simp; omega
                                have HNG : Hid (¬ Good (S : Int) p r f z sec flags root) := fun g => by
                                  have := g.a
                                  rw [hb8, ha] at this
                                  omega
                                go_upto_region 34 with fail
                                generalize hW4 : World.alloc w3 _ = W4
                                have BL : Hid (Below w.heap.size w W4) := hW4 ▸ HL3.out.alloc HL3.out.size _
                                have HF4 : Hid (F.answers W4.tape) := by rw [← hW4]; exact HF3.out
                                clear hW4 HL3 HF3 HFC HL
                                go_wp2_with (go_at_call 13; refine (errorf_d2 F _ (fun _ => by kernel_rfl) _ _ _ _ (by exact HF4.out) (new_cell2 _ _ _ _) (new_cell2b _ _ _ _)).mono ?_; rintro e w2 ⟨v, rfl, he, hb2⟩)
                                rw [HP.out]
                                exact vol_err HNG.out (BL.out.alloc BL.out.size _) he hb2
end Go.Proofs.YbulkbzbaFmt
