/-
  OWN WORK. THE WALK of the laws' own writer of a boot sector, at offset o of a buffer.
-/
import Derived.Test.YbulkbzbaFmtBin
namespace Go.Proofs.YbulkbzbaFmt
open Go.RowKit

def up16 (z : Nat → Int) (o : Nat) (v : Int) : Nat → Int := up (up z o (v % 256)) (o + 1) (v / 256)
def up32 (z : Nat → Int) (o : Nat) (v : Int) : Nat → Int := up (up (up (up z o (v % 256)) (o + 1) (v / 256 % 256)) (o + 2) (v / 65536 % 256)) (o + 3) (v / 16777216)
def boot1 (z : Nat → Int) (o : Nat) (s p : Int) : Nat → Int := up (up16 z (o + 11) s) (o + 13) p
def boot2 (z : Nat → Int) (o : Nat) (r f : Int) : Nat → Int := up (up16 z (o + 14) r) (o + 16) f
def boot3 (z : Nat → Int) (o : Nat) : Nat → Int := up16 (up16 (up16 z (o + 17) 0) (o + 19) 0) (o + 22) 0
def boot4 (z : Nat → Int) (o : Nat) (sec zz flags root : Int) : Nat → Int := up32 (up16 (up32 (up32 z (o + 32) sec) (o + 36) zz) (o + 40) flags) (o + 44) root
def boot5 (z : Nat → Int) (o : Nat) : Nat → Int := up (up z (o + 510) 85) (o + 511) 170
def boot (z : Nat → Int) (o : Nat) (s p r f zz sec flags root : Int) : Nat → Int := boot5 (boot4 (boot3 (boot2 (boot1 z o s p) o r f) o) o sec zz flags root) o

theorem Buf.drew {B b n : Nat} {z : Nat → Int} {w : World} (h : Buf B b n z w) : Buf B b n z w.drew := h.later (Below.refl _ _).drew

set_option maxRecDepth 20000 in
set_option maxHeartbeats 3200000 in
theorem put_any (B b n o : Nat) (z : Nat → Int) (s p r f zz sec flags root : Int) (ho : o + 512 ≤ n) (hs : 0 ≤ s ∧ s ≤ 65535) (hp : 0 ≤ p ∧ p ≤ 255) (hr : 0 ≤ r ∧ r ≤ 65535) (hf : 0 ≤ f ∧ f ≤ 255) (hz : 0 ≤ zz ∧ zz ≤ 4294967295)
    (hc : 0 ≤ sec ∧ sec ≤ 4294967295) (hg : 0 ≤ flags ∧ flags ≤ 65535) (ht : 0 ≤ root ∧ root ≤ 4294967295) (w : World) (h : Buf B b n z w) :
    Calls Ybaf.prog 8 #[.slice (some ⟨b, o, none⟩) 512 512, .int .i64 s, .int .u8 p, .int .u16 r, .int .u8 f, .int .u32 zz, .int .u32 sec, .int .u16 flags, .int .u32 root] w fun e w' =>
      e = .returned (.tuple #[]) ∧ Buf B b n (boot z o s p r f zz sec flags root) w' ∧ Below B w w' := by
  have HB : Hid (Buf B b n z w) := h
  have hBw : B ≤ w.heap.size := by have := h.base; have := h.lt; omega
  have es : IntKind.u16.wrap s = s := by rw [IntKind.wrap_u16]; omega
  clear h
  go_enter Ybaf.func8, Ybaf.ntmps8
  go_upto_region 1 with fail
  go_cut [] (fun wx => Buf B b n (up16 (z) (o + 11) s) wx ∧ Below B w wx)
  case first =>
    go_region_held3 (fun _ => True) (trivial) ((go_at_call 14; refine (p16_any B b n (o + 11) 501 501 (z) s (by omega) (by omega) (by omega) (by omega) _ ((HB.out.alloc _).drew)).mono ?_; rintro e w1 ⟨rfl, hb1, hl1⟩))
    go_wp2
    go_meet
    case rel => exact ⟨hb1, (((Below.refl _ _).alloc hBw _).drew).trans hl1⟩
  case rest =>
    replace HB : Hid (Buf B b n (up16 (z) (o + 11) s) wc) := hcut.1
    have HL : Hid (Below B w wc) := hcut.2
    clear hcut
    go_upto_region 2 with fail
    have c13 := HB.out.vals (o + 13) (by omega)
    have f13 := HB.out.fz (o + 13)
    go_cut [] (fun wx => Buf B b n (up (up16 (z) (o + 11) s) (o + 13) p) wx ∧ Below B w wx)
    case first =>
      go_wp2
      go_meet
      case rel => exact ⟨HB.out.put (o + 13) p (by omega) (by omega), HL.out.setCell (by exact HB.out.base) _⟩
    case rest =>
      replace HB : Hid (Buf B b n (up (up16 (z) (o + 11) s) (o + 13) p) wc) := hcut.1
      replace HL : Hid (Below B w wc) := hcut.2
      clear hcut
      go_upto_region 3 with fail
      go_cut [] (fun wx => Buf B b n (up16 (up (up16 (z) (o + 11) s) (o + 13) p) (o + 14) r) wx ∧ Below B w wx)
      case first =>
        go_region_held3 (fun _ => True) (trivial) ((go_at_call 14; refine (p16_any B b n (o + 14) 498 498 (up (up16 (z) (o + 11) s) (o + 13) p) r (by omega) (by omega) (by omega) (by omega) _ (HB.out.drew)).mono ?_; rintro e w1 ⟨rfl, hb1, hl1⟩))
        go_wp2
        go_meet
        case rel => exact ⟨hb1, HL.out.drew.trans hl1⟩
      case rest =>
        replace HB : Hid (Buf B b n (up16 (up (up16 (z) (o + 11) s) (o + 13) p) (o + 14) r) wc) := hcut.1
        replace HL : Hid (Below B w wc) := hcut.2
        clear hcut
        go_upto_region 4 with fail
        have c16 := HB.out.vals (o + 16) (by omega)
        have f16 := HB.out.fz (o + 16)
        go_cut [] (fun wx => Buf B b n (up (up16 (up (up16 (z) (o + 11) s) (o + 13) p) (o + 14) r) (o + 16) f) wx ∧ Below B w wx)
        case first =>
          go_wp2
          go_meet
          case rel => exact ⟨HB.out.put (o + 16) f (by omega) (by omega), HL.out.setCell (by exact HB.out.base) _⟩
        case rest =>
          replace HB : Hid (Buf B b n (up (up16 (up (up16 (z) (o + 11) s) (o + 13) p) (o + 14) r) (o + 16) f) wc) := hcut.1
          replace HL : Hid (Below B w wc) := hcut.2
          clear hcut
          go_upto_region 5 with fail
          go_cut [] (fun wx => Buf B b n (up16 (up (up16 (up (up16 (z) (o + 11) s) (o + 13) p) (o + 14) r) (o + 16) f) (o + 17) 0) wx ∧ Below B w wx)
          case first =>
            go_region_held3 (fun _ => True) (trivial) ((go_at_call 14; refine (p16_any B b n (o + 17) 495 495 (up (up16 (up (up16 (z) (o + 11) s) (o + 13) p) (o + 14) r) (o + 16) f) 0 (by omega) (by omega) (by omega) (by omega) _ (HB.out.drew)).mono ?_; rintro e w1 ⟨rfl, hb1, hl1⟩))
            go_wp2
            go_meet
            case rel => exact ⟨hb1, HL.out.drew.trans hl1⟩
          case rest =>
            replace HB : Hid (Buf B b n (up16 (up (up16 (up (up16 (z) (o + 11) s) (o + 13) p) (o + 14) r) (o + 16) f) (o + 17) 0) wc) := hcut.1
            replace HL : Hid (Below B w wc) := hcut.2
            clear hcut
            go_upto_region 6 with fail
            go_cut [] (fun wx => Buf B b n (up16 (up16 (up (up16 (up (up16 (z) (o + 11) s) (o + 13) p) (o + 14) r) (o + 16) f) (o + 17) 0) (o + 19) 0) wx ∧ Below B w wx)
            case first =>
              go_region_held3 (fun _ => True) (trivial) ((go_at_call 14; refine (p16_any B b n (o + 19) 493 493 (up16 (up (up16 (up (up16 (z) (o + 11) s) (o + 13) p) (o + 14) r) (o + 16) f) (o + 17) 0) 0 (by omega) (by omega) (by omega) (by omega) _ (HB.out.drew)).mono ?_; rintro e w1 ⟨rfl, hb1, hl1⟩))
              go_wp2
              go_meet
              case rel => exact ⟨hb1, HL.out.drew.trans hl1⟩
            case rest =>
              replace HB : Hid (Buf B b n (up16 (up16 (up (up16 (up (up16 (z) (o + 11) s) (o + 13) p) (o + 14) r) (o + 16) f) (o + 17) 0) (o + 19) 0) wc) := hcut.1
              replace HL : Hid (Below B w wc) := hcut.2
              clear hcut
              go_upto_region 7 with fail
              go_cut [] (fun wx => Buf B b n (up16 (up16 (up16 (up (up16 (up (up16 (z) (o + 11) s) (o + 13) p) (o + 14) r) (o + 16) f) (o + 17) 0) (o + 19) 0) (o + 22) 0) wx ∧ Below B w wx)
              case first =>
                go_region_held3 (fun _ => True) (trivial) ((go_at_call 14; refine (p16_any B b n (o + 22) 490 490 (up16 (up16 (up (up16 (up (up16 (z) (o + 11) s) (o + 13) p) (o + 14) r) (o + 16) f) (o + 17) 0) (o + 19) 0) 0 (by omega) (by omega) (by omega) (by omega) _ (HB.out.drew)).mono ?_; rintro e w1 ⟨rfl, hb1, hl1⟩))
                go_wp2
                go_meet
                case rel => exact ⟨hb1, HL.out.drew.trans hl1⟩
              case rest =>
                replace HB : Hid (Buf B b n (up16 (up16 (up16 (up (up16 (up (up16 (z) (o + 11) s) (o + 13) p) (o + 14) r) (o + 16) f) (o + 17) 0) (o + 19) 0) (o + 22) 0) wc) := hcut.1
                replace HL : Hid (Below B w wc) := hcut.2
                clear hcut
                go_upto_region 8 with fail
                go_cut [] (fun wx => Buf B b n (up32 (up16 (up16 (up16 (up (up16 (up (up16 (z) (o + 11) s) (o + 13) p) (o + 14) r) (o + 16) f) (o + 17) 0) (o + 19) 0) (o + 22) 0) (o + 32) sec) wx ∧ Below B w wx)
                case first =>
                  go_region_held3 (fun _ => True) (trivial) ((go_at_call 6; refine (p32_any B b n (o + 32) 480 480 (up16 (up16 (up16 (up (up16 (up (up16 (z) (o + 11) s) (o + 13) p) (o + 14) r) (o + 16) f) (o + 17) 0) (o + 19) 0) (o + 22) 0) sec (by omega) (by omega) (by omega) (by omega) _ (HB.out.drew)).mono ?_; rintro e w1 ⟨rfl, hb1, hl1⟩))
                  go_wp2
                  go_meet
                  case rel => exact ⟨hb1, HL.out.drew.trans hl1⟩
                case rest =>
                  replace HB : Hid (Buf B b n (up32 (up16 (up16 (up16 (up (up16 (up (up16 (z) (o + 11) s) (o + 13) p) (o + 14) r) (o + 16) f) (o + 17) 0) (o + 19) 0) (o + 22) 0) (o + 32) sec) wc) := hcut.1
                  replace HL : Hid (Below B w wc) := hcut.2
                  clear hcut
                  go_upto_region 9 with fail
                  go_cut [] (fun wx => Buf B b n (up32 (up32 (up16 (up16 (up16 (up (up16 (up (up16 (z) (o + 11) s) (o + 13) p) (o + 14) r) (o + 16) f) (o + 17) 0) (o + 19) 0) (o + 22) 0) (o + 32) sec) (o + 36) zz) wx ∧ Below B w wx)
                  case first =>
                    go_region_held3 (fun _ => True) (trivial) ((go_at_call 6; refine (p32_any B b n (o + 36) 476 476 (up32 (up16 (up16 (up16 (up (up16 (up (up16 (z) (o + 11) s) (o + 13) p) (o + 14) r) (o + 16) f) (o + 17) 0) (o + 19) 0) (o + 22) 0) (o + 32) sec) zz (by omega) (by omega) (by omega) (by omega) _ (HB.out.drew)).mono ?_; rintro e w1 ⟨rfl, hb1, hl1⟩))
                    go_wp2
                    go_meet
                    case rel => exact ⟨hb1, HL.out.drew.trans hl1⟩
                  case rest =>
                    replace HB : Hid (Buf B b n (up32 (up32 (up16 (up16 (up16 (up (up16 (up (up16 (z) (o + 11) s) (o + 13) p) (o + 14) r) (o + 16) f) (o + 17) 0) (o + 19) 0) (o + 22) 0) (o + 32) sec) (o + 36) zz) wc) := hcut.1
                    replace HL : Hid (Below B w wc) := hcut.2
                    clear hcut
                    go_upto_region 10 with fail
                    go_cut [] (fun wx => Buf B b n (up16 (up32 (up32 (up16 (up16 (up16 (up (up16 (up (up16 (z) (o + 11) s) (o + 13) p) (o + 14) r) (o + 16) f) (o + 17) 0) (o + 19) 0) (o + 22) 0) (o + 32) sec) (o + 36) zz) (o + 40) flags) wx ∧ Below B w wx)
                    case first =>
                      go_region_held3 (fun _ => True) (trivial) ((go_at_call 14; refine (p16_any B b n (o + 40) 472 472 (up32 (up32 (up16 (up16 (up16 (up (up16 (up (up16 (z) (o + 11) s) (o + 13) p) (o + 14) r) (o + 16) f) (o + 17) 0) (o + 19) 0) (o + 22) 0) (o + 32) sec) (o + 36) zz) flags (by omega) (by omega) (by omega) (by omega) _ (HB.out.drew)).mono ?_; rintro e w1 ⟨rfl, hb1, hl1⟩))
                      go_wp2
                      go_meet
                      case rel => exact ⟨hb1, HL.out.drew.trans hl1⟩
                    case rest =>
                      replace HB : Hid (Buf B b n (up16 (up32 (up32 (up16 (up16 (up16 (up (up16 (up (up16 (z) (o + 11) s) (o + 13) p) (o + 14) r) (o + 16) f) (o + 17) 0) (o + 19) 0) (o + 22) 0) (o + 32) sec) (o + 36) zz) (o + 40) flags) wc) := hcut.1
                      replace HL : Hid (Below B w wc) := hcut.2
                      clear hcut
                      go_upto_region 11 with fail
                      go_cut [] (fun wx => Buf B b n (up32 (up16 (up32 (up32 (up16 (up16 (up16 (up (up16 (up (up16 (z) (o + 11) s) (o + 13) p) (o + 14) r) (o + 16) f) (o + 17) 0) (o + 19) 0) (o + 22) 0) (o + 32) sec) (o + 36) zz) (o + 40) flags) (o + 44) root) wx ∧ Below B w wx)
                      case first =>
                        go_region_held3 (fun _ => True) (trivial) ((go_at_call 6; refine (p32_any B b n (o + 44) 468 468 (up16 (up32 (up32 (up16 (up16 (up16 (up (up16 (up (up16 (z) (o + 11) s) (o + 13) p) (o + 14) r) (o + 16) f) (o + 17) 0) (o + 19) 0) (o + 22) 0) (o + 32) sec) (o + 36) zz) (o + 40) flags) root (by omega) (by omega) (by omega) (by omega) _ (HB.out.drew)).mono ?_; rintro e w1 ⟨rfl, hb1, hl1⟩))
                        go_wp2
                        go_meet
                        case rel => exact ⟨hb1, HL.out.drew.trans hl1⟩
                      case rest =>
                        replace HB : Hid (Buf B b n (up32 (up16 (up32 (up32 (up16 (up16 (up16 (up (up16 (up (up16 (z) (o + 11) s) (o + 13) p) (o + 14) r) (o + 16) f) (o + 17) 0) (o + 19) 0) (o + 22) 0) (o + 32) sec) (o + 36) zz) (o + 40) flags) (o + 44) root) wc) := hcut.1
                        replace HL : Hid (Below B w wc) := hcut.2
                        clear hcut
                        go_upto_region 12 with fail
                        have c510 := HB.out.vals (o + 510) (by omega)
                        have f510 := HB.out.fz (o + 510)
                        have c511 : ∀ v, (wc.setCell ⟨b, o + 510, none⟩ v).cell? ⟨b, o + 511, none⟩ = _ := fun v => (World.cell?_setCell_other _ _ _ _ (by simp)).trans (HB.out.vals (o + 511) (by omega))
                        have f511 := HB.out.fz (o + 511)
                        go_wp2
                        refine bodyPost_end (v := .tuple #[]) (by simp [results, Ybaf.results8, go_sem]) rfl ?_
                        exact ⟨rfl, (HB.out.put (o + 510) 85 (by omega) (by omega)).put (o + 511) 170 (by omega) (by omega), (HL.out.setCell (by exact HB.out.base) _).setCell (by exact HB.out.base) _⟩
end Go.Proofs.YbulkbzbaFmt
