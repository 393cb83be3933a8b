/-
  OWN WORK. THE WALK of LawS3770CDirect.
-/
import Derived.Test.YbulkbzbaFmtMake
import Derived.Test.YbulkbzbaFmtPut
import Derived.Test.YbulkbzbaFmtBad
import Derived.LaidEql
namespace Go.Proofs.YbulkbzbaFmt
open Go.RowKit Go.Extern.Stop Go.Stop Go.Extern

/-- The sector size that the law takes. -/
def szOf (k : Nat) : Int := if k = 0 then 512 else if k = 1 then 1024 else if k = 2 then 2048 else if k = 3 then 4096 else 768
theorem szOf_in (k : Nat) : 512 ≤ szOf k ∧ szOf k ≤ 4096 := by unfold szOf; split <;> (try omega) <;> split <;> (try omega) <;> split <;> (try omega) <;> split <;> omega

theorem boot_of (z : Nat → Int) (s p r f zz sec flags root : Int) (h : Fits s p r f zz sec flags root) : Boot (boot z 0 s p r f zz sec flags root) s p r f zz sec flags root := by
  obtain ⟨hs, hp, hr, hf, hz, hc, hg, ht⟩ := h
  constructor <;> simp [boot, boot1, boot2, boot3, boot4, boot5, up16, up32, up] <;> omega
theorem boot_no (z : Nat → Int) (hz : ∀ i, z i = 0) (s p r f zz sec flags root : Int) (k : Nat) (hk : k < 4) : boot z 0 s p r f zz sec flags root (450 + 16 * k) = 0 := by
  have hk' : k = 0 ∨ k = 1 ∨ k = 2 ∨ k = 3 := by omega
  rcases hk' with rfl | rfl | rfl | rfl <;> simp [boot, boot1, boot2, boot3, boot4, boot5, up16, up32, up, hz]

theorem neq_dev (V : Nat) (w : World) : (binOp .neq 34 (.iface 59 (.pointer (some ⟨V, 0, none⟩))) (.iface 59 (.pointer (some ⟨V, 0, none⟩)))).run Ybaf.prog w = .ok (.bool false) w := by
  have h := run_equalIn_iface_ptr_same (P := Ybaf.prog) w 9998 (ti := 34) (tp := 59) (te := 60) (i := Ybaf.t59) (j := Ybaf.t60) ⟨V, 0, none⟩ Ybaf.underlying34 Ybaf.underlying59 (by kernel_rfl) rfl (by kernel_rfl)
  simp only [binOp]
  simp [Op.equal, Op.maxDepth, h]
attribute [local go_sem] neq_dev
theorem fs_later {G : Nat} {dv : Value} {s sp ft ds la rt : Int} {w w' : World} (h : FsAt G dv s sp ft ds la rt w) (hb : Below w.heap.size w w') : FsAt G dv s sp ft ds la rt w' := by
  obtain ⟨h0, h1, h2, h3, h4, h5, h6, h9, sa, sc, h10⟩ := h
  have hG : G < w.heap.size := World.block_lt_of_cell? _ _ h0
  exact ⟨(hb.cell (p := ⟨G, 0, none⟩) hG).trans h0, (hb.cell (p := ⟨G, 1, none⟩) hG).trans h1, (hb.cell (p := ⟨G, 2, none⟩) hG).trans h2, (hb.cell (p := ⟨G, 3, none⟩) hG).trans h3, (hb.cell (p := ⟨G, 4, none⟩) hG).trans h4,
    (hb.cell (p := ⟨G, 5, none⟩) hG).trans h5, (hb.cell (p := ⟨G, 6, none⟩) hG).trans h6, (hb.cell (p := ⟨G, 9, none⟩) hG).trans h9, sa, sc, (hb.cell (p := ⟨G, 10, none⟩) hG).trans h10⟩
theorem made_buf {B g : Nat} {w : World} (h : w.ownsRow B 5 1 (.slice (some ⟨g, 0, none⟩) 512 512) 512 (madeCells #[.int .u8 0] 512).toList) : Buf B g 512 (fun _ => 0) w := by
  obtain ⟨h1, h2⟩ := h.lt g rfl
  refine ⟨h1, h2, fun i hi => ?_, fun _ _ => by omega, fun i => h.frozenAt i⟩
  rw [h.cellAt i (by omega), toList_madeCells_one, List.getElem?_replicate, if_pos hi]

set_option maxRecDepth 20000 in
set_option maxHeartbeats 3200000 in
theorem direct_any (F : Interp) (sel p r f z extra flags root : Int) (h0 : 0 ≤ sel ∧ sel ≤ 255) (hp : 0 ≤ p ∧ p ≤ 255) (hr : 0 ≤ r ∧ r ≤ 65535) (hf : 0 ≤ f ∧ f ≤ 255) (hz : 0 ≤ z ∧ z ≤ 65535) (hx : -2147483648 ≤ extra ∧ extra ≤ 2147483647)
    (hg : 0 ≤ flags ∧ flags ≤ 65535) (ht : 0 ≤ root ∧ root ≤ 4294967295) (w : World) (hF : F.answers w.tape) :
    Calls Ybaf.prog 4 #[.int .u8 sel, .int .u8 p, .int .u16 r, .int .u8 f, .int .u16 z, .int .i32 extra, .int .u16 flags, .int .u32 root] w fun e w' => e = .returned (.bool true) ∧ Below w.heap.size w w' := by
  obtain ⟨k, hk, hk5⟩ : ∃ k : Nat, sel % 5 = k ∧ k < 5 := ⟨(sel % 5).toNat, by omega, by omega⟩
  have q1 := mul_in hf hz
  obtain ⟨q, hq, hq1, hq2⟩ : ∃ q, IntKind.i64.wrap (f * z) = q ∧ 0 ≤ q ∧ q ≤ 16711425 := ⟨f * z, wrap_in (by omega), by omega, by omega⟩
  obtain ⟨sec, hsec, hc0, hc1⟩ : ∃ sec, (r + q + extra) % 4294967296 = sec ∧ 0 ≤ sec ∧ sec ≤ 4294967295 := ⟨_, rfl, by omega, by omega⟩
  clear q1
  obtain ⟨i0, hi, hz0, hz1, hz2⟩ := info_parts info5
  go_enter Ybaf.func4, Ybaf.ntmps4
  obtain ⟨s, hs⟩ : ∃ s, szOf k = s := ⟨_, rfl⟩
  have hs1 := szOf_in k
  rw [hs] at hs1
  have HK : Hid _ := hs
  have FT : Hid (Fits s p r f z sec flags root) := ⟨by omega, hp, hr, hf, hz, ⟨hc0, hc1⟩, hg, ht⟩
  clear hs
  go_upto_region 2 with fail
  go_cut [18] from 28 to 32 (fun sv wx => sv = .int .i64 s ∧ Below w.heap.size w wx)
  case first =>
    have hk' : k = 0 ∨ k = 1 ∨ k = 2 ∨ k = 3 ∨ k = 4 := by omega
    rcases hk' with rfl | rfl | rfl | rfl | rfl
    all_goals
      go_wp2
      go_meet
      case rel => exact ⟨by rw [← HK.out]; rfl, (Below.refl _ _).alloc (Nat.le_refl _) _⟩
  case rest =>
    obtain ⟨rfl, hwc⟩ := hcut
    have HL : Hid _ := hwc
    clear hwc
    go_upto_region 4 with fail
    go_cut [20] from 41 to 45 (fun sv wx => sv = .int .u32 sec ∧ wx = wc)
    case first =>
      go_wp2
      go_meet
      case rel => exact ⟨by rw [← hsec], rfl⟩
    case rest =>
      obtain ⟨rfl, rfl⟩ := hcut
      go_wp2_with (at_make; refine wpList_make_full _ rfl _ _ 25 rfl w.heap.size 5 i0 (.int .u8 0) 1 Ybaf.underlying25 hi hz0 hz1 _ _ _ _ 512 rfl rfl rfl rfl (by rw [hz2]; omega) (by unfold maxLen; omega) HL.out.size ?_)
      intro w1 hown hgrow
      have BF : Hid (Buf w.heap.size wc.heap.size 512 (fun _ => 0) w1) := made_buf (by simpa using hown)
      have L1 : Hid (Below w.heap.size w w1) := HL.out.grown hgrow HL.out.size (fun k h => by cases h)
      clear hown hgrow
      go_wp2_with (go_at_call 8; refine (put_any w.heap.size wc.heap.size 512 0 (fun _ => 0) s p r f z sec flags root (by omega) (by omega) (by omega) (by omega) (by omega) (by omega) (by omega) (by omega) (by omega) _ BF.out).mono ?_; rintro e w2 ⟨rfl, hb2, hl2⟩)
      have hVb : ¬ w2.heap.size = wc.heap.size := by have := hb2.lt; omega
      have hV0 := new_cell2 w2 (.slice (some ⟨wc.heap.size, 0, none⟩) 512 512) (.int .i64 0) 60
      have hV1 := new_cell2b w2 (.slice (some ⟨wc.heap.size, 0, none⟩) 512 512) (.int .i64 0) 60
      have hVf : (w2.alloc (.cells #[.slice (some ⟨wc.heap.size, 0, none⟩) 512 512, .int .i64 0] 60)).frozen? ⟨w2.heap.size, 1, none⟩ = false := by
        have h := heap_alloc_new w2 (.cells #[.slice (some ⟨wc.heap.size, 0, none⟩) 512 512, .int .i64 0] 60)
        simp only [World.frozen?, h]; rfl
      have l2 := L1.out.trans hl2
      have l3 := l2.alloc l2.size (.cells #[.slice (some ⟨wc.heap.size, 0, none⟩) 512 512, .int .i64 0] 60)
      have b3 := hb2.alloc (.cells #[.slice (some ⟨wc.heap.size, 0, none⟩) 512 512, .int .i64 0] 60)
      generalize w2.alloc (.cells #[.slice (some ⟨wc.heap.size, 0, none⟩) 512 512, .int .i64 0] 60) = W3 at *
      have hF3 : F.answers W3.tape := by rw [l3.tape]; exact hF
      have hV := l2.size
      refine (new_direct F w.heap.size w2.heap.size wc.heap.size (boot (fun _ => 0) 0 s p r f z sec flags root) s p r f z sec flags root FT.out hs1.2 (boot_of _ _ _ _ _ _ _ _ _ FT.out) (fun k hk => by rw [boot_no _ (fun _ => rfl) _ _ _ _ _ _ _ _ k hk]; omega) W3 hF3 l2.size hVb hV0 hV1 hVf b3.vals b3.fits).mono ?_
      have L3 : Hid _ := l3
      have HV : Hid _ := hV
      clear hV0 hV1 hVf b3 hVb hF3 l3 l2 hb2 hl2 hV BF L1 HL
      rintro e w4 ⟨hl4, hc4, hp4⟩
      have L4 : Hid (Below w.heap.size w w4) := L3.out.trans hl4
      clear hl4
      rcases hp4 with ⟨g, G, hG, rfl, hfs⟩ | ⟨g, T, a, rfl⟩
      · have FS : Hid (FsAt G (.iface 59 (.pointer (some ⟨w2.heap.size, 0, none⟩))) s (s * p) (fatOf s r z flags) (dsOf r f z * s) (clu s p r f z sec + 1) (bits .and .u32 root 268435455) w4) := hfs
        have MD : Hid _ := model_good s p r f z sec flags root FT.out g w4
        obtain ⟨S, rfl⟩ := Int.eq_ofNat_of_zero_le (show 0 ≤ s by omega)
        generalize (S : Int) * p = sp at *
        generalize fatOf (S : Int) r z flags = ft at *
        generalize dsOf r f z * (S : Int) = ds at *
        generalize clu (S : Int) p r f z sec + 1 = la at *
        generalize bits .and .u32 root 268435455 = rt at *
        clear hfs g
        go_wp2_with (first
          | (go_at_call 10; refine Calls.mono MD.out ?_; rintro e w5 ⟨rfl, hl5⟩; have f5 := fs_later FS.out (Below.trans hl5 ((Below.refl _ _).alloc (by exact hl5.size) (.cells #[.int .i64 (S : Int), .int .i64 sp, .int .i64 ft, .int .i64 ds, .int .u32 la, .int .u32 rt] 64))); have d5 := f5.1)
          | (go_at_call 11; refine (same_any G _ S sp ft ds la rt _ f5).mono ?_; rintro e w6 ⟨rfl, hl6⟩))
        go_ret
        exact ⟨rfl, ((L4.out.trans (hl5.mono L4.out.size)).alloc (by have := L4.out.size; have := hl5.size; omega) _).trans (hl6.mono (by simp; have := L4.out.size; have := hl5.size; omega))⟩
      · have MD : Hid _ := model_bad s p r f z sec flags root FT.out hs1.1 hs1.2 g w4
        go_wp2_with (go_at_call 10; refine Calls.mono MD.out ?_; rintro e w5 ⟨⟨x0, x1, x2, x3, x4, x5, rfl⟩, hl5⟩)
        go_ret
        exact ⟨rfl, (L4.out.trans (hl5.mono L4.out.size)).alloc (by have := L4.out.size; have := hl5.size; omega) _⟩
end Go.Proofs.YbulkbzbaFmt
