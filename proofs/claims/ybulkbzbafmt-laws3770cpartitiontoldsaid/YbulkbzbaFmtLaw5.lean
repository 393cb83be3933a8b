/-
  OWN WORK. THE WALK of LawS3770CPartition.
-/
import Derived.Test.YbulkbzbaFmtDisk
import Derived.Test.YbulkbzbaFmtFound
import Derived.LaidEql
namespace Go.Proofs.YbulkbzbaFmt
open Go.RowKit Go.Extern.Stop Go.Stop Go.Extern

attribute [local go_sem] meth59 meth81

theorem made_buf_n {B g n : Nat} {w : World} (h : w.ownsRow B 5 1 (.slice (some ⟨g, 0, none⟩) n n) n (madeCells #[.int .u8 0] n).toList) : Buf B g n (fun _ => 0) w := by
  obtain ⟨h1, h2⟩ := h.lt g rfl
  refine ⟨h1, h2, fun i hi => ?_, fun _ _ => by omega, fun i => h.frozenAt i⟩
  rw [h.cellAt i (by omega), toList_madeCells_one, List.getElem?_replicate, if_pos hi]
/-- The model's struct, as it lies in memory. -/
def GeoAt (g : Nat) (s sp ft ds la rt : Int) (w : World) : Prop :=
  w.cell? ⟨g, 0, none⟩ = some (.int .i64 s) ∧ w.cell? ⟨g, 1, none⟩ = some (.int .i64 sp) ∧ w.cell? ⟨g, 2, none⟩ = some (.int .i64 ft) ∧ w.cell? ⟨g, 3, none⟩ = some (.int .i64 ds) ∧ w.cell? ⟨g, 4, none⟩ = some (.int .u32 la) ∧ w.cell? ⟨g, 5, none⟩ = some (.int .u32 rt)
theorem geo_new (s sp ft ds la rt : Int) (w : World) : GeoAt w.heap.size s sp ft ds la rt (w.alloc (.cells #[.int .i64 s, .int .i64 sp, .int .i64 ft, .int .i64 ds, .int .u32 la, .int .u32 rt] 64)) := by
  have h := heap_alloc_new w (.cells #[.int .i64 s, .int .i64 sp, .int .i64 ft, .int .i64 ds, .int .u32 la, .int .u32 rt] 64)
  refine ⟨?_, ?_, ?_, ?_, ?_, ?_⟩ <;> (simp only [World.cell?, h]; rfl)
theorem geo_later {g : Nat} {s sp ft ds la rt : Int} {w w' : World} (h : GeoAt g s sp ft ds la rt w) (hb : w'.heap[g]? = w.heap[g]?) : GeoAt g s sp ft ds la rt w' := by
  obtain ⟨h0, h1, h2, h3, h4, h5⟩ := h
  exact ⟨(World.cell?_of_block hb).trans h0, (World.cell?_of_block hb).trans h1, (World.cell?_of_block hb).trans h2, (World.cell?_of_block hb).trans h3, (World.cell?_of_block hb).trans h4, (World.cell?_of_block hb).trans h5⟩

theorem fs_next {G : Nat} {dv : Value} {s sp ft ds la rt : Int} {w w' : World} (h : FsAt G dv s sp ft ds la rt w) (hb : Below w.heap.size w w') : FsAt G dv s sp ft ds la rt w' := by
  obtain ⟨h0, h1, h2, h3, h4, h5, h6, h9, sa, sc, h10⟩ := h
  have hG : G < w.heap.size := World.block_lt_of_cell? _ _ h0
  exact ⟨(hb.cell (p := ⟨G, 0, none⟩) hG).trans h0, (hb.cell (p := ⟨G, 1, none⟩) hG).trans h1, (hb.cell (p := ⟨G, 2, none⟩) hG).trans h2, (hb.cell (p := ⟨G, 3, none⟩) hG).trans h3, (hb.cell (p := ⟨G, 4, none⟩) hG).trans h4,
    (hb.cell (p := ⟨G, 5, none⟩) hG).trans h5, (hb.cell (p := ⟨G, 6, none⟩) hG).trans h6, (hb.cell (p := ⟨G, 9, none⟩) hG).trans h9, sa, sc, (hb.cell (p := ⟨G, 10, none⟩) hG).trans h10⟩

/-- The model over the law's numbers, its geometry by name. -/
theorem model_named {pc R Fs Z sec rv sp ft d5 la : Int} (h : Fits 512 pc R Fs Z sec 0 rv) (g : Good 512 pc R Fs Z sec 0 rv) (hm : 0 ≤ rv ∧ rv < 268435456) (h1 : 512 * pc = sp) (h2 : fatOf 512 R Z 0 = ft) (h3 : dsOf R Fs Z * 512 = d5) (h4 : clu 512 pc R Fs Z sec + 1 = la) (w : World) :
    Calls Ybaf.prog 10 #[.int .i64 512, .int .i64 pc, .int .i64 R, .int .i64 Fs, .int .i64 Z, .int .i64 sec, .int .u16 0, .int .u32 rv] w fun e w' =>
      e = .returned (.tuple #[.agg #[.int .i64 512, .int .i64 sp, .int .i64 ft, .int .i64 d5, .int .u32 la, .int .u32 rv], .bool true]) ∧ Below w.heap.size w w' := by
  have := model_good 512 pc R Fs Z sec 0 rv h g w
  rw [mask rv hm, h1, h2, h3, h4] at this
  exact this

set_option maxRecDepth 20000 in
set_option maxHeartbeats 6400000 in
theorem partition_any (F : Interp) (k st sz p r f z extra root : Int) (lba : Bool) (h0 : 0 ≤ k ∧ k ≤ 255) (h2 : 0 ≤ st ∧ st ≤ 255) (h3 : 0 ≤ sz ∧ sz ≤ 4294967295) (hp : 0 ≤ p ∧ p ≤ 255) (hr : 0 ≤ r ∧ r ≤ 255) (hf : 0 ≤ f ∧ f ≤ 255) (hz : 0 ≤ z ∧ z ≤ 65535) (hx : 0 ≤ extra ∧ extra ≤ 4294967295)
    (ht : 0 ≤ root ∧ root ≤ 4294967295) (w : World) (hF : F.answers w.tape) :
    Calls Ybaf.prog 5 #[.int .u8 k, .bool lba, .int .u8 st, .int .u32 sz, .int .u8 p, .int .u8 r, .int .u8 f, .int .u16 z, .int .u32 extra, .int .u32 root] w fun e w' => e = .returned (.bool true) ∧ Below w.heap.size w w' := by
  obtain ⟨POST, hPOST⟩ : ∃ POST : Ending → World → Prop, POST = fun e w' => e = .returned (.bool true) ∧ Below w.heap.size w w' := ⟨_, rfl⟩
  rw [← hPOST]
  have HP : Hid _ := hPOST
  clear hPOST
  obtain ⟨i0, hi, hz0, hz1, hz2⟩ := info_parts info5
  have HI : Hid _ := hi
  have HI0 : Hid _ := hz0
  have HI1 : Hid _ := hz1
  have HI2 : Hid _ := hz2
  have hF' : Hid _ := hF
  clear hi hz0 hz1 hz2 hF
  obtain ⟨pc, hpc⟩ : ∃ pc, pw p = pc := ⟨_, rfl⟩
  have hpc1 := pw_in p
  rw [hpc] at hpc1
  obtain ⟨hpc1, hpc2⟩ := hpc1
  obtain ⟨R, hR, hR1⟩ : ∃ R, 1 + r % 64 = R ∧ 1 ≤ R ∧ R ≤ 64 := ⟨_, rfl, by omega, by omega⟩
  obtain ⟨Fs, hFs, hFs1⟩ : ∃ R, 1 + f % 4 = R ∧ 1 ≤ R ∧ R ≤ 4 := ⟨_, rfl, by omega, by omega⟩
  obtain ⟨Z, hZ, hZ1⟩ : ∃ R, 1 + z % 512 = R ∧ 1 ≤ R ∧ R ≤ 512 := ⟨_, rfl, by omega, by omega⟩
  have q1 := mul_in (a := Fs) (b := Z) (A := 4) (B := 512) (by omega) (by omega)
  obtain ⟨q, hq, hqe, hq1⟩ : ∃ q, IntKind.i64.wrap (Fs * Z) = q ∧ Fs * Z = q ∧ 0 ≤ q ∧ q ≤ 2048 := ⟨Fs * Z, wrap_in (by omega), rfl, by omega, by omega⟩
  obtain ⟨sec, hsec, hsec1⟩ : ∃ sec, R + q + pc + extra % 100000 = sec ∧ R + q + pc ≤ sec ∧ sec ≤ 200000 := ⟨_, rfl, by omega, by omega⟩
  have hds : dsOf R Fs Z + pc ≤ sec := by unfold dsOf; omega
  obtain ⟨hc1, hc2⟩ := clu_in (p := pc) (r := R) (f := Fs) (z := Z) (sec := sec) hpc1 hZ1 hds
  obtain ⟨la, hla⟩ : ∃ la, clu 512 pc R Fs Z sec + 1 = la := ⟨_, rfl⟩
  have hla1 : 2 ≤ la ∧ la ≤ 268435446 := by omega
  obtain ⟨rv, hrv⟩ : ∃ rv, 2 + root % (la - 1) = rv := ⟨_, rfl⟩
  have hrv1 : 2 ≤ rv ∧ rv ≤ la := by
    have a := Int.emod_nonneg root (b := la - 1) (by omega)
    have b := Int.emod_lt_of_pos root (b := la - 1) (by omega)
    omega
  obtain ⟨sp, hsp⟩ : ∃ sp, 512 * pc = sp := ⟨_, rfl⟩
  obtain ⟨ft, hft⟩ : ∃ ft, fatOf 512 R Z 0 = ft := ⟨_, rfl⟩
  obtain ⟨d5, hd5⟩ : ∃ d5, dsOf R Fs Z * 512 = d5 := ⟨_, rfl⟩
  have FT0 : Fits 512 pc R Fs Z sec 0 2 := ⟨by omega, by omega, by omega, by omega, by omega, by omega, by omega, by omega⟩
  have FT : Fits 512 pc R Fs Z sec 0 rv := ⟨by omega, by omega, by omega, by omega, by omega, by omega, by omega, by omega⟩
  have GD0 : Good 512 pc R Fs Z sec 0 2 := good_of hpc1 hpc2 hR1 hFs1 hZ1 hds (by omega)
  have GD : Good 512 pc R Fs Z sec 0 rv := good_of hpc1 hpc2 hR1 hFs1 hZ1 hds (by omega)
  have MD0 : Hid (∀ w, _) := fun w => model_named FT0 GD0 (by omega) hsp hft hd5 hla w
  have MD1 : Hid (∀ w, _) := fun w => model_named FT GD (by omega) hsp hft hd5 hla w
  have HFT : Hid _ := FT
  have HGD : Hid _ := GD
  have HNM : Hid (512 * pc = sp ∧ fatOf 512 R Z 0 = ft ∧ dsOf R Fs Z * 512 = d5 ∧ clu 512 pc R Fs Z sec + 1 = la ∧ bits .and .u32 rv 268435455 = rv) := ⟨hsp, hft, hd5, hla, mask rv (by omega)⟩
  have HPC : Hid _ := hpc
  have HQ : Hid _ := hqe
  have HRV : Hid _ := hrv
  clear q1 FT0 GD0 FT GD hsp hft hd5 hla hc1 hc2 hds hpc2 hpc hqe hrv
  go_enter Ybaf.func5, Ybaf.ntmps5
  go_upto_region 1 with fail
  go_cut [21] from 42 to 44 (fun sv wx => sv = .int .i64 pc ∧ w = wx)
  case first =>
    have hk' : p % 8 = 0 ∨ p % 8 = 1 ∨ p % 8 = 2 ∨ p % 8 = 3 ∨ p % 8 = 4 ∨ p % 8 = 5 ∨ p % 8 = 6 ∨ p % 8 = 7 := by omega
    rcases hk' with e | e | e | e | e | e | e | e
    all_goals
      go_wp2
      go_meet
      case rel => exact ⟨by rw [← HPC.out]; unfold pw; rw [e]; rfl, rfl⟩
  case rest =>
    obtain ⟨rfl, rfl⟩ := hcut
    go_upto_region 2 with fail
    go_cut [22] from 45 to 48 (fun sv wx => sv = .int .i64 R ∧ w = wx)
    case first =>
      go_wp2
      go_meet
      case rel => exact ⟨by rw [← hR], rfl⟩
    case rest =>
      obtain ⟨rfl, rfl⟩ := hcut
      go_upto_region 3 with fail
      go_cut [23] from 49 to 52 (fun sv wx => sv = .int .i64 Fs ∧ w = wx)
      case first =>
        go_wp2
        go_meet
        case rel => exact ⟨by rw [← hFs], rfl⟩
      case rest =>
        obtain ⟨rfl, rfl⟩ := hcut
        go_upto_region 4 with fail
        go_cut [24] from 53 to 56 (fun sv wx => sv = .int .i64 Z ∧ w = wx)
        case first =>
          go_wp2
          go_meet
          case rel => exact ⟨by rw [← hZ], rfl⟩
        case rest =>
          obtain ⟨rfl, rfl⟩ := hcut
          go_upto_region 5 with fail
          go_cut [25] from 57 to 61 (fun sv wx => sv = .int .i64 (R + q) ∧ w = wx)
          case first =>
            go_wp2
            go_meet
            case rel => exact ⟨by first | rfl | rw [hq], rfl⟩
          case rest =>
            obtain ⟨rfl, rfl⟩ := hcut
            go_upto_region 6 with fail
            go_cut [26] from 62 to 68 (fun sv wx => sv = .int .i64 sec ∧ w = wx)
            case first =>
              go_wp2
              go_meet
              case rel => exact ⟨by rw [← hsec], rfl⟩
            case rest =>
              obtain ⟨rfl, rfl⟩ := hcut
              go_upto_region 10 with (go_at_call 10; refine Calls.mono (MD0.out _) ?_; rintro e w1 ⟨rfl, hl1⟩)
              have L1 : Hid (Below w.heap.size w w1) := hl1
              have L1' : Hid (w.heap.size ≤ w1.heap.size) := hl1.size
              clear hl1
              go_cut [29] from 80 to 85 (fun sv wx => sv = .int .u32 rv ∧ Below w.heap.size w wx)
              case first =>
                have n1 : (la - 1 == 0) = false := by simp; omega
                have n2 : (la - 1) % 4294967296 = la - 1 := by omega
                have n3 : root.tmod (la - 1) = root % (la - 1) := Int.tmod_eq_emod_of_nonneg (by omega)
                have n4 := HRV.out
                go_wp2
                go_meet
                case rel => exact ⟨rfl, L1.out.alloc L1'.out _⟩
              case rest =>
                obtain ⟨rfl, hl2⟩ := hcut
                have L2 : Hid (Below w.heap.size w wc) := hl2
                clear hl2 L1 L1'
                go_upto_region 14 with (go_at_call 10; refine Calls.mono (MD1.out _) ?_; rintro e w2 ⟨rfl, hl2⟩)
                have geo := geo_new 512 sp ft d5 la rv w2
                have l3 : Below w.heap.size w (w2.alloc (.cells #[.int .i64 512, .int .i64 sp, .int .i64 ft, .int .i64 d5, .int .u32 la, .int .u32 rv] 64)) := (L2.out.trans (hl2.mono L2.out.size)).alloc (Nat.le_trans L2.out.size hl2.size) _
                have g3 : w2.heap.size < (w2.alloc (.cells #[.int .i64 512, .int .i64 sp, .int .i64 ft, .int .i64 d5, .int .u32 la, .int .u32 rv] 64)).heap.size := by simp
                generalize w2.alloc (.cells #[.int .i64 512, .int .i64 sp, .int .i64 ft, .int .i64 d5, .int .u32 la, .int .u32 rv] 64) = W3 at *
                generalize w2.heap.size = g30 at *
                have GEO : Hid _ := geo
                have L3 : Hid _ := l3
                have G3 : Hid _ := g3
                obtain ⟨N, hN, hN1⟩ : ∃ N : Nat, 1 + st % 16 = (N : Int) ∧ 1 ≤ N ∧ N ≤ 16 := ⟨(1 + st % 16).toNat, by omega, by omega, by omega⟩
                clear geo l3 g3 hl2 L2
                go_cut [31] from 98 to 101 (fun sv wx => sv = .int .i64 (N : Int) ∧ W3 = wx)
                case first =>
                  go_wp2
                  go_meet
                  case rel => exact ⟨by rw [← hN], rfl⟩
                case rest =>
                  obtain ⟨rfl, rfl⟩ := hcut
                  obtain ⟨o, ho, ho1⟩ : ∃ o : Nat, (N : Int) * 512 = (o : Int) ∧ 512 ≤ o ∧ o ≤ 8192 := ⟨N * 512, by omega, by omega, by omega⟩
                  have HN : Hid _ := hN
                  obtain ⟨n, hn⟩ : ∃ n : Nat, n = o + 512 := ⟨_, rfl⟩
                  have HNO : Hid _ := hn
                  clear hN hn
                  go_wp2_with (at_make; refine wpList_make_full _ rfl _ _ 25 rfl W3.heap.size 5 i0 (.int .u8 0) 1 Ybaf.underlying25 HI.out HI0.out HI1.out _ _ _ _ n rfl rfl (by have := HNO.out; omega) (by have := HNO.out; omega) (by have := HNO.out; rw [HI2.out]; omega) (by have := HNO.out; unfold maxLen; omega) (Nat.le_refl _) ?_)
                  intro w4 hown hgrow
                  have BF : Hid (Buf W3.heap.size W3.heap.size n (fun _ => 0) w4) := made_buf_n (by simpa using hown)
                  have L4 : Hid (Below W3.heap.size W3 w4) := (Below.refl _ _).grown hgrow (Nat.le_refl _) (fun k h => by cases h)
                  clear hown hgrow
                  go_upto_region 16 with fail
                  have o1 : ¬ (o : Int) < 0 := by omega
                  have o2 : (o : Int) ≤ n := by have := HNO.out; omega
                  have o3 : n - o = 512 := by have := HNO.out; omega
                  have o4 : ¬ n = o := by have := HNO.out; omega
                  go_cut [33] from 106 to 109 (fun sv wx => sv = .slice (some ⟨W3.heap.size, o, none⟩) 512 512 ∧ w4 = wx)
                  case first =>
                    go_wp2
                    go_meet
                    case rel => exact ⟨rfl, rfl⟩
                  case rest =>
                    obtain ⟨rfl, rfl⟩ := hcut
                    have HO : Hid _ := ho
                    clear o1 o2 o3 o4 ho
                    have u1 : pc % 256 = pc := by omega
                    have u2 : R % 65536 = R := by omega
                    have u3 : Fs % 256 = Fs := by omega
                    have u4 : Z % 4294967296 = Z := by omega
                    have u5 : sec % 4294967296 = sec := by omega
                    go_upto_region 18 with (go_at_call 8; refine (put_any W3.heap.size W3.heap.size n o (fun _ => 0) 512 pc R Fs Z sec 0 rv (by have := HNO.out; omega) (by omega) (by omega) (by omega) (by omega) (by omega) (by omega) (by omega) (by omega) _ BF.out).mono ?_; rintro e w5 ⟨rfl, hb5, hl5⟩)
                    replace BF : Hid _ := hb5
                    have L5 : Hid (Below W3.heap.size W3 w5) := L4.out.trans hl5
                    clear u1 u2 u3 u4 u5 hb5 hl5 L4
                    obtain ⟨K, hK, hK4⟩ : ∃ K : Nat, k % 4 = (K : Int) ∧ K < 4 := ⟨(k % 4).toNat, by omega, by omega⟩
                    go_cut [34] from 123 to 127 (fun sv wx => sv = .int .i64 ((446 + 16 * K : Nat) : Int) ∧ w5 = wx)
                    case first =>
                      go_wp2
                      go_meet
                      case rel => exact ⟨by congr 1, rfl⟩
                    case rest =>
                      obtain ⟨rfl, rfl⟩ := hcut
                      obtain ⟨E, hE⟩ : ∃ E, E = 446 + 16 * K := ⟨_, rfl⟩
                      rw [← hE]
                      have hE1 : 446 ≤ E ∧ E ≤ 494 := by omega
                      have HE : Hid _ := hE
                      have HK4 : Hid _ := hK4
                      have HN1 : Hid _ := hN1
                      clear hE hK hK4
                      go_upto_if 128 with fail
                      obtain ⟨E4, e4, e4'⟩ : ∃ E4 : Nat, (E : Int) + 4 = (E4 : Int) ∧ E4 = E + 4 := ⟨E + 4, by omega, rfl⟩
                      have e5 : (E4 : Int) < n := by have := HNO.out; omega
                      have c4 := BF.out.vals E4 (by have := HNO.out; omega)
                      have f4 := BF.out.fz E4
                      have HE4 : Hid _ := e4'
                      clear e4'
                      go_cut [] from 128 to 136 (fun wx => ∃ T, (T = 11 ∨ T = 12) ∧ Buf W3.heap.size W3.heap.size n (up (boot (fun _ => 0) o 512 pc R Fs Z sec 0 rv) (E + 4) T) wx ∧ Below W3.heap.size W3 wx)
                      case first =>
                        cases lba
                        · go_wp2
                          go_meet
                          case rel => exact ⟨11, .inl rfl, HE4.out ▸ BF.out.put E4 11 (by omega) (by omega), L5.out.setCell (Nat.le_refl _) _⟩
                        · go_wp2
                          go_meet
                          case rel => exact ⟨12, .inr rfl, HE4.out ▸ BF.out.put E4 12 (by omega) (by omega), L5.out.setCell (Nat.le_refl _) _⟩
                      case rest =>
                        obtain ⟨T, hT, hb6, hl6⟩ := hcut
                        obtain ⟨ZA, hZA⟩ : ∃ ZA, ZA = up (boot (fun _ => 0) o 512 pc R Fs Z sec 0 rv) (E + 4) T := ⟨_, rfl⟩
                        rw [← hZA] at hb6
                        have HZA : Hid _ := hZA
                        clear hZA
                        have HT : Hid _ := hT
                        replace BF : Hid _ := hb6
                        replace L5 : Hid _ := hl6
                        clear hT hb6 hl6 e4 e5 c4 f4
                        go_upto_region 22 with fail
                        obtain ⟨E8, e4, e4'⟩ : ∃ E8 : Nat, IntKind.i64.wrap ((E : Int) + 8) = (E8 : Int) ∧ E8 = E + 8 := ⟨E + 8, wrap_in (by omega), rfl⟩
                        have e5 : (0 : Int) ≤ (E8 : Int) := by omega
                        have e6 : (E8 : Int) ≤ n := by have := HNO.out; omega
                        have e7 : ¬ n = E8 := by have := HNO.out; omega
                        have HE8 : Hid _ := e4'
                        clear e4'
                        have u1 : IntKind.u32.wrap (N : Int) = N := by rw [IntKind.wrap_u32]; omega
                        go_cut [] from 137 to 144 (fun wx => Buf W3.heap.size W3.heap.size n (up32 ZA (E + 8) N) wx ∧ Below W3.heap.size W3 wx)
                        case first =>
                          go_region_held3 (fun _ => True) (trivial) ((go_at_call 6; refine (p32_any W3.heap.size W3.heap.size n E8 (n - E8) (n - E8) ZA N (by have := HNO.out; have := HE8.out; omega) (by have := HNO.out; have := HE8.out; omega) (by omega) (by omega) _ (BF.out.drew)).mono ?_; rintro e w1 ⟨rfl, hb1, hl1⟩))
                          go_wp2
                          go_meet
                          case rel => exact ⟨HE8.out ▸ hb1, L5.out.drew.trans hl1⟩
                        case rest =>
                          obtain ⟨hb6, hl6⟩ := hcut
                          replace BF : Hid _ := hb6
                          replace L5 : Hid _ := hl6
                          clear hb6 hl6 e4 e5 e6 e7 u1
                          obtain ⟨ZB, hZB⟩ : ∃ ZB, ZB = up32 ZA (E + 8) N := ⟨_, rfl⟩
                          replace BF : Hid (Buf W3.heap.size W3.heap.size n ZB wc) := hZB ▸ BF.out
                          have HZB : Hid _ := hZB
                          clear hZB
                          go_upto_region 23 with fail
                          obtain ⟨E12, e4, e4'⟩ : ∃ E12 : Nat, IntKind.i64.wrap ((E : Int) + 12) = (E12 : Int) ∧ E12 = E + 12 := ⟨E + 12, wrap_in (by omega), rfl⟩
                          obtain ⟨M, hM, hM1⟩ : ∃ M : Int, 1 + sz % 1000 = M ∧ 1 ≤ M ∧ M ≤ 1000 := ⟨_, rfl, by omega, by omega⟩
                          have e5 : (0 : Int) ≤ (E12 : Int) := by omega
                          have e6 : (E12 : Int) ≤ n := by have := HNO.out; omega
                          have e7 : ¬ n = E12 := by have := HNO.out; omega
                          have HE12 : Hid _ := e4'
                          clear e4'
                          have u1 : IntKind.u32.wrap M = M := by rw [IntKind.wrap_u32]; omega
                          have u2 : sz.tmod 1000 = sz % 1000 := Int.tmod_eq_emod_of_nonneg (by omega)
                          go_cut [] from 145 to 153 (fun wx => Buf W3.heap.size W3.heap.size n (up32 ZB (E + 12) M) wx ∧ Below W3.heap.size W3 wx)
                          case first =>
                            go_region_held3 (fun _ => True) (trivial) ((go_at_call 6; refine (p32_any W3.heap.size W3.heap.size n E12 (n - E12) (n - E12) ZB M (by have := HNO.out; have := HE12.out; omega) (by have := HNO.out; have := HE12.out; omega) (by omega) (by omega) _ (BF.out.drew)).mono ?_; rintro e w1 ⟨rfl, hb1, hl1⟩))
                            go_wp2
                            go_meet
                            case rel => exact ⟨HE12.out ▸ hb1, L5.out.drew.trans hl1⟩
                          case rest =>
                            obtain ⟨hb6, hl6⟩ := hcut
                            replace BF : Hid _ := hb6
                            replace L5 : Hid _ := hl6
                            clear hb6 hl6 e4 e5 e6 e7 u1 u2
                            obtain ⟨ZC, hZC⟩ : ∃ ZC, ZC = up32 ZB (E + 12) M := ⟨_, rfl⟩
                            replace BF : Hid (Buf W3.heap.size W3.heap.size n ZC wc) := hZC ▸ BF.out
                            have HZC : Hid _ := hZC
                            clear hZC
                            go_upto_region 24 with fail
                            have c510 := BF.out.vals 510 (by have := HNO.out; omega)
                            have f510 := BF.out.fz 510
                            have c511 : ∀ v, (wc.setCell ⟨W3.heap.size, 510, none⟩ v).cell? ⟨W3.heap.size, 511, none⟩ = _ := fun v => (World.cell?_setCell_other _ _ _ _ (by simp)).trans (BF.out.vals 511 (by have := HNO.out; omega))
                            have f511 := BF.out.fz 511
                            have n1 : (510 : Int) < n := by have := HNO.out; omega
                            have n2 : (511 : Int) < n := by have := HNO.out; omega
                            go_upto_region 26 with fail
                            have hb7 := (BF.out.put 510 85 (by omega) (by omega)).put 511 170 (by omega) (by omega)
                            have hl7 := (L5.out.setCell (p := ⟨W3.heap.size, 510, none⟩) (Nat.le_refl _) (.int .u8 85)).setCell (p := ⟨W3.heap.size, 511, none⟩) (Nat.le_refl _) (.int .u8 170)
                            clear c510 f510 c511 f511 n1 n2
                            generalize (wc.setCell ⟨W3.heap.size, 510, none⟩ (.int .u8 85)).setCell ⟨W3.heap.size, 511, none⟩ (.int .u8 170) = W7 at *
                            have hZD : up (up ZC 510 85) 511 170 = disk (boot (fun _ => 0) o 512 pc R Fs Z sec 0 rv) (446 + 16 * K) T N M := by
                              rw [HZC.out, HZB.out, HZA.out, HE.out]
                              rfl
                            generalize up (up ZC 510 85) 511 170 = ZD at *
                            have BT : Hid (Boot (fun i => ZD (o + i)) 512 pc R Fs Z sec 0 rv) := by show Boot (fun i => ZD (o + i)) 512 pc R Fs Z sec 0 rv; rw [hZD]; exact boot_disk _ o 512 pc R Fs Z sec 0 rv HFT.out _ T N M (by have := HK4.out; omega) (by omega)
                            have MB : Hid (Mbr ZD K N M) := by show Mbr ZD K N M; rw [hZD]; exact mbr_disk o 512 pc R Fs Z sec 0 rv K HK4.out T N M HT.out (by omega) (by omega) (by omega)
                            obtain ⟨l, hl⟩ : ∃ l : Nat, (l : Int) = M * 512 + (N : Int) * 512 := ⟨(M * 512 + (N : Int) * 512).toNat, by omega⟩
                            have HLE : Hid _ := hl
                            have HM1 : Hid _ := hM1
                            have BF7 : Hid _ := hb7
                            have L7 : Hid _ := hl7
                            clear hZD hl hb7 hl7 BF L5 HZA HZB HZC hM hM1
                            go_upto_region 27 with fail
                            have d8 : DevAt W7.heap.size W3.heap.size n 0 ZD (W7.alloc (.cells #[.slice (some ⟨W3.heap.size, 0, none⟩) n n, .int .i64 0] 60)) := by
                              refine ⟨new_cell2 W7 _ _ 60, new_cell2b W7 _ _ 60, ?_, (BF7.out.alloc _).vals⟩
                              have h := heap_alloc_new W7 (.cells #[.slice (some ⟨W3.heap.size, 0, none⟩) n n, .int .i64 0] 60)
                              simp only [World.frozen?, h]; rfl
                            have l8 : Below W7.heap.size W7 (W7.alloc (.cells #[.slice (some ⟨W3.heap.size, 0, none⟩) n n, .int .i64 0] 60)) := (Below.refl _ _).alloc (Nat.le_refl _) _
                            generalize W7.alloc (.cells #[.slice (some ⟨W3.heap.size, 0, none⟩) n n, .int .i64 0] 60) = W8 at *
                            have D8 : Hid _ := d8
                            have L8 : Hid _ := l8
                            have F8 : Hid (F.answers W8.tape) := by show F.answers W8.tape; rw [l8.tape, L7.out.tape, L3.out.tape]; exact hF'.out
                            have NVB : Hid (¬ W7.heap.size = W3.heap.size) := by have := BF7.out.lt; show ¬ _; omega
                            have NP : Hid (Calls Ybaf.prog 9 #[.iface 59 (.pointer (some ⟨W7.heap.size, 0, none⟩))] W8 fun e w' => PartPost W7.heap.size W3.heap.size n o l ZD 512 pc R Fs Z sec 0 rv W7.heap.size W8 e w') :=
                              new_part F W7.heap.size W7.heap.size W3.heap.size n o l ZD K N M 512 pc R Fs Z sec 0 rv HFT.out HGD.out BT.out MB.out W8 F8.out (by have := HO.out; omega) HLE.out (by have := HNO.out; omega) (by omega) (by have := HM1.out; omega) (Nat.le_refl _) NVB.out d8 BF7.out.fits
                            clear d8 l8 BT MB
                            go_upto_region 28 with (go_at_call 9; refine Calls.mono NP.out ?_; rintro e w9 ⟨G, S, rfl, hfs, hse, hde, hl9⟩)
                            obtain ⟨m1, m2, m3, m4, m5⟩ := HNM.out
                            rw [m1, m2, m3, m4, m5] at hfs
                            clear m1 m2 m3 m4 m5
                            have geo9 : GeoAt g30 512 sp ft d5 la rv w9 := geo_later GEO.out (by
                              have a1 := G3.out
                              have a2 := L7.out.size
                              have a3 := L8.out.size
                              rw [hl9.block g30 (by omega), L8.out.block g30 (by omega), L7.out.block g30 (by omega)])
                            have FS9 : Hid _ := hfs
                            have SE9 : Hid _ := hse
                            have DE9 : Hid _ := hde
                            have L9 : Hid _ := hl9
                            have v1 := hde.v1
                            obtain ⟨y0, y1, y2, y3, y4, y5⟩ := geo9
                            have SM : Hid (Calls Ybaf.prog 11 #[.pointer (some ⟨G, 0, none⟩), .agg #[.int .i64 512, .int .i64 sp, .int .i64 ft, .int .i64 d5, .int .u32 la, .int .u32 rv]] w9 fun e w' => e = .returned (.bool true) ∧ Below w9.heap.size w9 w') := same_any G _ 512 sp ft d5 la rv w9 hfs
                            clear hfs hse hde hl9
                            go_upto_region 34 with (go_at_call 11; refine Calls.mono SM.out ?_; rintro e w10 ⟨rfl, hl10⟩)
                            have fs10 := fs_next FS9.out hl10
                            have se10 : SecAt S W7.heap.size o l w10 := sec_later SE9.out (fun k hk => hl10.block _ (by rw [hk]; exact World.block_lt_of_cell? _ _ SE9.out.1))
                            have de10 : DevAt W7.heap.size W3.heap.size n 2 ZD w10 := DE9.out.beyond (by have := HNO.out; omega) hl10
                            have L10 : Hid (Below w.heap.size w w10) := by
                              have a0 := L3.out.size
                              have a2 := L7.out.size
                              have a3 := L8.out.size
                              have a4 := L9.out.size
                              exact (((L3.out.trans (L7.out.mono (by omega))).trans (L8.out.mono (by omega))).trans (L9.out.mono (by omega))).trans (hl10.mono (by omega))
                            clear hl10 y0 y1 y2 y3 y4 y5 v1
                            have FS10 : Hid _ := fs10
                            have SE10 : Hid _ := se10
                            have DE10 : Hid _ := de10
                            clear fs10 se10 de10
                            go_upto_region 35 with (at_make; refine wpList_make_full _ rfl _ _ 25 rfl w10.heap.size 5 i0 (.int .u8 0) 1 Ybaf.underlying25 HI.out HI0.out HI1.out _ _ _ _ 512 rfl rfl rfl rfl (by rw [HI2.out]; omega) (by unfold maxLen; omega) (Nat.le_refl _) ?_; intro w11 hown hgrow)
                            obtain ⟨cur, hcur, hlen⟩ : ∃ cur : List Value, w11.heap[w10.heap.size]? = some (.cells cur.toArray 5 (0, 0)) ∧ cur.length = 512 := by
                              obtain ⟨_, h | ⟨g, cap, cur, e, _, hg, _, _, hsz, _⟩⟩ := hown
                              · simp at h
                              · simp only [Value.slice.injEq, Option.some.injEq, Addr.mk.injEq, and_true] at e
                                obtain ⟨rfl, _, rfl⟩ := e
                                exact ⟨cur.toList, by simpa using hg, by simpa using hsz⟩
                            have l11 : Below w10.heap.size w10 w11 := (Below.refl _ _).grown hgrow (Nat.le_refl _) (fun k h => by cases h)
                            obtain ⟨vl, bl⟩ := DE10.out.lt (by have := HNO.out; omega)
                            have fs11 := (fs_next FS10.out l11).1
                            have se11 : SecAt S W7.heap.size o l w11 := sec_later SE10.out (fun k hk => l11.block _ (by rw [hk]; exact World.block_lt_of_cell? _ _ SE10.out.1))
                            have de11 : DevAt W7.heap.size W3.heap.size n 2 ZD w11 := DE10.out.beyond (by have := HNO.out; omega) l11
                            have RD : Hid _ := de11.read (D := w10.heap.size) (by omega) se11 (by have := HLE.out; have := HO.out; have := HM1.out; omega) (by have := HLE.out; have := HM1.out; omega) hcur hlen (by omega) NVB.out (by omega) (by have := HNO.out; omega)
                            have DE11 : Hid _ := de11
                            have L11 : Hid (Below w.heap.size w w11) := L10.out.trans (l11.mono L10.out.size)
                            have VL : Hid _ := vl
                            have BL : Hid _ := bl
                            clear hown hgrow hcur hlen l11 se11 de11 vl bl
                            go_upto_region 38 with (go_at_call 184; refine Calls.mono RD.out ?_; rintro e w12 ⟨rfl, hr12⟩)
                            have DE12 : Hid (DevAt W7.heap.size W3.heap.size n 3 ZD w12) := DE11.out.red hr12 (by have := HNO.out; omega) NVB.out (by have := BL.out; omega)
                            have RW : Hid _ := hr12.row
                            have L12 : Hid (Below w.heap.size w w12) := L11.out.trans (hr12.below _ (by have := L7.out.size; have := L3.out.size; omega) L10.out.size)
                            have BL12 : Hid (W3.heap.size < w12.heap.size) := World.block_lt_of_cell? _ _ (DE12.out.z 0 (by have := HNO.out; omega))
                            have DL12 : Hid (w10.heap.size < w12.heap.size) := (Array.getElem?_eq_some_iff.1 hr12.row).1
                            clear hr12 fs11
                            go_wp2_with fail
                            go_loopw [41] (fun i wr => ∃ j : Nat, j ≤ 512 ∧ i = .int .i64 j ∧ Below w12.heap.size w12 wr) (fun i _ => 512 - (intOf i).toNat)
                            case atStart => exact ⟨0, by omega, rfl, Below.refl _ _⟩
                            case round =>
                              obtain ⟨j, hj, rfl, hb⟩ := hrel
                              have HB : Hid _ := hb
                              clear hb
                              by_cases hj2 : j < 512
                              · have c1 := (HB.out.cell (p := ⟨w10.heap.size, j, none⟩) DL12.out).trans (row_cell RW.out j hj2)
                                have c2 := (HB.out.cell (p := ⟨W3.heap.size, o + j, none⟩) BL12.out).trans (DE12.out.z (o + j) (by have := HNO.out; omega))
                                have j1 : (j : Int) < 512 := by omega
                                go_wp2
                                go_quiet (fail)
                                go_wp2
                                exact ⟨⟨j + 1, by omega, by simp, below_drewN HB.out nq⟩, by simp [intOf]; omega⟩
                              · obtain rfl : j = 512 := by omega
                                go_wp2
                                rw [HP.out]
                                exact ⟨rfl, L12.out.trans (HB.out.mono L12.out.size)⟩
end Go.Proofs.YbulkbzbaFmt
