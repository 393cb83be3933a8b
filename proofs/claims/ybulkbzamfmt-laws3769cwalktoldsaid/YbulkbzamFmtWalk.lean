/-
  OWN WORK. THE WALK of LawS3769CWalk.
-/
import Derived.Test.YbulkbzamFmtCheck
namespace Go.Proofs.YbulkbzamFmt
open Go.RowKit

theorem walk_long (a0 a1 a2 a3 : Int) (x : Option Addr) (len cap : Nat) (hl : 1024 < len) (w : World) :
    Calls Ybaf.prog 3 #[.int .u8 a0, .int .u8 a1, .int .u8 a2, .int .u8 a3, .slice x len cap] w fun e w' => e = .returned (.bool true) ∧ Below w.heap.size w w' := by
  have hl' : (1024 : Int) < len := by omega
  go_enter Ybaf.func3, Ybaf.ntmps3
  go_wp2
  go_ret
  exact ⟨rfl, Below.refl _ _⟩

theorem nx_in {R C r c a : Nat} (hr : r < R) (hc : c < C) : (nx R C r c a).1 < R ∧ (nx R C r c a).2 < C := by
  unfold nx
  split
  · rename_i h
    have h' : 0 ≤ (r : Int) + (mv a).1 ∧ (r : Int) + (mv a).1 < R ∧ 0 ≤ (c : Int) + (mv a).2 ∧ (c : Int) + (mv a).2 < C := by simpa [inB] using h
    omega
  · exact ⟨hr, hc⟩
theorem nxt_go {R C r c r' c' : Nat} {dx dy : Int} {wx wc : World} (h : (r', c') = if inB R C (r + dx) (c + dy) then (((r : Int) + dx).toNat, ((c : Int) + dy).toNat) else (r, c)) (hin : inB R C (r + dx) (c + dy) = true) (hw : wx = wc) :
    Value.int .i64 ((r : Int) + dx) = .int .i64 r' ∧ Value.int .i64 ((c : Int) + dy) = .int .i64 c' ∧ wx = wc := by
  have h' : 0 ≤ (r : Int) + dx ∧ (r : Int) + dx < R ∧ 0 ≤ (c : Int) + dy ∧ (c : Int) + dy < C := by simpa [inB] using hin
  rw [if_pos hin, Prod.mk.injEq] at h
  refine ⟨?_, ?_, hw⟩
  · congr 1; omega
  · congr 1; omega
theorem nxt_stay {R C r c r' c' : Nat} {dx dy : Int} {wx wc : World} (h : (r', c') = if inB R C (r + dx) (c + dy) then (((r : Int) + dx).toNat, ((c : Int) + dy).toNat) else (r, c)) (hin : inB R C (r + dx) (c + dy) = false) (hw : wx = wc) :
    Value.int .i64 (r : Int) = .int .i64 r' ∧ Value.int .i64 (c : Int) = .int .i64 c' ∧ wx = wc := by
  rw [if_neg (by simp [hin]), Prod.mk.injEq] at h
  rw [h.1, h.2]
  exact ⟨rfl, rfl, hw⟩

theorem idx_lt {R C r c : Nat} (hr : r < R) (hc : c < C) : r * C + c < R * C := by
  have h1 : (r + 1) * C ≤ R * C := Nat.mul_le_mul_right C (by omega)
  have h2 : (r + 1) * C = r * C + C := Nat.succ_mul r C
  omega

/-- The grid as the law makes it. -/
theorem Before.first {B R C r c N : Nat} (w : World) (hB : w.heap.size = B) : Before B B R C r c N (w.alloc (.cells #[.int .i64 R, .int .i64 C, .float .f64 (floatOfInt .f64 r), .float .f64 (floatOfInt .f64 c), .slice none 0 0, .int .i64 0] 29)) := by
  subst hB
  have h := heap_alloc_new w (.cells #[.int .i64 R, .int .i64 C, .float .f64 (floatOfInt .f64 r), .float .f64 (floatOfInt .f64 c), .slice none 0 0, .int .i64 0] 29)
  exact .inl ⟨⟨Nat.le_refl _, by simp, by simp only [World.cell?, h]; rfl, by simp only [World.cell?, h]; rfl, by simp only [World.cell?, h]; rfl, by simp only [World.cell?, h]; rfl, fun j => by simp only [World.frozen?, h]; simp⟩, by simp only [World.cell?, h]; rfl, by simp only [World.cell?, h]; rfl⟩

set_option maxRecDepth 20000 in
set_option maxHeartbeats 1600000 in
theorem walk_go (a0 a1 a2 a3 : Nat) (x : Option Addr) (len cap : Nat) (z : Nat → Int) (h0 : a0 ≤ 255) (h1 : a1 ≤ 255) (h2 : a2 ≤ 255) (h3 : a3 ≤ 255) (hl : len ≤ 1024) (w : World) (hw : 0 < w.heap.size) (hM : Moves w)
    (hx : len = 0 ∨ ∃ b o, x = some ⟨b, o, none⟩ ∧ b < w.heap.size ∧ ∀ i, i < len → w.cell? ⟨b, o + i, none⟩ = some (.int .u8 (z i)) ∧ 0 ≤ z i ∧ z i ≤ 255) :
    Calls Ybaf.prog 3 #[.int .u8 a0, .int .u8 a1, .int .u8 a2, .int .u8 a3, .slice x len cap] w fun e w' => e = .returned (.bool true) ∧ Below w.heap.size w w' := by
  have HX : Hid _ := hx
  have HM : Hid (Moves w) := hM
  clear hx hM
  obtain ⟨R, hR, hR1, hR2⟩ : ∃ R : Nat, (a0 : Int) % 24 + 1 = R ∧ 1 ≤ R ∧ R ≤ 24 := ⟨a0 % 24 + 1, by omega, by omega, by omega⟩
  obtain ⟨C, hC, hC1, hC2⟩ : ∃ C : Nat, (a1 : Int) % 24 + 1 = C ∧ 1 ≤ C ∧ C ≤ 24 := ⟨a1 % 24 + 1, by omega, by omega, by omega⟩
  obtain ⟨r, hr, hr1⟩ : ∃ r : Nat, (a2 : Int) % (R : Int) = r ∧ r < R := ⟨a2 % R, by simp, Nat.mod_lt _ (by omega)⟩
  obtain ⟨c, hc, hc1⟩ : ∃ c : Nat, (a3 : Int) % (C : Int) = c ∧ c < C := ⟨a3 % C, by simp, Nat.mod_lt _ (by omega)⟩
  go_enter Ybaf.func3, Ybaf.ntmps3
  go_wp2_with fail
  generalize hB : w.heap.size = B at *
  have hbe : Below B w (w.alloc (.cells #[.int .i64 R, .int .i64 C, .float .f64 (floatOfInt .f64 r), .float .f64 (floatOfInt .f64 c), .slice none 0 0, .int .i64 0] 29)) := (Below.refl _ _).alloc (by omega) _
  have hbf : Before B B R C r c (R * C) (w.alloc (.cells #[.int .i64 R, .int .i64 C, .float .f64 (floatOfInt .f64 r), .float .f64 (floatOfInt .f64 c), .slice none 0 0, .int .i64 0] 29)) := Before.first w hB
  have hm1 : Moves (w.alloc (.cells #[.int .i64 R, .int .i64 C, .float .f64 (floatOfInt .f64 r), .float .f64 (floatOfInt .f64 c), .slice none 0 0, .int .i64 0] 29)) := Moves.below HM.out hw hbe
  have H1 : Hid _ := And.intro hbe (And.intro hbf hm1)
  have HRC : Hid ((a2 : Int) % (R : Int) = r ∧ (a3 : Int) % (C : Int) = c) := ⟨hr, hc⟩
  clear hbe hbf hm1 hr hc
  go_loopw [13, 14, 16] (fun s13 s14 s16 wr => ∃ k r c : Nat, k ≤ len ∧ s16 = .int .i64 k ∧ r < R ∧ c < C ∧ s13 = .int .i64 r ∧ s14 = .int .i64 c ∧ Before B B R C r c (R * C) wr ∧ Moves wr ∧ Below B w wr) (fun _ _ i _ => len - (intOf i).toNat)
  case atStart => exact ⟨0, r, c, Nat.zero_le _, rfl, hr1, hc1, by rw [HRC.out.1], by rw [HRC.out.2], H1.out.2.1, H1.out.2.2, H1.out.1⟩
  case round =>
    clear H1
    obtain ⟨k, r, c, hk, rfl, hr1, hc1, rfl, rfl, hbf, hm, hbr⟩ := hrel
    have HBF : Hid (Before B B R C r c (R * C) wr) := hbf
    have HMV : Hid (Moves wr) := hm
    clear hbf hm
    by_cases hlt : k < len
    · obtain e0 | ⟨b, o, rfl, hbb, hcell⟩ := HX.out
      · omega
      have gc := (hbr.cell (p := ⟨b, o + k, none⟩) (by exact hbb)).trans (hcell k hlt).1
      have z0 := (hcell k hlt).2.1
      have z1 := (hcell k hlt).2.2
      obtain ⟨a, ea, ha⟩ : ∃ a : Nat, z k % 4 = a ∧ a < 4 := ⟨(z k % 4).toNat, by omega, by omega⟩
      clear hcell
      go_wp2_with fail
      refine (move_any a _).mono ?_
      rintro e w1 ⟨rfl, rfl⟩
      go_wp2_with fail
      refine (step_any B B R C r c (R * C) a _ hw rfl hR2 hC2 hr1 hc1 ha HMV.out HBF.out).mono ?_
      rintro e w2 ⟨O, rfl, hd, hb2⟩
      have HD : Hid (Gd B B R C (nx R C r c a).1 (nx R C r c a).2 (R * C) O ((nx R C r c a).1 * C + (nx R C r c a).2) (hot ((nx R C r c a).1 * C + (nx R C r c a).2)) w2) := hd
      have HMV2 : Hid (Moves w2) := Moves.below HMV.out hw hb2
      have hbw2 := hbr.trans hb2
      clear hd HMV HBF gc z0 z1 hb2 hbr
      have d1 := mv_fst a
      have d2 := mv_snd a
      have HNX : Hid (nx R C r c a = if inB R C (r + (mv a).1) (c + (mv a).2) then ((r + (mv a).1).toNat, (c + (mv a).2).toNat) else (r, c)) := rfl
      have HNR : Hid ((nx R C r c a).1 < R ∧ (nx R C r c a).2 < C) := nx_in hr1 hc1
      generalize nx R C r c a = nxt at *
      generalize (mv a).1 = dx at *
      generalize (mv a).2 = dy at *
      obtain ⟨d1, d1'⟩ := d1
      obtain ⟨d2, d2'⟩ := d2
      obtain ⟨r', c'⟩ := nxt
      go_upto_region 16 with fail
      go_cut [93] (fun s93 wx => s93 = .bool (inB R C (r + dx) (c + dy)) ∧ wx = w2)
      case first =>
        by_cases x0 : 0 ≤ (r : Int) + dx
        · by_cases x1 : (r : Int) + dx < R
          · by_cases y0 : 0 ≤ (c : Int) + dy
            · by_cases y1 : (c : Int) + dy < C
              · go_wp2
                go_meet
                case rel => exact ⟨congrArg Value.bool (inB_true (by omega)), rfl⟩
              · have d : decide ((c : Int) + dy < C) = false := by simpa using y1
                go_wp2
                go_meet
                case rel => exact ⟨congrArg Value.bool (inB_false (by omega)), rfl⟩
            · have d : decide (0 ≤ (c : Int) + dy) = false := by simpa using y0
              go_wp2
              go_meet
              case rel => exact ⟨congrArg Value.bool (inB_false (by omega)), rfl⟩
          · have d : decide ((r : Int) + dx < R) = false := by simpa using x1
            go_wp2
            go_meet
            case rel => exact ⟨congrArg Value.bool (inB_false (by omega)), rfl⟩
        · have d : decide (0 ≤ (r : Int) + dx) = false := by simpa using x0
          go_wp2
          go_meet
          case rel => exact ⟨congrArg Value.bool (inB_false (by omega)), rfl⟩
      case rest =>
        obtain ⟨rfl, rfl⟩ := hcut
        go_upto_if 93 with fail
        go_cut [13, 14] (fun s13 s14 wx => s13 = .int .i64 r' ∧ s14 = .int .i64 c' ∧ wx = wc)
        case first =>
          by_cases hin : inB R C (r + dx) (c + dy) = true
          · rw [hin]
            have hin' : 0 ≤ (r : Int) + dx ∧ (r : Int) + dx < R ∧ 0 ≤ (c : Int) + dy ∧ (c : Int) + dy < C := by simpa [inB] using hin
            go_wp2
            go_meet
            case rel => exact nxt_go HNX.out hin rfl
          · have hin2 : inB R C (r + dx) (c + dy) = false := by simpa using hin
            rw [hin2]
            clear hin
            go_wp2
            go_meet
            case rel => exact nxt_stay HNX.out hin2 rfl
        case rest =>
          obtain ⟨rfl, rfl, rfl⟩ := hcut
          go_wp2_with fail
          have hnot : ∀ (x : Bool) (w : World), (Op.unary .not (.bool x)).run Ybaf.prog w = .ok (.bool (!x)) w := fun _ _ => rfl
          refine (check_true B B R C r' c' (R * C) O _ rfl hR2 hC2 HNR.out.1 HNR.out.2 HD.out).mono ?_
          rintro e w5 ⟨rfl, q, rfl⟩
          go_wp2
          go_roundw
          case rel => exact ⟨k + 1, r', c', by omega, by go_num, HNR.out.1, HNR.out.2, rfl, rfl, Before.later (.inr ⟨O, _, idx_lt HNR.out.1 HNR.out.2, HD.out⟩) (below_drewN (Below.refl _ _) q), Moves.below HMV2.out hw (below_drewN (Below.refl _ _) q), below_drewN hbw2 q⟩
          case measure => simp [intOf]; omega
    · clear HBF HMV
      go_wp2
      go_ret
      exact ⟨rfl, hB ▸ hbr⟩
end Go.Proofs.YbulkbzamFmt
