/-
  OWN WORK. THE WALK of LawS3770AModel: the law's array lies in block B, its buffer in block B + 1.
-/
import Derived.Test.YbulkbzbaSum
namespace Go.Proofs.Ybulkbzba
open Go.RowKit

theorem Yba.info5 : (Yba.prog.info? 5).map (fun i => (i.zero, i.size, i.bytes)) = some (some (.int .u8 0), 1, 1) := by kernel_rfl

/-- The law's array: eleven bytes in block B. -/
structure Arr (B : Nat) (w : World) (z : Nat → Int) (wr : World) : Prop where
  size : wr.heap.size = B + 1
  below : Below B w wr
  vals : ∀ j, j < 11 → wr.cell? ⟨B, j, none⟩ = some (.int .u8 (z j))
  fits : ∀ j, j < 11 → 0 ≤ z j ∧ z j ≤ 255
  fz : ∀ j, wr.frozen? ⟨B, j, none⟩ = false

theorem Arr.first (w : World) : Arr w.heap.size w (fun _ => 0) (w.alloc (.cells #[.int .u8 0, .int .u8 0, .int .u8 0, .int .u8 0, .int .u8 0, .int .u8 0, .int .u8 0, .int .u8 0, .int .u8 0, .int .u8 0, .int .u8 0] 23)) := by
  have h := heap_alloc_new w (.cells #[.int .u8 0, .int .u8 0, .int .u8 0, .int .u8 0, .int .u8 0, .int .u8 0, .int .u8 0, .int .u8 0, .int .u8 0, .int .u8 0, .int .u8 0] 23)
  refine ⟨by simp, (Below.refl _ _).alloc (Nat.le_refl _) _, fun j hj => ?_, fun _ _ => by simp, fun j => by simp only [World.frozen?, h]; simp⟩
  have hj' : j = 0 ∨ j = 1 ∨ j = 2 ∨ j = 3 ∨ j = 4 ∨ j = 5 ∨ j = 6 ∨ j = 7 ∨ j = 8 ∨ j = 9 ∨ j = 10 := by omega
  rcases hj' with rfl | rfl | rfl | rfl | rfl | rfl | rfl | rfl | rfl | rfl | rfl <;> (simp only [World.cell?, h]; rfl)
theorem Arr.put {B : Nat} {w : World} {z : Nat → Int} {wr : World} (h : Arr B w z wr) (i : Nat) (hi : i < 11) (v : Int) (h0 : 0 ≤ v) (h1 : v ≤ 255) : Arr B w (fun j => if j = i then v else z j) (wr.setCell ⟨B, i, none⟩ (.int .u8 v)) := by
  refine ⟨by simpa [World.setCell] using h.size, h.below.setCell (Nat.le_refl _) _, fun j hj => ?_, fun j hj => ?_, fun j => by rw [World.frozen?_setCell]; exact h.fz j⟩
  · by_cases e : j = i
    · subst e; simp only [if_true]; exact World.cell?_setCell_same _ _ _ (h.vals j hj)
    · simp only [if_neg e]; rw [World.cell?_setCell_other _ _ _ _ (by simp)]; exact h.vals j hj
  · by_cases e : j = i
    · simp only [if_pos e]; exact ⟨h0, h1⟩
    · simp only [if_neg e]; exact h.fits j hj

theorem model_long (a0 : Option Addr) (len0 cap0 : Nat) (a1 : Option Addr) (len1 cap1 : Nat) (h : 1024 < len1) (w : World) :
    Calls Yba.prog 3 #[.slice a0 len0 cap0, .slice a1 len1 cap1] w fun e w' => e = .returned (.bool true) ∧ Below w.heap.size w w' := by
  have h' : (1024 : Int) < len1 := by omega
  go_enter Yba.func3, Yba.ntmps3
  go_wp2
  go_ret
  exact ⟨rfl, Below.refl _ _⟩

set_option maxRecDepth 20000 in
set_option maxHeartbeats 1600000 in
theorem model_go (x : Option Addr) (len0 cap0 : Nat) (z0 : Nat → Int) (y : Option Addr) (len1 cap1 : Nat) (z1 : Nat → Int) (hl1 : len1 ≤ 1024) (w : World)
    (hx : len0 = 0 ∨ ∃ b o, x = some ⟨b, o, none⟩ ∧ b < w.heap.size ∧ ∀ i, i < len0 → w.cell? ⟨b, o + i, none⟩ = some (.int .u8 (z0 i)) ∧ 0 ≤ z0 i ∧ z0 i ≤ 255)
    (hy : len1 = 0 ∨ ∃ b o, y = some ⟨b, o, none⟩ ∧ b < w.heap.size ∧ ∀ i, i < len1 → w.cell? ⟨b, o + i, none⟩ = some (.int .u8 (z1 i)) ∧ 0 ≤ z1 i ∧ z1 i ≤ 255)
    (hy0 : y = none → len1 = 0 ∧ cap1 = 0) :
    Calls Yba.prog 3 #[.slice x len0 cap0, .slice y len1 cap1] w fun e w' => e = .returned (.bool true) ∧ Below w.heap.size w w' := by
  obtain ⟨i0, hi, hz0, hz1, hz2⟩ := info_parts Yba.info5
  have HX : Hid _ := hx
  have HY : Hid _ := hy
  clear hx hy
  have hl1' : ¬ (1024 : Int) < len1 := by omega
  go_enter Yba.func3, Yba.ntmps3
  go_wp2
  generalize hB : w.heap.size = B at *
  go_loopw [6] (fun i wr => ∃ k : Nat, k ≤ 11 ∧ i = .int .i64 k ∧ ∃ z, Arr B w z wr) (fun i _ => 11 - (intOf i).toNat)
  case atStart => subst hB; exact ⟨0, by omega, rfl, _, Arr.first w⟩
  case round =>
    obtain ⟨k, hk, rfl, z, hA⟩ := hrel
    by_cases hgo : k < 11 ∧ k < len0
    · obtain ⟨hlt, hlen⟩ := hgo
      have hlt' : (k : Int) < 11 := by omega
      have hlen' : (k : Int) < len0 := by omega
      rcases HX with h | ⟨b, o, rfl, hb, hcell⟩
      · omega
      have c0 : wr.cell? ⟨b, o + k, none⟩ = some (.int .u8 (z0 k)) := (hA.below.cell (by exact (by omega : b < B))).trans (hcell k hlen).1
      have c1 := hA.vals k hlt
      have c2 := hA.fz k
      go_wp2
      refine ⟨⟨k + 1, by omega, by go_num, _, hA.put k hlt (z0 k) (hcell k hlen).2.1 (hcell k hlen).2.2⟩, ?_⟩
      simp [intOf]; omega
    have hex : ¬ (k : Int) < 11 ∨ ((k : Int) < 11 ∧ ¬ (k : Int) < len0) := by omega
    clear hgo
    rcases hex with hex | ⟨hex, hex'⟩
    all_goals
      have hsz := hA.size
      go_wp2_with (at_make; refine wpList_make_own _ rfl _ _ 22 rfl B 5 i0 (.int .u8 0) 1 Yba.underlying22 hi hz0 hz1 _ _ _ (11 + len1) rfl rfl (by omega) (by rw [hz2]; omega) (by unfold maxLen; omega) (by omega) ?_)
      intro w0 hown0 hgrow0
      have ca : ∀ j u, ((List.range 11).map fun j => Value.int .u8 (z j))[j]? = some u → w0.cell? ((⟨B, 0, none⟩ : Addr).add j) = some u := by
        intro j u hu
        have hj : j < 11 := by have := (List.getElem?_eq_some_iff.1 hu).1; simpa using this
        rw [show ((List.range 11).map fun j => Value.int .u8 (z j))[j]? = some (.int .u8 (z j)) by simp [hj]] at hu
        obtain rfl := Option.some.inj hu
        rw [Addr.add_lit, Nat.zero_add]
        exact hgrow0.cell (hA.vals j hj) (by simp)
      go_wp2_with (at_builtin; refine wpList_append_fits _ rfl (.tmp 37) (.tmp 38) 22 rfl B 5 i0 1 Yba.underlying22 hi hz1 (B + 1) 0 (11 + len1) _ rfl hown0 ⟨B, 0, none⟩ 11 11 ((List.range 11).map fun j => Value.int .u8 (z j)) rfl (by simp) ca (by intro u hu; simp at hu; obtain ⟨q, _, rfl⟩ := hu; rfl) (by omega) ?_)
      intro w1 hown1 hgrow1
      have cy1 : ∀ ad, y = some ad → ∀ j u, ((List.range len1).map fun j => Value.int .u8 (z1 j))[j]? = some u → w1.cell? (ad.add j) = some u := by
        intro ad had j u hu
        have hj : j < len1 := by have := (List.getElem?_eq_some_iff.1 hu).1; simpa using this
        rw [show ((List.range len1).map fun j => Value.int .u8 (z1 j))[j]? = some (.int .u8 (z1 j)) by simp [hj]] at hu
        obtain rfl := Option.some.inj hu
        rcases HY with h | ⟨b, o, hyb, hb, hcell⟩
        · omega
        obtain rfl := Option.some.inj (hyb.symm.trans had)
        have := hgrow1.cell (hgrow0.cell ((hA.below.cell (p := ⟨b, o + j, none⟩) (by exact hb)).trans (hcell j hj).1) (by simp)) (by simp; omega)
        rw [Addr.add_lit]
        exact this
      go_wp2_with (at_builtin; refine wpList_append_fits_any _ rfl (.tmp 40) (.tmp 41) 22 rfl B 5 i0 1 Yba.underlying22 hi hz1 (B + 1) 11 (11 + len1) _ rfl hown1 y len1 cap1 ((List.range len1).map fun j => Value.int .u8 (z1 j)) rfl (by simp) hy0 cy1 (by intro u hu; simp at hu; obtain ⟨q, _, rfl⟩ := hu; rfl) (by omega) ?_)
      intro w2 hown2 hgrow2
      have va : ∀ j, j < 11 → w2.cell? ⟨B, j, none⟩ = some (.int .u8 (z j)) := fun j hj => hgrow2.cell (hgrow1.cell (hgrow0.cell (hA.vals j hj) (by simp)) (by simp)) (by simp)
      have vb : ∀ j, j < 11 → w2.cell? ⟨B + 1, j, none⟩ = some (.int .u8 (z j)) := by
        intro j hj
        rw [hown2.cellAt j (by omega)]
        have hj' : j = 0 ∨ j = 1 ∨ j = 2 ∨ j = 3 ∨ j = 4 ∨ j = 5 ∨ j = 6 ∨ j = 7 ∨ j = 8 ∨ j = 9 ∨ j = 10 := by omega
        rcases hj' with rfl | rfl | rfl | rfl | rfl | rfl | rfl | rfl | rfl | rfl | rfl <;> rfl
      have vt : ∀ j, j < len1 → w2.cell? ⟨B + 1, 11 + j, none⟩ = some (.int .u8 (z1 j)) := by
        intro j hj
        rw [hown2.cellAt (11 + j) (by omega), Nat.add_comm 11 j]
        simp [hj]
      have vy : ∀ ad, y = some ad → ∀ j, j < len1 → w2.cell? (ad.add j) = some (.int .u8 (z1 j)) := by
        intro ad had j hj
        rcases HY with h | ⟨b, o, hyb, hb, hcell⟩
        · omega
        obtain rfl := Option.some.inj (hyb.symm.trans had)
        exact hgrow2.cell (cy1 _ had j _ (by simp [hj])) (by simp [Addr.add_lit]; omega)
      have bel : Below B w w2 := ((hA.below.grown hgrow0 (by omega) (fun k h => by cases h)).grown hgrow1 (by have := hgrow0.size; omega) (fun k h => by cases h; omega)).grown hgrow2 (by have := hgrow0.size; have := hgrow1.size; omega) (fun k h => by cases h; omega)
      have hfit := hA.fits
      have VY : Hid _ := vy
      have VB : Hid _ := vb
      have VT : Hid _ := vt
      clear hown0 hown1 hown2 hgrow0 hgrow1 hgrow2 cy1 ca hA vy vb vt
      go_wp2
      go_loopw [8, 9] (fun s i wx => ∃ m : Nat, m ≤ 11 ∧ i = .int .i64 m ∧ s = .int .u8 (ck z m) ∧ wx = w2) (fun _ i _ => 11 - (intOf i).toNat)
      case atStart => exact ⟨0, by omega, rfl, rfl, rfl⟩
      case round =>
        obtain ⟨m, hm, rfl, rfl, rfl⟩ := hrel
        by_cases hlt : m < 11
        · have hlt' : (m : Int) < 11 := by omega
          have c1 := va m hlt
          obtain ⟨s0, s1⟩ := ck_in z m
          have hs : ck z (m + 1) = (ck z m / 2 + ck z m % 2 * 128 + z m) % 256 := rfl
          generalize ck z m = s at *
          have hlo := low s s0 s1
          go_wp2
          refine ⟨⟨m + 1, by omega, by go_num, by rw [hs], trivial⟩, ?_⟩
          simp [intOf]; omega
        obtain rfl : m = 11 := by omega
        generalize hck : ck z 11 = s at *
        go_wp2_with (go_at_call 4; refine (checksum_go (B + 1) (11 + len1) (11 + len1) z (by omega) (by omega) _ VB).mono ?_; rintro e w3 ⟨rfl, rfl⟩)
        go_loopw [12] (fun i wx => ∃ (m q : Nat), m ≤ 11 ∧ i = .int .i64 m ∧ wx = w3.drewN q) (fun i _ => 11 - (intOf i).toNat)
        case atStart => exact ⟨0, 0, by omega, rfl, rfl⟩
        case round =>
          obtain ⟨m, q, hm, rfl, rfl⟩ := hrel
          by_cases hlt : m < 11
          · have hlt' : (m : Int) < 11 := by omega
            have hlt'' : (m : Int) < 11 + len1 := by omega
            have c1 := va m hlt
            have c2 := VB m hlt
            go_upto_region 24 with fail
            go_quiet (fail)
            go_wp2
            refine ⟨⟨m + 1, q + nq, by omega, by go_num, rfl⟩, ?_⟩
            simp [intOf]; omega
          obtain rfl : m = 11 := by omega
          go_wp2
          go_loopw [13] (fun i wx => ∃ (m q : Nat), m ≤ len1 ∧ i = .int .i64 m ∧ wx = w3.drewN q) (fun i _ => len1 - (intOf i).toNat)
          case atStart => exact ⟨0, q, by omega, rfl, rfl⟩
          case round =>
            obtain ⟨m, q, hm, rfl, rfl⟩ := hrel
            by_cases hlt : m < len1
            · have hlt' : (m : Int) < len1 := by omega
              have hlt'' : (11 : Int) + m < 11 + len1 := by omega
              have c2 := VT m hlt
              obtain ⟨ad, rfl⟩ : ∃ ad, y = some ad := by
                cases y with
                | none => have := (hy0 rfl).1; omega
                | some ad => exact ⟨ad, rfl⟩
              have c1 := VY ad rfl m hlt
              go_upto_region 29 with fail
              go_quiet (fail)
              go_wp2
              refine ⟨⟨m + 1, q + nq, by omega, by go_num, rfl⟩, ?_⟩
              simp [intOf]; omega
            obtain rfl : m = len1 := by omega
            go_wp2
            go_ret
            exact ⟨rfl, hB ▸ below_drewN bel q⟩
end Go.Proofs.Ybulkbzba
