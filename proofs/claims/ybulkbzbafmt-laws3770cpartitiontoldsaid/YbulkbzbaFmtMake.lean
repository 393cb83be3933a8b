/-
  OWN WORK. THE WALK of fat.New over a device that holds a bare boot sector.
-/
import Derived.Test.YbulkbzbaFmtNew
import Derived.Test.YbulkbzbaFmtRead
namespace Go.Proofs.YbulkbzbaFmt
open Go.RowKit Go.Extern.Stop Go.Stop Go.Extern

theorem volume_good (F : Interp) (dT : TypeId) (da : Addr) (D : Nat) (zb : Nat → Int) (s p r f z sec flags root : Int) (h : Fits s p r f z sec flags root) (h4 : s ≤ 4096) (hb : Boot zb s p r f z sec flags root) (g : Good s p r f z sec flags root) (w : World) (hF : F.answers w.tape)
    (hD : D < w.heap.size) (hz : ∀ i, i < 512 → w.cell? ⟨D, i, none⟩ = some (.int .u8 (zb i))) (hfit : ∀ i, i < 512 → 0 ≤ zb i ∧ zb i ≤ 255) :
    Calls Ybaf.prog 16 #[.iface dT (.pointer (some da)), .slice (some ⟨D, 0, none⟩) 512 512] w fun e w' => ∃ G, e = .returned (.tuple #[.pointer (some ⟨G, 0, none⟩), .nilIface]) ∧ w.heap.size ≤ G ∧
      FsAt G (.iface dT (.pointer (some da))) s (s * p) (fatOf s r z flags) (dsOf r f z * s) (clu s p r f z sec + 1) (bits .and .u32 root 268435455) w' ∧ Below w.heap.size w w' :=
  (volume_any F dT da D zb s p r f z sec flags root h h4 hb w hF hD hz hfit).mono fun e w' ⟨hl, hp⟩ => by
    rcases hp with ⟨_, G, hG, he, hf⟩ | ⟨hn, _⟩
    · exact ⟨G, he, hG, hf, hl⟩
    · exact absurd g hn
theorem volume_bad (F : Interp) (dT : TypeId) (da : Addr) (D : Nat) (zb : Nat → Int) (s p r f z sec flags root : Int) (h : Fits s p r f z sec flags root) (h4 : s ≤ 4096) (hb : Boot zb s p r f z sec flags root) (g : ¬ Good s p r f z sec flags root) (w : World) (hF : F.answers w.tape)
    (hD : D < w.heap.size) (hz : ∀ i, i < 512 → w.cell? ⟨D, i, none⟩ = some (.int .u8 (zb i))) (hfit : ∀ i, i < 512 → 0 ≤ zb i ∧ zb i ≤ 255) :
    Calls Ybaf.prog 16 #[.iface dT (.pointer (some da)), .slice (some ⟨D, 0, none⟩) 512 512] w fun e w' => ∃ a t, e = .returned (.tuple #[.pointer none, .iface 92 (.pointer (some a))]) ∧ w'.cell? a = some (.string t) ∧ Below w.heap.size w w' :=
  (volume_any F dT da D zb s p r f z sec flags root h h4 hb w hF hD hz hfit).mono fun e w' ⟨hl, hp⟩ => by
    rcases hp with ⟨hg, _⟩ | ⟨_, v, he, a, t, rfl, ht⟩
    · exact absurd hg g
    · exact ⟨a, t, he, ht, hl⟩

/-- What New leaves. -/
def NewPost (V : Nat) (s p r f z sec flags root : Int) (B : Nat) (w : World) (e : Ending) (w' : World) : Prop :=
  Below B w w' ∧ w'.cell? ⟨V, 1, none⟩ = some (.int .i64 1) ∧ ((Good s p r f z sec flags root ∧ ∃ G, G < w'.heap.size ∧ e = .returned (.tuple #[.pointer (some ⟨G, 0, none⟩), .nilIface]) ∧ FsAt G (.iface 59 (.pointer (some ⟨V, 0, none⟩))) s (s * p) (fatOf s r z flags) (dsOf r f z * s) (clu s p r f z sec + 1) (bits .and .u32 root 268435455) w') ∨
    (¬ Good s p r f z sec flags root ∧ ∃ T a, e = .returned (.tuple #[.pointer none, .iface T (.pointer (some a))])))

set_option maxRecDepth 20000 in
set_option maxHeartbeats 3200000 in
theorem new_direct (F : Interp) (B V b : Nat) (zb : Nat → Int) (s p r f z sec flags root : Int) (h : Fits s p r f z sec flags root) (h4 : s ≤ 4096) (hb : Boot zb s p r f z sec flags root) (hno : ∀ k, k < 4 → ¬ zb (450 + 16 * k) = 11 ∧ ¬ zb (450 + 16 * k) = 12) (w : World) (hF : F.answers w.tape)
    (hBV : B ≤ V) (hVb : ¬ V = b) (hV0 : w.cell? ⟨V, 0, none⟩ = some (.slice (some ⟨b, 0, none⟩) 512 512)) (hV1 : w.cell? ⟨V, 1, none⟩ = some (.int .i64 0)) (hVf : w.frozen? ⟨V, 1, none⟩ = false)
    (hz : ∀ i, i < 512 → w.cell? ⟨b, i, none⟩ = some (.int .u8 (zb i))) (hfit : ∀ i, i < 512 → 0 ≤ zb i ∧ zb i ≤ 255) :
    Calls Ybaf.prog 9 #[.iface 59 (.pointer (some ⟨V, 0, none⟩))] w fun e w' => NewPost V s p r f z sec flags root B w e w' := by
  have hV : V < w.heap.size := World.block_lt_of_cell? _ _ hV0
  have hbl : b < w.heap.size := World.block_lt_of_cell? _ _ (hz 0 (by omega))
  obtain ⟨POST, hPOST⟩ : ∃ POST : Ending → World → Prop, POST = fun e w' => NewPost V s p r f z sec flags root B w e w' := ⟨_, rfl⟩
  rw [← hPOST]
  have HP : Hid _ := hPOST
  have HZ : Hid _ := hz
  obtain ⟨i0, hi, hz0, hz1, hz2⟩ := info_parts info5
  clear hPOST hz
  go_enter Ybaf.func9, Ybaf.ntmps9
  go_wp2_with (at_make; refine wpList_make_full _ rfl _ _ 25 rfl w.heap.size 5 i0 (.int .u8 0) 1 Ybaf.underlying25 hi hz0 hz1 _ _ _ _ 512 rfl rfl rfl rfl (by rw [hz2]; omega) (by unfold maxLen; omega) (Nat.le_refl _) ?_)
  intro w1 hown hgrow
  obtain ⟨cur, hcur, hlen⟩ : ∃ cur : List Value, w1.heap[w.heap.size]? = some (.cells cur.toArray 5 (0, 0)) ∧ cur.length = 512 := by
    obtain ⟨_, h | ⟨g, cap, cur, e, _, hg, _, _, hsz, _⟩⟩ := hown
    · simp at h
    · simp only [Value.slice.injEq, Option.some.injEq, Addr.mk.injEq, and_true] at e
      obtain ⟨rfl, _, rfl⟩ := e
      exact ⟨cur.toList, by simpa using hg, by simpa using hsz⟩
  have nVD : ¬ V = w.heap.size := by omega
  have nbD : ¬ b = w.heap.size := by omega
  have hD1 : w.heap.size < w1.heap.size := (Array.getElem?_eq_some_iff.1 hcur).1
  have g1 := hgrow.cell hV1 (by simp)
  obtain ⟨W2, hW2⟩ : ∃ W2, W2 = readWorld V w.heap.size 0 (fun i => zb (0 + i)) w1 := ⟨_, rfl⟩
  have RF : Hid (Calls Ybaf.prog 15 #[.iface 59 (.pointer (some ⟨V, 0, none⟩)), .slice (some ⟨w.heap.size, 0, none⟩) 512 512, .int .i64 0] w1 fun e w' => e = .returned .nilIface ∧ w' = W2) :=
    hW2 ▸ readFull_dev V b 512 w.heap.size 0 zb 0 cur w1 (by omega) (hgrow.cell hV0 (by simp)) g1 ((World.frozen?_of_block (hgrow.block V hV (by simp))).trans hVf) (fun i hi => hgrow.cell (HZ.out i hi) (by simp)) hcur hlen nVD hVb nbD (by omega)
  have BL : Hid (Below B w W2) := hW2 ▸ readWorld_below ((Below.refl _ _).grown hgrow (by omega) (fun k h => by cases h)) hBV (by omega)
  have Z2 : Hid (∀ i, i < 512 → W2.cell? ⟨w.heap.size, i, none⟩ = some (.int .u8 (zb i))) := fun i hi => by
    have := row_cell (readWorld_row (calls := 0) (z := fun i => zb (0 + i)) nVD hcur) i hi
    rw [← hW2] at this
    simpa using this
  have SZ : Hid (w.heap.size < W2.heap.size) := by rw [hW2]; show w.heap.size < _; rw [readWorld_size]; exact hD1
  have V2 : Hid (W2.cell? ⟨V, 1, none⟩ = some (.int .i64 1)) := by
    rw [hW2]
    show (readWorld V w.heap.size 0 (fun i => zb (0 + i)) w1).cell? ⟨V, 1, none⟩ = some (.int .i64 1)
    rw [readWorld_cells nVD 1]
    exact World.cell?_setCell_same _ _ _ g1
  have F2 : Hid (F.answers W2.tape) := by show F.answers W2.tape; rw [BL.out.tape]; exact hF
  have FIT : Hid _ := hfit
  have HNO : Hid _ := hno
  have SIG : Hid (zb 510 + zb 511 * 256 = 43605) := hb.sig
  have VL : Hid (V < W2.heap.size) := by have := SZ.out; show V < W2.heap.size; omega
  have BW : Hid (B ≤ W2.heap.size) := by have := SZ.out; show B ≤ W2.heap.size; omega
  by_cases g : Good s p r f z sec flags root
  · have VG : Hid _ := volume_good F 59 ⟨V, 0, none⟩ w.heap.size zb s p r f z sec flags root h h4 hb g W2 F2.out SZ.out Z2.out hfit
    have GD : Hid _ := g
    clear hown hgrow hcur hlen hD1 hW2 hno hfit hb h g g1
    go_wp2_with (first | (go_at_call 15; refine Calls.mono RF.out ?_; rintro e w2 ⟨rfl, rfl⟩) | (go_at_call 16; refine Calls.mono VG.out ?_; rintro e w3 ⟨G, rfl, hG, hfs, hl3⟩))
    rw [HP.out]
    exact ⟨BL.out.trans (hl3.mono BW.out), (hl3.cell (p := ⟨V, 1, none⟩) VL.out).trans V2.out, .inl ⟨GD.out, G, World.block_lt_of_cell? _ _ hfs.1, rfl, hfs⟩⟩
  · have VB : Hid _ := volume_bad F 59 ⟨V, 0, none⟩ w.heap.size zb s p r f z sec flags root h h4 hb g W2 F2.out SZ.out Z2.out hfit
    have GD : Hid _ := g
    clear hown hgrow hcur hlen hD1 hW2 hno hfit hb h g g1
    go_wp2_with (first
      | (go_at_call 15; refine Calls.mono RF.out ?_; rintro e w2 ⟨rfl, rfl⟩)
      | (go_at_call 16; refine Calls.mono VB.out ?_; rintro e w3 ⟨a, t, rfl, ht, hl3⟩)
      | (go_at_call 17; refine (part_none w.heap.size zb _ (Nat.lt_of_lt_of_le SZ.out hl3.size) (fun i hi => (hl3.cell (p := ⟨w.heap.size, i, none⟩) SZ.out).trans (Z2.out i hi)) FIT.out SIG.out HNO.out).mono ?_; rintro e w4 ⟨rfl, hl4⟩)
      | (go_at_call 13; refine (errorf_w1 F _ (fun _ => by kernel_rfl) _ _ _ (by show F.answers w4.tape; rw [hl4.tape, hl3.tape]; exact F2.out) (new_cell _ _ _) ⟨a, t, rfl, (((Below.refl _ _).alloc (Nat.le_refl _) _).cell (p := a) (Nat.lt_of_lt_of_le (World.block_lt_of_cell? _ _ ht) hl4.size)).trans ((hl4.cell (p := a) (World.block_lt_of_cell? _ _ ht)).trans ht)⟩).mono ?_; rintro e w5 ⟨v, rfl, ⟨a5, rfl⟩, hl5⟩))
    rw [HP.out]
    have l4 : Below B w w4 := (BL.out.trans (hl3.mono BW.out)).trans (hl4.mono (Nat.le_trans BW.out hl3.size))
    have s4 : V < w4.heap.size := Nat.lt_of_lt_of_le VL.out (Nat.le_trans hl3.size hl4.size)
    refine ⟨(l4.alloc (by omega) _).trans (hl5.mono (by simp; omega)), ?_, .inr ⟨GD.out, 87, a5, rfl⟩⟩
    rw [hl5.cell (p := ⟨V, 1, none⟩) (by simp; omega), ((Below.refl _ _).alloc (Nat.le_refl _) _).cell (p := ⟨V, 1, none⟩) s4, hl4.cell (p := ⟨V, 1, none⟩) (Nat.lt_of_lt_of_le VL.out hl3.size), hl3.cell (p := ⟨V, 1, none⟩) VL.out]
    exact V2.out
end Go.Proofs.YbulkbzbaFmt
