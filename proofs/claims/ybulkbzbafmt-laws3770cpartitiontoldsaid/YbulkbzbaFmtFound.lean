/-
  OWN WORK. THE WALK of fat.New over a disk whose master boot record lists a FAT32 partition.
-/
import Derived.Test.YbulkbzbaFmtPart
import Derived.Test.YbulkbzbaFmtSection
import Derived.Test.YbulkbzbaFmtMake
namespace Go.Proofs.YbulkbzbaFmt
open Go.RowKit Go.Extern.Stop Go.Stop Go.Extern

theorem fits0 : Fits 0 0 0 0 0 0 0 0 := by constructor <;> omega
theorem good0 : ¬ Good 0 0 0 0 0 0 0 0 := fun g => by have := g.s0; omega

theorem sec_later {S V o l : Nat} {w w' : World} (h : SecAt S V o l w) (hb : ∀ k, k = S → w'.heap[k]? = w.heap[k]?) : SecAt S V o l w' := by
  obtain ⟨h0, h1, h3⟩ := h
  exact ⟨(World.cell?_of_block (hb S rfl)).trans h0, (World.cell?_of_block (hb S rfl)).trans h1, (World.cell?_of_block (hb S rfl)).trans h3⟩
theorem sec_new (V o l : Nat) (x y : Value) (w : World) : SecAt w.heap.size V o l (w.alloc (.cells #[.iface 59 (.pointer (some ⟨V, 0, none⟩)), .int .i64 (o : Int), x, .int .i64 (l : Int), y] 90)) := by
  have h := heap_alloc_new w (.cells #[.iface 59 (.pointer (some ⟨V, 0, none⟩)), .int .i64 (o : Int), x, .int .i64 (l : Int), y] 90)
  refine ⟨?_, ?_, ?_⟩ <;> (simp only [World.cell?, h]; rfl)

/-- A device at V: n bytes in block b, so many calls. -/
structure DevAt (V b n : Nat) (calls : Int) (z : Nat → Int) (w : World) : Prop where
  v0 : w.cell? ⟨V, 0, none⟩ = some (.slice (some ⟨b, 0, none⟩) n n)
  v1 : w.cell? ⟨V, 1, none⟩ = some (.int .i64 calls)
  fz : w.frozen? ⟨V, 1, none⟩ = false
  z : ∀ i, i < n → w.cell? ⟨b, i, none⟩ = some (.int .u8 (z i))
theorem DevAt.later {V b n : Nat} {calls : Int} {z : Nat → Int} {w w' : World} (h : DevAt V b n calls z w) (hV : w'.heap[V]? = w.heap[V]?) (hb : w'.heap[b]? = w.heap[b]?) : DevAt V b n calls z w' :=
  ⟨(World.cell?_of_block hV).trans h.v0, (World.cell?_of_block hV).trans h.v1, (World.frozen?_of_block hV).trans h.fz, fun i hi => (World.cell?_of_block hb).trans (h.z i hi)⟩
theorem DevAt.red {V b n D : Nat} {calls : Int} {z zz : Nat → Int} {w w' : World} (h : DevAt V b n calls z w) (hr : Red V D calls zz w w') (hn : 0 < n) (nVb : ¬ V = b) (nbD : ¬ b = D) : DevAt V b n (calls + 1) z w' :=
  ⟨hr.dev.trans h.v0, hr.cnt, hr.fz.trans h.fz, fun i hi => (World.cell?_of_block (hr.rest b (World.block_lt_of_cell? _ _ (h.z 0 hn)) (fun e => nVb e.symm) nbD)).trans (h.z i hi)⟩
theorem DevAt.lt {V b n : Nat} {calls : Int} {z : Nat → Int} {w : World} (h : DevAt V b n calls z w) (hn : 0 < n) : V < w.heap.size ∧ b < w.heap.size := ⟨World.block_lt_of_cell? _ _ h.v0, World.block_lt_of_cell? _ _ (h.z 0 hn)⟩
theorem DevAt.beyond {V b n : Nat} {calls : Int} {z : Nat → Int} {w w' : World} (h : DevAt V b n calls z w) (hn : 0 < n) (hb : Below w.heap.size w w') : DevAt V b n calls z w' := h.later (hb.block _ (h.lt hn).1) (hb.block _ (h.lt hn).2)
theorem DevAt.read {V b n D S off l : Nat} {calls : Int} {z : Nat → Int} {w : World} {cur : List Value} (h : DevAt V b n calls z w) (hc : 0 ≤ calls ∧ calls ≤ 1000) (hS : SecAt S V off l w) (hl : off + 512 ≤ l) (hl2 : l ≤ 4398046510080)
    (hD : w.heap[D]? = some (.cells cur.toArray 5 (0, 0))) (hlen : cur.length = 512) (nVD : ¬ V = D) (nVb : ¬ V = b) (nbD : ¬ b = D) (ho : off + 512 ≤ n) :
    Calls Ybaf.prog 184 #[.pointer (some ⟨S, 0, none⟩), .slice (some ⟨D, 0, none⟩) 512 512, .int .i64 0] w fun e w' => e = .returned (.tuple #[.int .i64 512, .nilIface]) ∧ Red V D calls (fun i => z (off + i)) w w' :=
  secRead_any S V b n D off l z calls cur w hc hS hl hl2 h.v0 h.v1 h.fz h.z hD hlen nVD nVb nbD ho

/-- What New leaves over a partition. -/
def PartPost (V b n o l : Nat) (z : Nat → Int) (s p r f zz sec flags root : Int) (B : Nat) (w : World) (e : Ending) (w' : World) : Prop :=
  ∃ G S, e = .returned (.tuple #[.pointer (some ⟨G, 0, none⟩), .nilIface]) ∧ FsAt G (.iface 81 (.pointer (some ⟨S, 0, none⟩))) s (s * p) (fatOf s r zz flags) (dsOf r f zz * s) (clu s p r f zz sec + 1) (bits .and .u32 root 268435455) w' ∧
    SecAt S V o l w' ∧ DevAt V b n 2 z w' ∧ Below B w w'

set_option maxRecDepth 20000 in
set_option maxHeartbeats 3200000 in
theorem new_part (F : Interp) (B V b n o l : Nat) (z : Nat → Int) (K : Nat) (st sz : Int) (s p r f zz sec flags root : Int) (h : Fits s p r f zz sec flags root) (g : Good s p r f zz sec flags root) (hb : Boot (fun i => z (o + i)) s p r f zz sec flags root) (hm : Mbr z K st sz) (w : World) (hF : F.answers w.tape)
    (ho : (o : Int) = st * 512) (hl : (l : Int) = sz * 512 + st * 512) (hn : o + 512 ≤ n) (hs2 : st ≤ 1000000) (hz2 : sz ≤ 1000000)
    (hBV : B ≤ V) (hVb : ¬ V = b) (hd : DevAt V b n 0 z w) (hfit : ∀ i, i < n → 0 ≤ z i ∧ z i ≤ 255) :
    Calls Ybaf.prog 9 #[.iface 59 (.pointer (some ⟨V, 0, none⟩))] w fun e w' => PartPost V b n o l z s p r f zz sec flags root B w e w' := by
  have hn0 : 0 < n := by omega
  have hst := hm.st1
  have hsz := hm.sz1
  have hlo : o + 512 ≤ l := by omega
  have hl2 : l ≤ 4398046510080 := by omega
  obtain ⟨hV, hbl⟩ := hd.lt hn0
  obtain ⟨POST, hPOST⟩ : ∃ POST : Ending → World → Prop, POST = fun e w' => PartPost V b n o l z s p r f zz sec flags root B w e w' := ⟨_, rfl⟩
  rw [← hPOST]
  have HP : Hid _ := hPOST
  have DV : Hid _ := hd
  obtain ⟨i0, hi, hz0, hz1, hz2'⟩ := info_parts info5
  clear hPOST hd
  go_enter Ybaf.func9, Ybaf.ntmps9
  go_wp2_with (at_make; refine wpList_make_full _ rfl _ _ 25 rfl w.heap.size 5 i0 (.int .u8 0) 1 Ybaf.underlying25 hi hz0 hz1 _ _ _ _ 512 rfl rfl rfl rfl (by rw [hz2']; omega) (by unfold maxLen; omega) (Nat.le_refl _) ?_)
  intro w1 hown hgrow
  obtain ⟨cur, hcur, hlen⟩ : ∃ cur : List Value, w1.heap[w.heap.size]? = some (.cells cur.toArray 5 (0, 0)) ∧ cur.length = 512 := by
    obtain ⟨_, h | ⟨g, cap, cur, e, _, hg, _, _, hsz, _⟩⟩ := hown
    · simp at h
    · simp only [Value.slice.injEq, Option.some.injEq, Addr.mk.injEq, and_true] at e
      obtain ⟨rfl, _, rfl⟩ := e
      exact ⟨cur.toList, by simpa using hg, by simpa using hsz⟩
  obtain ⟨D, hDe⟩ : ∃ D, D = w.heap.size := ⟨_, rfl⟩
  rw [← hDe] at hcur ⊢
  have nVD : ¬ V = D := by omega
  have nbD : ¬ b = D := by omega
  have hBw : B ≤ w.heap.size := by omega
  have L1 : Below w.heap.size w w1 := (Below.refl _ _).grown hgrow (Nat.le_refl _) (fun k h => by cases h)
  have d1 : DevAt V b n 0 z w1 := DV.out.beyond hn0 L1
  have RF : Hid (Calls Ybaf.prog 15 #[.iface 59 (.pointer (some ⟨V, 0, none⟩)), .slice (some ⟨D, 0, none⟩) 512 512, .int .i64 0] w1 fun e w' => e = .returned .nilIface ∧ Red V D 0 z w1 w') :=
    (readFull_dev V b n D 0 z 0 cur w1 (by omega) d1.v0 d1.v1 d1.fz d1.z hcur hlen nVD hVb nbD (by omega)).mono fun e w' ⟨he, hw⟩ => ⟨he, by simpa using red_of (Below.refl _ _) hw nVD d1.v1 hcur⟩
  have D1 : Hid _ := d1
  have LL1 : Hid _ := L1
  have FIT : Hid _ := hfit
  have FT : Hid _ := h
  have GD : Hid _ := g
  have BT : Hid _ := hb
  have MB : Hid _ := hm
  have TP : Hid (F.answers w1.tape) := by show F.answers w1.tape; rw [L1.tape]; exact hF
  have HD1 : Hid (D < w1.heap.size) := (Array.getElem?_eq_some_iff.1 hcur).1
  have HO : Hid _ := ho
  have HL : Hid _ := hl
  have HN : Hid _ := hn
  have HS2 : Hid _ := hs2
  have HZ2 : Hid _ := hz2
  have HST : Hid _ := hst
  have HSZ : Hid _ := hsz
  have HLO : Hid _ := hlo
  have HL2 : Hid _ := hl2
  have NVD : Hid _ := nVD
  have NBD : Hid _ := nbD
  have NVB : Hid _ := hVb
  have HBV : Hid _ := hBV
  have HBW : Hid _ := hBw
  have HDE : Hid _ := hDe
  have HVL : Hid _ := hV
  have HN0 : Hid _ := hn0
  clear hown hgrow hcur hlen hfit hb h g hm d1 L1 hF ho hl hn hs2 hz2 hst hsz hlo hl2 nVD nbD hVb hBV hBw hDe hV hbl hn0 hi hz0 hz1 hz2'
  go_upto_region 5 with (go_at_call 15; refine Calls.mono RF.out ?_; rintro e w2 ⟨rfl, hr2⟩)
  have hDl2 : D < w2.heap.size := Nat.lt_of_lt_of_le HD1.out hr2.size
  have B2 : Below B w w2 := (LL1.out.mono HBW.out).trans (hr2.below B HBV.out (by have := HDE.out; have := HBW.out; omega))
  have Z2 : Hid (∀ i, i < 512 → w2.cell? ⟨D, i, none⟩ = some (.int .u8 (z i))) := fun i hi => row_cell hr2.row i hi
  have FIT5 : Hid (∀ i, i < 512 → 0 ≤ z i ∧ z i ≤ 255) := fun i hi => FIT.out i (by have := HN.out; omega)
  have D2 : Hid (DevAt V b n 1 z w2) := D1.out.red hr2 HN0.out NVB.out NBD.out
  have F2 : Hid (F.answers w2.tape) := by show F.answers w2.tape; rw [B2.tape, ← LL1.out.tape]; exact TP.out
  have VB : Hid _ := volume_bad F 59 ⟨V, 0, none⟩ D z 0 0 0 0 0 0 0 0 fits0 (by omega) MB.out.boot good0 w2 F2.out hDl2 Z2.out FIT5.out
  have R2 : Hid _ := hr2.row
  have BB2 : Hid _ := B2
  have BZ2 : Hid (B ≤ w2.heap.size) := by show B ≤ w2.heap.size; have := HDE.out; have := HBW.out; omega
  clear B2 hr2
  go_upto_region 11 with (first
    | (go_at_call 16; refine Calls.mono VB.out ?_; rintro e w3 ⟨a, t, rfl, ht, hl3⟩)
    | (go_at_call 17; refine (part_found D z K st sz w3 (Nat.lt_of_lt_of_le hDl2 hl3.size) (fun i hi => (hl3.cell (p := ⟨D, i, none⟩) hDl2).trans (Z2.out i hi)) FIT5.out MB.out).mono ?_; rintro e w4 ⟨rfl, hl4⟩))
  have B4 : Hid (Below B w w4) := (BB2.out.trans (hl3.mono BZ2.out)).trans (hl4.mono (Nat.le_trans BZ2.out hl3.size))
  have D4 : Hid (DevAt V b n 1 z w4) := (D2.out.beyond HN0.out hl3).beyond HN0.out hl4
  have R4 : Hid (w4.heap[D]? = some (.cells (cells512 z).toArray 5 (0, 0))) := ((hl4.block _ (Nat.lt_of_lt_of_le hDl2 hl3.size)).trans (hl3.block _ hDl2)).trans R2.out
  have BZ4 : Hid (B ≤ w4.heap.size) := Nat.le_trans BZ2.out (Nat.le_trans hl3.size hl4.size)
  have DL4 : Hid (D < w4.heap.size) := Nat.lt_of_lt_of_le hDl2 (Nat.le_trans hl3.size hl4.size)
  have HW : Hid (∀ w5, w5 = w4.alloc (.cells #[.iface 59 (.pointer (some ⟨V, 0, none⟩)), .int .i64 (st * 512), .int .i64 (st * 512), .int .i64 (sz * 512 + st * 512), .int .i64 (sz * 512)] 90) →
      Below B w w5 ∧ DevAt V b n 1 z w5 ∧ SecAt w4.heap.size V o l w5 ∧ w5.heap[D]? = some (.cells (cells512 z).toArray 5 (0, 0)) ∧ w4.heap.size < w5.heap.size) := fun w5 h5 => by
    subst h5
    rw [← HO.out, show sz * 512 + (o : Int) = (l : Int) by have := HL.out; have := HO.out; omega]
    have L5 : Below w4.heap.size w4 (w4.alloc (.cells #[.iface 59 (.pointer (some ⟨V, 0, none⟩)), .int .i64 (o : Int), .int .i64 (o : Int), .int .i64 (l : Int), .int .i64 (sz * 512)] 90)) := (Below.refl _ _).alloc (Nat.le_refl _) _
    exact ⟨B4.out.trans (L5.mono BZ4.out), D4.out.beyond HN0.out L5, sec_new V o l _ _ w4, (L5.block _ DL4.out).trans R4.out, by simp⟩
  clear hl3 hl4 ht
  go_upto_region 12 with (go_at_call 18; refine (newSec_any V (st * 512) (sz * 512) (by have := HST.out; have := HS2.out; omega) (by have := HSZ.out; have := HZ2.out; omega) w4).mono ?_; rintro e w5 ⟨rfl, h5'⟩; have h5 : Hid _ := h5'; clear h5')
  obtain ⟨b5, d5, s5, r5, z5⟩ := HW.out w5 h5.out
  clear h5
  have RD : Hid _ := readFull_sec w4.heap.size D V 1 (fun i => z (o + i)) w5 (d5.read (by omega) s5 HLO.out HL2.out r5 (cells512_length z) NVD.out NVB.out NBD.out HN.out)
  have B5 : Hid _ := b5
  have D5 : Hid _ := d5
  have S5 : Hid _ := s5
  have Z5 : Hid _ := z5
  clear b5 d5 s5 r5 z5
  go_upto_region 15 with (go_at_call 15; refine Calls.mono RD.out ?_; rintro e w6 ⟨rfl, hr6⟩)
  have DD6 : Hid (D < w6.heap.size) := by show D < w6.heap.size; have := hr6.size; have := DL4.out; have := Z5.out; omega
  have B6 : Hid (Below B w w6) := B5.out.trans (hr6.below B HBV.out (by have := HDE.out; have := HBW.out; omega))
  have D6 : Hid (DevAt V b n 2 z w6) := D5.out.red hr6 HN0.out NVB.out NBD.out
  have SV : Hid (¬ w4.heap.size = V ∧ ¬ w4.heap.size = D) := by
    have h1 := DL4.out
    have h2 := (D4.out.lt HN0.out).1
    show _ ∧ _
    omega
  have S6 : Hid (SecAt w4.heap.size V o l w6) := sec_later S5.out (fun k hk => hr6.rest k (by rw [hk]; exact Z5.out) (by rw [hk]; exact SV.out.1) (by rw [hk]; exact SV.out.2))
  have F6 : F.answers w6.tape := by rw [B6.out.tape, ← LL1.out.tape]; exact TP.out
  have VG : Hid _ := volume_good F 81 ⟨w4.heap.size, 0, none⟩ D (fun i => z (o + i)) s p r f zz sec flags root FT.out GD.out.s1 BT.out GD.out w6 F6 DD6.out (fun i hi => row_cell hr6.row i hi) (fun i hi => FIT.out (o + i) (by have := HN.out; omega))
  have SL6 : Hid (w4.heap.size < w6.heap.size) := Nat.lt_of_lt_of_le Z5.out hr6.size
  clear hr6 F6
  go_wp2_with (go_at_call 16; refine Calls.mono VG.out ?_; rintro e w7 ⟨G, rfl, hG, hfs, hl7⟩)
  rw [HP.out]
  exact ⟨G, w4.heap.size, rfl, hfs, sec_later S6.out (fun k hk => hl7.block _ (by rw [hk]; exact SL6.out)), D6.out.beyond HN0.out hl7, B6.out.trans (hl7.mono (by have := SL6.out; have := BZ4.out; omega))⟩
end Go.Proofs.YbulkbzbaFmt
