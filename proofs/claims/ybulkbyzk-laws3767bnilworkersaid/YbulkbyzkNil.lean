/-
  OWN WORK. THE WALK of LawS3767BNilWorker.
-/
import Derived.Test.YbulkbyzkNewPid
namespace Go.Proofs.Ybulkbyzk
open Go.RowKit

set_option maxRecDepth 100000 in
theorem tz_ex : ∃ tz : Array Value, (∀ w, (Instr.build 63 #[]).run Yba.prog w = .ok (.agg tz) w) ∧
    (∀ w, (Instr.box 63 (.agg tz)).run Yba.prog w = .ok (.pointer (some ⟨w.heap.size, 0, none⟩)) (w.alloc (.cells tz 63))) ∧
    tz[0]? = some (.pointer none) ∧ tz[130]? = some (.int .i32 0) ∧ tz[132]? = some (.slice none 0 0) ∧ tz[133]? = some (.int .u32 0) :=
  ⟨(match (zeroValue 63).run Yba.prog default with | .ok v _ => v.cells | _ => #[]), fun w => by kernel_rfl, fun w => by kernel_rfl, by kernel_rfl, by kernel_rfl, by kernel_rfl, by kernel_rfl⟩

theorem wpList_build0 {P : Program} {w : World} {ops : Array Oper} {rest : List Oper} {o : Oper} {a : Act} {Q : Exit → Act → World → Prop} (hg : o.guard = none) (t : Nat) (hop : o.op = .build t #[]) (v : Value)
    (hrun : (Instr.build t #[]).run P w = .ok v w) (hK : wpList P ops Q rest (a.put o.dst v) w) : wpList P ops Q (o :: rest) a w :=
  wpList_run hg (by simp [execOp, hop, hrun]) hK

/-- The table as it was made: block T. -/
structure Tab (T : Nat) (free : Value) (slots : Int) (w : World) : Prop where
  lt : T < w.heap.size
  chunks : w.cell? ⟨T, 0, none⟩ = some (.pointer none)
  mu : w.cell? ⟨T, 130, none⟩ = some (.int .i32 0)
  free : w.cell? ⟨T, 132, none⟩ = some free
  slots : w.cell? ⟨T, 133, none⟩ = some (.int .u32 slots)
  fz : ∀ j, w.frozen? ⟨T, j, none⟩ = false

theorem Tab.start (w : World) (tz : Array Value) (h0 : tz[0]? = some (.pointer none)) (h1 : tz[130]? = some (.int .i32 0)) (h2 : tz[132]? = some (.slice none 0 0)) (h3 : tz[133]? = some (.int .u32 0)) :
    Tab w.heap.size (.slice none 0 0) 0 (w.alloc (.cells tz 63)) := by
  have h := heap_alloc_new w (.cells tz 63)
  have hc : ∀ j, (w.alloc (.cells tz 63)).cell? ⟨w.heap.size, j, none⟩ = tz[j]? := fun j => by simp only [World.cell?, h]; simp
  exact ⟨by simp, by rw [hc]; exact h0, by rw [hc]; exact h1, by rw [hc]; exact h2, by rw [hc]; exact h3, fun j => by simp only [World.frozen?, h]; simp⟩
theorem Tab.below {T : Nat} {free : Value} {slots : Int} {B : Nat} {w w' : World} (h : Tab T free slots w) (hB : T < B) (hb : Below B w w') : Tab T free slots w' :=
  ⟨Nat.lt_of_lt_of_le h.lt hb.size, (hb.cell (p := ⟨T, 0, none⟩) (by exact hB)).trans h.chunks, (hb.cell (p := ⟨T, 130, none⟩) (by exact hB)).trans h.mu, (hb.cell (p := ⟨T, 132, none⟩) (by exact hB)).trans h.free,
    (hb.cell (p := ⟨T, 133, none⟩) (by exact hB)).trans h.slots, fun j => (hb.frozen (p := ⟨T, j, none⟩) (by exact hB)).trans (h.fz j)⟩
theorem Tab.setFree {T : Nat} {free : Value} {slots : Int} {w : World} (h : Tab T free slots w) (v : Value) : Tab T v slots (w.setCell ⟨T, 132, none⟩ v) :=
  ⟨by simpa [World.setCell] using h.lt, (World.cell?_setCell_other _ _ _ _ (by simp)).trans h.chunks, (World.cell?_setCell_other _ _ _ _ (by simp)).trans h.mu, World.cell?_setCell_same _ _ _ h.free,
    (World.cell?_setCell_other _ _ _ _ (by simp)).trans h.slots, fun j => by rw [World.frozen?_setCell]; exact h.fz j⟩
theorem Tab.setSlots {T : Nat} {free : Value} {slots : Int} {w : World} (h : Tab T free slots w) (v : Int) : Tab T free v (w.setCell ⟨T, 133, none⟩ (.int .u32 v)) :=
  ⟨by simpa [World.setCell] using h.lt, (World.cell?_setCell_other _ _ _ _ (by simp)).trans h.chunks, (World.cell?_setCell_other _ _ _ _ (by simp)).trans h.mu, (World.cell?_setCell_other _ _ _ _ (by simp)).trans h.free,
    World.cell?_setCell_same _ _ _ h.slots, fun j => by rw [World.frozen?_setCell]; exact h.fz j⟩

theorem nil_long (x : Option Addr) (len cap : Nat) (s : Int) (hl : 1024 < len) (w : World) :
    Calls Yba.prog 5 #[.slice x len cap, .int .u16 s] w fun e w' => e = .returned (.bool true) ∧ Below w.heap.size w w' := by
  have hl' : (1024 : Int) < len := by omega
  go_enter Yba.func5, Yba.ntmps5
  go_wp2
  go_ret
  exact ⟨rfl, Below.refl _ _⟩

set_option maxRecDepth 100000 in
set_option maxHeartbeats 800000 in
/-- No PID is free; v: what zzs3767bpids made of 'free' (an empty slice, nil or not). -/
theorem nil_none (x : Option Addr) (cap s : Nat) (hs : s ≤ 65535) (w : World)
    (hp : ∀ w : World, Calls Yba.prog 12 #[.slice x 0 cap] w fun e w' => (∃ a c, e = .returned (.slice a 0 c)) ∧ Below w.heap.size w w') :
    Calls Yba.prog 5 #[.slice x 0 cap, .int .u16 s] w fun e w' => e = .returned (.bool true) ∧ Below w.heap.size w w' := by
  obtain ⟨tz, hbd, hbx, c0, c1, c2, c3⟩ := tz_ex
  have HT : Hid _ := Tab.start w tz c0 c1 c2 c3
  have HP : Hid _ := hp
  clear hp c0 c1 c2 c3
  go_enter Yba.func5, Yba.ntmps5
  go_wp2_with (refine wpList_build0 rfl 63 rfl (.agg tz) (hbd _) ?_)
  refine (HP.out _).mono ?_
  rintro e w1 ⟨⟨a, c, rfl⟩, hb1⟩
  have ht1 : Tab w.heap.size (.slice none 0 0) 0 w1 := Tab.below HT.out (by simp) hb1
  have hbw : Below w.heap.size w w1 := ((Below.refl _ _).alloc (Nat.le_refl _) _).trans (hb1.mono (by simp))
  generalize hT : w.heap.size = T at *
  have g132 := ht1.free
  have g133 := ht1.slots
  have gf := ht1.fz
  have H1 : Hid _ := ht1
  clear ht1 hb1 HT HP hbd hbx
  go_wp2_with fail
  have ht2 : Tab T (.slice a 0 c) s ((w1.setCell ⟨T, 132, none⟩ (.slice a 0 c)).setCell ⟨T, 133, none⟩ (.int .u32 s)) := (Tab.setFree H1.out (.slice a 0 c)).setSlots s
  refine (newpid_grow T s a c _ ht2.lt hs ht2.chunks ht2.mu ht2.free ht2.slots ht2.fz).mono ?_
  rintro e w3 ⟨rfl, V, R, k0, kV, k133, k132, kb⟩
  have HV : Hid _ := kV
  have HE : Hid (Below T w w3) := ((hbw.setCell (by exact Nat.le_refl _) _).setCell (by exact Nat.le_refl _) _).trans kb
  clear ht2 kV kb g132 g133 gf H1 hbw
  go_wp2_with fail
  refine (chunks_ok T V R s _ hs k0 HV.out).mono ?_
  rintro e w4 ⟨rfl, rfl⟩
  go_wp2
  go_ret
  exact ⟨rfl, hT ▸ HE.out⟩

set_option maxRecDepth 100000 in
set_option maxHeartbeats 1600000 in
/-- At least one PID is free. -/
theorem nil_some (b o m cap s : Nat) (z : Nat → Int) (hm : m + 1 ≤ 1024) (hcap : m + 1 ≤ cap) (hs : s ≤ 65535) (w : World) (hb : b < w.heap.size) (hcell : ∀ i, i < m + 1 → w.cell? ⟨b, o + i, none⟩ = some (.int .u64 (z i))) :
    Calls Yba.prog 5 #[.slice (some ⟨b, o, none⟩) (m + 1) cap, .int .u16 s] w fun e w' => e = .returned (.bool true) ∧ Below w.heap.size w w' := by
  obtain ⟨tz, hbd, hbx, c0, c1, c2, c3⟩ := tz_ex
  have HT : Hid _ := Tab.start w tz c0 c1 c2 c3
  have HC : Hid (Came w (some ⟨b, o, none⟩) (m + 1) z) := .inr ⟨b, o, rfl, hb, hcell⟩
  clear c0 c1 c2 c3 hcell
  go_enter Yba.func5, Yba.ntmps5
  go_wp2_with (refine wpList_build0 rfl 63 rfl (.agg tz) (hbd _) ?_)
  refine (pids_some ⟨b, o, none⟩ (m + 1) cap z hm _ (Came.below HC.out (Nat.le_refl _) ((Below.refl _ _).alloc (Nat.le_refl _) _))).mono ?_
  rintro e w1 ⟨rfl, hz1, hr1, hb1⟩
  have ht1 : Tab w.heap.size (.slice none 0 0) 0 w1 := Tab.below HT.out (by simp) hb1
  have hbw : Below w.heap.size w w1 := ((Below.refl _ _).alloc (Nat.le_refl _) _).trans (hb1.mono (by simp))
  have hr1' : RowTo (w.heap.size + 1) (m + 1) (m + 1) z w1 := by simpa using hr1
  have HR : Hid (RowTo (w.heap.size + 1) (m + 1) (m + 1) z w1) := hr1'
  clear hr1'
  generalize hT : w.heap.size = T at *
  have g132 := ht1.free
  have g133 := ht1.slots
  have gf := ht1.fz
  have H1 : Hid _ := ht1
  clear ht1 hb1 HT hbd hbx hz1 hr1
  go_wp2_with fail
  have ht2 : Tab T (.slice (some ⟨T + 1, 0, none⟩) (m + 1) (m + 1)) s ((w1.setCell ⟨T, 132, none⟩ (.slice (some ⟨T + 1, 0, none⟩) (m + 1) (m + 1))).setCell ⟨T, 133, none⟩ (.int .u32 s)) := (Tab.setFree H1.out _).setSlots s
  have hr2 : RowTo (T + 1) (m + 1) (m + 1) z ((w1.setCell ⟨T, 132, none⟩ (.slice (some ⟨T + 1, 0, none⟩) (m + 1) (m + 1))).setCell ⟨T, 133, none⟩ (.int .u32 s)) :=
    RowTo.of_block HR.out (by rw [Below.heap_setCell _ _ _ _ (by simp), Below.heap_setCell _ _ _ _ (by simp)])
  refine (newpid_take T (T + 1) m (m + 1) (z m) _ (by omega) (by omega) (Nat.le_refl _) ht2.mu ht2.free (hr2.at m (by omega)) ht2.fz).mono ?_
  rintro e w3 ⟨rfl, hw3⟩
  have hb3 : Below T w w3 := by
    rw [hw3]
    exact ((((hbw.setCell (by exact Nat.le_refl _) _).setCell (by exact Nat.le_refl _) _).setCell (by exact Nat.le_refl _) _).setCell (by exact Nat.le_refl _) _).setCell (by exact Nat.le_refl _) _
  have k0 : w3.cell? ⟨T, 0, none⟩ = some (.pointer none) := by
    rw [hw3, World.cell?_setCell_other _ _ _ _ (by simp), World.cell?_setCell_other _ _ _ _ (by simp), World.cell?_setCell_other _ _ _ _ (by simp)]; exact ht2.chunks
  have k133 : w3.cell? ⟨T, 133, none⟩ = some (.int .u32 s) := by
    rw [hw3, World.cell?_setCell_other _ _ _ _ (by simp), World.cell?_setCell_other _ _ _ _ (by simp), World.cell?_setCell_other _ _ _ _ (by simp)]; exact ht2.slots
  have k132 : w3.cell? ⟨T, 132, none⟩ = some (.slice (some ⟨T + 1, 0, none⟩) m (m + 1)) := by
    rw [hw3, World.cell?_setCell_other _ _ _ _ (by simp)]
    exact World.cell?_setCell_same _ _ _ ((World.cell?_setCell_other _ _ _ _ (by simp)).trans ht2.free)
  have hr3 : RowTo (T + 1) (m + 1) (m + 1) z w3 := hr2.of_block (by rw [hw3, Below.heap_setCell _ _ _ _ (by simp), Below.heap_setCell _ _ _ _ (by simp), Below.heap_setCell _ _ _ _ (by simp)])
  have hc3 : Came w3 (some ⟨b, o, none⟩) (m + 1) z := Came.below HC.out (by omega) hb3
  have kc : w3.cell? ⟨b, o + m, none⟩ = some (.int .u64 (z m)) := by
    rcases hc3 with h | ⟨b', o', e, _, h⟩
    · omega
    · obtain ⟨rfl, rfl⟩ : b = b' ∧ o = o' := by simpa using e
      exact h m (by omega)
  have HB : ∀ q, Calls Yba.prog 14 #[.slice (some ⟨T + 1, 0, none⟩) m (m + 1), .slice (some ⟨b, o, none⟩) m cap] (w3.drewN q) fun e w' => e = .returned (.bool true) ∧ ∃ p, w' = (w3.drewN q).drewN p := fun q =>
    beq_true (T + 1) m (m + 1) cap _ _ z (by omega) _ (.inr ⟨rfl, fun i hi => by rw [World.cell?_drewN]; exact hr3.at i (by omega)⟩) ((hc3.less (by omega)).below (Nat.le_refl _) (below_drewN (Below.refl _ _) q))
  have HL : ∀ q, Calls Yba.prog 15 #[.pointer (some ⟨T, 0, none⟩)] (w3.drewN q) fun e w' => e = .returned (.pointer none) ∧ w' = w3.drewN q := fun q => loadP_nil ⟨T, 0, none⟩ _ (by rw [World.cell?_drewN]; exact k0)
  have HB' : Hid _ := HB
  have HL' : Hid _ := HL
  have HE : Hid _ := hb3
  clear ht2 hr2 hr3 hc3 HB HL hb3 hw3 HC H1 HR k0 g132 g133 gf hbw
  have hmm : (m : Int) < (m : Int) + 1 := by omega
  go_upto_region 9 with fail
  go_quiet ((first | (go_at_call 14; exact Calls.quiet_of (HB'.out _)) | (go_at_call 15; exact Calls.quiet_of_same (HL'.out _))))
  go_wp2
  go_ret
  exact ⟨rfl, hT ▸ below_drewN HE.out _⟩
end Go.Proofs.Ybulkbyzk
