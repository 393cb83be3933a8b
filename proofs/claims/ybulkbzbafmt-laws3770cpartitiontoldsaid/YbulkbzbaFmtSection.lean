/-
  OWN WORK. THE WALKS of io.NewSectionReader, SectionReader.Size, SectionReader.ReadAt, and of readFull over a section.
-/
import Derived.Test.YbulkbzbaFmtRead
namespace Go.Proofs.YbulkbzbaFmt
open Go.RowKit

attribute [local go_sem] meth59 meth81

/-- What a read of the device leaves, whatever lies between. -/
structure Red (V D : Nat) (calls : Int) (z : Nat → Int) (w w' : World) : Prop where
  row : w'.heap[D]? = some (.cells (cells512 z).toArray 5 (0, 0))
  cnt : w'.cell? ⟨V, 1, none⟩ = some (.int .i64 (calls + 1))
  dev : w'.cell? ⟨V, 0, none⟩ = w.cell? ⟨V, 0, none⟩
  fz : w'.frozen? ⟨V, 1, none⟩ = w.frozen? ⟨V, 1, none⟩
  rest : ∀ k, k < w.heap.size → ¬ k = V → ¬ k = D → w'.heap[k]? = w.heap[k]?
  size : w.heap.size ≤ w'.heap.size
  below : ∀ B, B ≤ V → B ≤ D → Below B w w'
theorem red_of {V D : Nat} {calls : Int} {z : Nat → Int} {w w0 w' : World} {cur : Array Value} (hb : Below w.heap.size w w0) (he : w' = readWorld V D calls z w0) (nVD : ¬ V = D) (hV1 : w.cell? ⟨V, 1, none⟩ = some (.int .i64 calls)) (hD : w.heap[D]? = some (.cells cur 5 (0, 0))) : Red V D calls z w w' := by
  subst he
  have hV : V < w.heap.size := World.block_lt_of_cell? _ _ hV1
  have hDl : D < w.heap.size := (Array.getElem?_eq_some_iff.1 hD).1
  refine ⟨readWorld_row nVD ((hb.block _ hDl).trans hD), ?_, ?_, ?_, fun k hk h1 h2 => (readWorld_block k h1 h2).trans (hb.block _ hk), by rw [readWorld_size]; exact hb.size, fun B h1 h2 => readWorld_below (hb.mono (by omega)) h1 h2⟩
  · rw [readWorld_cells nVD]
    exact World.cell?_setCell_same _ _ _ ((hb.cell (p := ⟨V, 1, none⟩) hV).trans hV1)
  · rw [readWorld_cells nVD, World.cell?_setCell_other _ _ _ _ (by simp)]
    exact hb.cell (p := ⟨V, 0, none⟩) hV
  · have : (readWorld V D calls z w0).frozen? ⟨V, 1, none⟩ = (w0.setCell ⟨V, 1, none⟩ (.int .i64 (calls + 1))).frozen? ⟨V, 1, none⟩ := World.frozen?_of_block (setRow_other _ _ _ _ nVD)
    rw [this, World.frozen?_setCell]
    exact World.frozen?_of_block (hb.block _ hV)

theorem newSec_any (V : Nat) (o n : Int) (ho : 0 ≤ o ∧ o ≤ 2199023255040) (hn : 0 ≤ n ∧ n ≤ 2199023255040) (w : World) :
    Calls Ybaf.prog 18 #[.iface 59 (.pointer (some ⟨V, 0, none⟩)), .int .i64 o, .int .i64 n] w fun e w' => e = .returned (.pointer (some ⟨w.heap.size, 0, none⟩)) ∧ w' = w.alloc (.cells #[.iface 59 (.pointer (some ⟨V, 0, none⟩)), .int .i64 o, .int .i64 o, .int .i64 (n + o), .int .i64 n] 90) := by
  have h : o ≤ 9223372036854775807 - n := by omega
  go_enter Ybaf.func18, Ybaf.ntmps18
  go_wp2
  go_ret
  exact ⟨rfl, rfl⟩

/-- A section of the device V, at S: it begins at o and ends at l. -/
def SecAt (S V o l : Nat) (w : World) : Prop :=
  w.cell? ⟨S, 0, none⟩ = some (.iface 59 (.pointer (some ⟨V, 0, none⟩))) ∧ w.cell? ⟨S, 1, none⟩ = some (.int .i64 (o : Int)) ∧ w.cell? ⟨S, 3, none⟩ = some (.int .i64 (l : Int))

theorem size_any (S V o l : Nat) (w : World) (h : SecAt S V o l w) (hl : o ≤ l) (hl2 : l ≤ 4398046510080) :
    Calls Ybaf.prog 185 #[.pointer (some ⟨S, 0, none⟩)] w fun e w' => e = .returned (.int .i64 ((l : Int) - (o : Int))) ∧ Below w.heap.size w w' := by
  obtain ⟨h0, h1, h3⟩ := h
  go_enter Ybaf.func185, Ybaf.ntmps185
  go_wp2
  go_quiet (fail)
  go_wp2
  go_ret
  exact ⟨rfl, below_drewN (Below.refl _ _) nq⟩

set_option maxRecDepth 20000 in
set_option maxHeartbeats 1600000 in
theorem secRead_any (S V b n D off l : Nat) (z : Nat → Int) (calls : Int) (cur : List Value) (w : World) (hc : 0 ≤ calls ∧ calls ≤ 1000) (hS : SecAt S V off l w) (hl : off + 512 ≤ l) (hl2 : l ≤ 4398046510080)
    (hV0 : w.cell? ⟨V, 0, none⟩ = some (.slice (some ⟨b, 0, none⟩) n n)) (hV1 : w.cell? ⟨V, 1, none⟩ = some (.int .i64 calls)) (hVf : w.frozen? ⟨V, 1, none⟩ = false)
    (hz : ∀ i, i < n → w.cell? ⟨b, i, none⟩ = some (.int .u8 (z i))) (hD : w.heap[D]? = some (.cells cur.toArray 5 (0, 0))) (hlen : cur.length = 512) (nVD : ¬ V = D) (nVb : ¬ V = b) (nbD : ¬ b = D) (ho : off + 512 ≤ n) :
    Calls Ybaf.prog 184 #[.pointer (some ⟨S, 0, none⟩), .slice (some ⟨D, 0, none⟩) 512 512, .int .i64 0] w fun e w' => e = .returned (.tuple #[.int .i64 512, .nilIface]) ∧ Red V D calls (fun i => z (off + i)) w w' := by
  have SZ : Hid _ := size_any S V off l w hS (by omega) hl2
  obtain ⟨h0, h1, h3⟩ := hS
  have hSl : S < w.heap.size := World.block_lt_of_cell? _ _ h0
  have hVl : V < w.heap.size := World.block_lt_of_cell? _ _ hV0
  have hbl : b < w.heap.size := World.block_lt_of_cell? _ _ (hz 0 (by omega))
  have hDl : D < w.heap.size := (Array.getElem?_eq_some_iff.1 hD).1
  have RA : Hid (∀ w1, Below w.heap.size w w1 → Calls Ybaf.prog 183 #[.pointer (some ⟨V, 0, none⟩), .slice (some ⟨D, 0, none⟩) 512 512, .int .i64 off] w1 fun e w' => e = .returned (.tuple #[.int .i64 512, .nilIface]) ∧ Red V D calls (fun i => z (off + i)) w w') := fun w1 hb1 =>
    (readAt_any V b n D off z calls cur w1 hc ((hb1.cell (p := ⟨V, 0, none⟩) hVl).trans hV0) ((hb1.cell (p := ⟨V, 1, none⟩) hVl).trans hV1) ((World.frozen?_of_block (hb1.block _ hVl)).trans hVf) (fun i hi => (hb1.cell (p := ⟨b, i, none⟩) hbl).trans (hz i hi)) ((hb1.block _ hDl).trans hD) hlen nVD nVb nbD ho).mono fun e w' ⟨he, hw⟩ => ⟨he, red_of hb1 hw nVD hV1 hD⟩
  have H0 : Hid _ := h0
  have H1 : Hid _ := h1
  have H3 : Hid _ := h3
  have m1 : ¬ (l : Int) - off ≤ 0 := by omega
  have m2 : ¬ (l : Int) - off < 512 := by omega
  clear hV0 hV1 hVf hz hD hlen nVD nVb nbD ho hc h0 h1 h3
  go_enter Ybaf.func184, Ybaf.ntmps184
  go_wp2_with (first
    | (go_at_call 185; refine Calls.mono SZ.out ?_; rintro e w1 ⟨rfl, hl1⟩; have a0 := (hl1.cell (p := ⟨S, 0, none⟩) hSl).trans H0.out; have a1 := (hl1.cell (p := ⟨S, 1, none⟩) hSl).trans H1.out; have a3 := (hl1.cell (p := ⟨S, 3, none⟩) hSl).trans H3.out; have HL : Hid _ := hl1; clear hl1)
    | (go_at_call 183; refine Calls.mono (RA.out _ HL.out) ?_; rintro e w2 ⟨rfl, hw2⟩))
  go_ret2
  exact ⟨rfl, hw2⟩

set_option maxRecDepth 20000 in
set_option maxHeartbeats 1600000 in
theorem readFull_sec (S D V : Nat) (calls : Int) (z : Nat → Int) (w : World) (h : Calls Ybaf.prog 184 #[.pointer (some ⟨S, 0, none⟩), .slice (some ⟨D, 0, none⟩) 512 512, .int .i64 0] w fun e w' => e = .returned (.tuple #[.int .i64 512, .nilIface]) ∧ Red V D calls z w w') :
    Calls Ybaf.prog 15 #[.iface 81 (.pointer (some ⟨S, 0, none⟩)), .slice (some ⟨D, 0, none⟩) 512 512, .int .i64 0] w fun e w' => e = .returned .nilIface ∧ Red V D calls z w w' := by
  have H : Hid _ := h
  clear h
  go_enter Ybaf.func15, Ybaf.ntmps15
  go_wp2_with (go_at_call 184; refine Calls.mono H.out ?_; rintro e w1 ⟨rfl, hr⟩)
  go_ret
  exact ⟨rfl, hr⟩
end Go.Proofs.YbulkbzbaFmt
