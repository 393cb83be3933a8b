/-
  OWN WORK. THE WALKS of the laws' device's ReadAt, and of readFull over it.
-/
import Derived.Test.YbulkbzbaFmtBin
import Derived.Laws.CopyOwn
namespace Go.Proofs.YbulkbzbaFmt
open Go.RowKit

/-- 512 bytes, as a row's cells. -/
def cells512 (z : Nat → Int) : List Value := (List.range 512).map fun i => Value.int .u8 (z i)
theorem cells512_length (z : Nat → Int) : (cells512 z).length = 512 := by simp [cells512]
theorem cells512_get (z : Nat → Int) (j : Nat) (v : Value) (h : (cells512 z)[j]? = some v) : j < 512 ∧ v = .int .u8 (z j) := by
  have hj : j < 512 := by have := (List.getElem?_eq_some_iff.1 h).1; rwa [cells512_length] at this
  simp only [cells512, List.getElem?_map, List.getElem?_range hj, Option.map_some, Option.some.injEq] at h
  exact ⟨hj, h.symm⟩
/-- The world behind a read: the device has counted, the row holds the bytes. -/
def readWorld (V D : Nat) (calls : Int) (z : Nat → Int) (w : World) : World := (w.setCell ⟨V, 1, none⟩ (.int .i64 (calls + 1))).setRow D (cells512 z).toArray

set_option maxRecDepth 20000 in
set_option maxHeartbeats 1600000 in
theorem readAt_any (V b n D off : Nat) (z : Nat → Int) (calls : Int) (cur : List Value) (w : World) (hc : 0 ≤ calls ∧ calls ≤ 1000)
    (hV0 : w.cell? ⟨V, 0, none⟩ = some (.slice (some ⟨b, 0, none⟩) n n)) (hV1 : w.cell? ⟨V, 1, none⟩ = some (.int .i64 calls)) (hVf : w.frozen? ⟨V, 1, none⟩ = false)
    (hz : ∀ i, i < n → w.cell? ⟨b, i, none⟩ = some (.int .u8 (z i))) (hD : w.heap[D]? = some (.cells cur.toArray 5 (0, 0))) (hl : cur.length = 512) (nVD : ¬ V = D) (nVb : ¬ V = b) (nbD : ¬ b = D) (ho : off + 512 ≤ n) :
    Calls Ybaf.prog 183 #[.pointer (some ⟨V, 0, none⟩), .slice (some ⟨D, 0, none⟩) 512 512, .int .i64 off] w fun e w' => e = .returned (.tuple #[.int .i64 512, .nilIface]) ∧ w' = readWorld V D calls (fun i => z (off + i)) w := by
  have k0 : ∀ v, (w.setCell ⟨V, 1, none⟩ v).cell? ⟨V, 0, none⟩ = some (.slice (some ⟨b, 0, none⟩) n n) := fun v => (World.cell?_setCell_other _ _ _ _ (by simp)).trans hV0
  have kD : ∀ v, (w.setCell ⟨V, 1, none⟩ v).heap[D]? = some (.cells cur.toArray 5 (0, 0)) := fun v => by
    rw [show (w.setCell ⟨V, 1, none⟩ v).heap[D]? = w.heap[D]? by simp [World.setCell, Array.getElem?_modify, nVD]]; exact hD
  have kz : ∀ v j u, (cells512 fun i => z (off + i))[j]? = some u → (w.setCell ⟨V, 1, none⟩ v).cell? ((⟨b, off, none⟩ : Addr).add j) = some u := fun v j u hu => by
    obtain ⟨hj, rfl⟩ := cells512_get _ _ _ hu
    rw [Addr.add_lit, World.cell?_setCell_other _ _ _ _ (by simp)]
    exact hz _ (by omega)
  have hrun : (Builtin.copy_ #[25, 25] 3 #[.slice (some ⟨D, 0, none⟩) 512 512, .slice (some ⟨b, off, none⟩) (n - off) (n - off)]).run Ybaf.prog (w.setCell ⟨V, 1, none⟩ (.int .i64 (calls + 1))) = .ok (.int .i64 512) (readWorld V D calls (fun i => z (off + i)) w) := by
    have h := run_copy_row (P := Ybaf.prog) (w.setCell ⟨V, 1, none⟩ (.int .i64 (calls + 1))) 25 25 3 5 D 0 512 512 ⟨b, off, none⟩ (n - off) (n - off) cur.toArray 5 (cells512 fun i => z (off + i)) Ybaf.underlying25 (by kernel_rfl) (kD _) (by rw [cells512_length]; simp only [Nat.min_def]; split <;> omega) (kz _) (by rw [cells512_length]; simp [hl]) (by intro v hv; simp only [cells512, List.mem_map] at hv; obtain ⟨q, _, rfl⟩ := hv; rfl)
    rw [h, cells512_length]
    unfold readWorld
    have e : (cur.toArray.toList.take 0 ++ cells512 (fun i => z (off + i)) ++ cur.toArray.toList.drop (0 + 512)) = cells512 (fun i => z (off + i)) := by
      rw [List.drop_eq_nil_of_le (by simp [hl])]; simp
    rw [e]
    rfl
  have o1 : ¬ (off : Int) < 0 := by omega
  have o2 : ¬ (n : Int) ≤ off := by omega
  have o3 : (off : Int) ≤ n := by omega
  have o4 : ¬ n = off := by omega
  clear kD kz hz hD
  go_enter Ybaf.func183, Ybaf.ntmps183
  go_wp2
  go_ret2
  exact ⟨rfl, rfl⟩

theorem meth59 (x : Value) (w : World) : (method 444 59 x "ReadAt").run Ybaf.prog w = .ok (183, x) w := by kernel_rfl
theorem meth81 (x : Value) (w : World) : (method 444 81 x "ReadAt").run Ybaf.prog w = .ok (184, x) w := by kernel_rfl
attribute [local go_sem] meth59 meth81

set_option maxRecDepth 20000 in
set_option maxHeartbeats 1600000 in
theorem readFull_dev (V b n D off : Nat) (z : Nat → Int) (calls : Int) (cur : List Value) (w : World) (hc : 0 ≤ calls ∧ calls ≤ 1000)
    (hV0 : w.cell? ⟨V, 0, none⟩ = some (.slice (some ⟨b, 0, none⟩) n n)) (hV1 : w.cell? ⟨V, 1, none⟩ = some (.int .i64 calls)) (hVf : w.frozen? ⟨V, 1, none⟩ = false)
    (hz : ∀ i, i < n → w.cell? ⟨b, i, none⟩ = some (.int .u8 (z i))) (hD : w.heap[D]? = some (.cells cur.toArray 5 (0, 0))) (hl : cur.length = 512) (nVD : ¬ V = D) (nVb : ¬ V = b) (nbD : ¬ b = D) (ho : off + 512 ≤ n) :
    Calls Ybaf.prog 15 #[.iface 59 (.pointer (some ⟨V, 0, none⟩)), .slice (some ⟨D, 0, none⟩) 512 512, .int .i64 off] w fun e w' => e = .returned .nilIface ∧ w' = readWorld V D calls (fun i => z (off + i)) w := by
  have H : Hid _ := readAt_any V b n D off z calls cur w hc hV0 hV1 hVf hz hD hl nVD nVb nbD ho
  clear hV0 hV1 hVf hz hD hl nVD nVb nbD ho hc
  go_enter Ybaf.func15, Ybaf.ntmps15
  go_wp2_with (go_at_call 183; refine Calls.mono H.out ?_; rintro e w1 ⟨rfl, rfl⟩)
  go_ret
  exact ⟨rfl, rfl⟩

/-! ### what a read leaves -/
theorem setRow_heap_ne (w : World) (D k : Nat) (cs : Array Value) (h : ¬ k = D) : (w.setRow D cs).heap[k]? = w.heap[k]? := setRow_other w D k cs h
theorem readWorld_block {V D : Nat} {calls : Int} {z : Nat → Int} {w : World} (k : Nat) (h1 : ¬ k = V) (h2 : ¬ k = D) : (readWorld V D calls z w).heap[k]? = w.heap[k]? := by
  unfold readWorld
  rw [setRow_other _ _ _ _ h2]
  simp [World.setCell, Array.getElem?_modify]
  intro h; exact absurd h.symm h1
theorem readWorld_row {V D : Nat} {calls : Int} {z : Nat → Int} {w : World} {cur : Array Value} (nVD : ¬ V = D) (hD : w.heap[D]? = some (.cells cur 5 (0, 0))) : (readWorld V D calls z w).heap[D]? = some (.cells (cells512 z).toArray 5 (0, 0)) := by
  unfold readWorld
  exact setRow_heap _ D cur _ 5 (0, 0) (by rw [show (w.setCell ⟨V, 1, none⟩ (.int .i64 (calls + 1))).heap[D]? = w.heap[D]? by simp [World.setCell, Array.getElem?_modify, nVD]]; exact hD)
theorem readWorld_size {V D : Nat} {calls : Int} {z : Nat → Int} {w : World} : (readWorld V D calls z w).heap.size = w.heap.size := by simp [readWorld, World.setRow, World.setCell]
theorem readWorld_cells {V D : Nat} {calls : Int} {z : Nat → Int} {w : World} (nVD : ¬ V = D) (o : Nat) : (readWorld V D calls z w).cell? ⟨V, o, none⟩ = (w.setCell ⟨V, 1, none⟩ (.int .i64 (calls + 1))).cell? ⟨V, o, none⟩ := by
  unfold readWorld
  exact World.cell?_of_block (setRow_other _ _ _ _ nVD)
theorem readWorld_below {B V D : Nat} {calls : Int} {z : Nat → Int} {w0 w : World} (h : Below B w0 w) (h1 : B ≤ V) (h2 : B ≤ D) : Below B w0 (readWorld V D calls z w) :=
  below_setRow (h.setCell (by exact h1) _) h2 _
/-- A row of bytes, cell by cell. -/
theorem row_cell {D : Nat} {z : Nat → Int} {w : World} (h : w.heap[D]? = some (.cells (cells512 z).toArray 5 (0, 0))) (i : Nat) (hi : i < 512) : w.cell? ⟨D, i, none⟩ = some (.int .u8 (z i)) := by
  simp only [World.cell?, h]
  simp [cells512, hi]
end Go.Proofs.YbulkbzbaFmt
