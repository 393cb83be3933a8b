/-
  OWN WORK. PLAIN LAWS ON WORLDS (no Go text): what the heap holds while the law's workers, channels and slices are built, and while a worker is taken off the idle list, woken and heard.
-/
import Derived.Below
import Derived.Laws.NewBlocks
import Derived.Laws.MakeOwn
import Derived.Conc.LoneCalls
import Derived.Laws.CopyRow
namespace Go.Proofs.Ybulkbyzk
open Go.RowKit

/-- The pointer to worker k (the slice ws at block B; each worker behind its channel). -/
def wp (B k : Nat) : Value := .pointer (some ⟨B + 1 + 2 * k + 1, 0, none⟩)

/-- A fresh channel of capacity one. -/
def fresh : Obj := .chan 1 #[] false 0 0 false

/-- k of n workers are made. -/
structure BuiltTo (B n k : Nat) (w : World) : Prop where
  size : w.heap.size = B + 1 + 2 * k
  row : ∃ cur : Array Value, w.heap[B]? = some (.cells cur 71 (0, 0)) ∧ cur.size = n ∧ ∀ j, j < k → cur[j]? = some (wp B j)
  chans : ∀ j, j < k → w.heap[B + 1 + 2 * j]? = some fresh
  works : ∀ j, j < k → w.cell? ⟨B + 1 + 2 * j + 1, 31, none⟩ = some (.chan (some (B + 1 + 2 * j)))

theorem BuiltTo.start (w : World) (n : Nat) : BuiltTo w.heap.size n 0 (w.alloc (.cells (madeCells #[.pointer none] n) 71)) where
  size := by simp
  row := ⟨madeCells #[.pointer none] n, by rw [heap_alloc_new], by simp [size_madeCells], fun j hj => by omega⟩
  chans := fun j hj => by omega
  works := fun j hj => by omega

theorem cell_heap {w : World} {b o : Nat} {c : Array Value} {t : TypeId} {f : Nat × Nat} (h : w.heap[b]? = some (.cells c t f)) : w.cell? ⟨b, o, none⟩ = c[o]? := by
  simp [World.cell?, h]
theorem frozen_heap {w : World} {b o : Nat} {c : Array Value} {t : TypeId} (h : w.heap[b]? = some (.cells c t (0, 0))) : w.frozen? ⟨b, o, none⟩ = false := by
  simp [World.frozen?, h]

theorem heap_alloc2 (w : World) (o1 o2 : Obj) (k : Nat) (h : k < w.heap.size) : ((w.alloc o1).alloc o2).heap[k]? = w.heap[k]? := by
  rw [Below.heap_alloc _ _ _ (by simp; omega), Below.heap_alloc _ _ _ h]

theorem BuiltTo.cell {B n k : Nat} {w : World} (h : BuiltTo B n k w) (hk : k < n) : ∃ u, ∀ o1 o2, ((w.alloc o1).alloc o2).cell? ⟨B, k, none⟩ = some u := by
  obtain ⟨cur, hr, hs, _⟩ := h.row
  have hz := h.size
  refine ⟨cur[k]'(by omega), fun o1 o2 => ?_⟩
  rw [cell_heap ((heap_alloc2 w o1 o2 B (by omega)).trans hr)]
  simp [hs, hk]
theorem BuiltTo.fz {B n k : Nat} {w : World} (h : BuiltTo B n k w) (j : Nat) : ∀ o1 o2, ((w.alloc o1).alloc o2).frozen? ⟨B, j, none⟩ = false := by
  obtain ⟨cur, hr, hs, _⟩ := h.row
  have hz := h.size
  intro o1 o2
  exact frozen_heap ((heap_alloc2 w o1 o2 B (by omega)).trans hr)

theorem BuiltTo.step {B n k : Nat} {w : World} (h : BuiltTo B n k w) (hk : k < n) (wk : Array Value) (hwk : wk[31]? = some (.chan (some (B + 1 + 2 * k)))) :
    BuiltTo B n (k + 1) (((w.alloc fresh).alloc (.cells wk 87)).setCell ⟨B, k, none⟩ (.pointer (some ⟨B + 1 + 2 * k + 1, 0, none⟩))) := by
  have hz := h.size
  obtain ⟨cur, hr, hs, hc⟩ := h.row
  have hr2 := (heap_alloc2 w fresh (.cells wk 87) B (by omega)).trans hr
  refine ⟨by simp [World.setCell]; omega, ⟨cur.setIfInBounds k (wp B k), ?_, by simp [hs], fun j hj => ?_⟩, fun j hj => ?_, fun j hj => ?_⟩
  · simp only [World.setCell, Array.getElem?_modify, if_true, hr2]
    simp [wp]
  · by_cases e : j = k
    · subst e; simp [hs, hk]
    · rw [Array.getElem?_setIfInBounds_ne (by omega)]; exact hc j (by omega)
  · rw [Below.heap_setCell _ _ _ _ (by simp; omega)]
    by_cases e : j = k
    · subst e
      rw [Below.heap_alloc _ _ _ (by simp; omega), ← hz, heap_alloc_new]
    · rw [heap_alloc2 _ _ _ _ (by omega)]; exact h.chans j (by omega)
  · by_cases e : j = k
    · subst e
      have : ((w.alloc fresh).alloc (.cells wk 87)).heap[B + 1 + 2 * j + 1]? = some (.cells wk 87 (0, 0)) := by
        have := heap_alloc_new (w.alloc fresh) (.cells wk 87)
        simpa [hz] using this
      rw [cell_heap ((Below.heap_setCell _ _ _ _ (by simp; omega)).trans this)]
      exact hwk
    · rw [← h.works j (by omega)]
      exact World.cell?_of_block (by rw [Below.heap_setCell _ _ _ _ (by simp; omega)]; exact heap_alloc2 _ _ _ _ (by simp; omega))

/-- ALL IS MADE: the workers, and the second slice (block J) that lists them too. -/
structure Built (B J n : Nat) (w : World) : Prop where
  hJ : J = B + 1 + 2 * n
  size : w.heap.size = J + 1
  ws : ∀ j, j < n → w.cell? ⟨B, j, none⟩ = some (wp B j)
  chans : ∀ j, j < n → w.heap[B + 1 + 2 * j]? = some fresh
  works : ∀ j, j < n → w.cell? ⟨B + 1 + 2 * j + 1, 31, none⟩ = some (.chan (some (B + 1 + 2 * j)))
  idle : ∀ j, j < n → w.cell? ⟨J, j, none⟩ = some (wp B j)
  idlef : ∀ j, w.frozen? ⟨J, j, none⟩ = false

/-- The pointers, as a list of cells. -/
def wps (B n : Nat) : List Value := (List.range n).map (wp B)
theorem length_wps (B n : Nat) : (wps B n).length = n := by simp [wps]
theorem wps_at (B n j : Nat) (h : j < n) : (wps B n)[j]? = some (wp B j) := by simp [wps, h]
theorem wps_get {B n j : Nat} {v : Value} (h : (wps B n)[j]? = some v) : j < n ∧ v = wp B j := by
  have hl : j < n := by
    rcases Nat.lt_or_ge j n with h' | h'
    · exact h'
    · rw [List.getElem?_eq_none (by simpa [length_wps] using h')] at h; cases h
  rw [wps_at B n j hl] at h
  exact ⟨hl, by simpa using h.symm⟩
theorem wps_one (B n : Nat) : ∀ v ∈ wps B n, v.oneCell' = true := by
  intro v hv
  simp only [wps, List.mem_map] at hv
  obtain ⟨j, _, rfl⟩ := hv
  rfl

theorem BuiltTo.src {B n : Nat} {w : World} (h : BuiltTo B n n w) (o : Obj) : ∀ j v, (wps B n)[j]? = some v → (w.alloc o).cell? ((⟨B, 0, none⟩ : Addr).add j) = some v := by
  intro j v hv
  obtain ⟨hj, rfl⟩ := wps_get hv
  obtain ⟨cur, hr, hs, hc⟩ := h.row
  have hz := h.size
  have ha : (⟨B, 0, none⟩ : Addr).add j = ⟨B, j, none⟩ := by unfold Addr.add; split <;> simp_all
  rw [ha, cell_heap ((Below.heap_alloc w o B (by omega)).trans hr)]
  exact hc j hj

theorem BuiltTo.built {B n : Nat} {w : World} (h : BuiltTo B n n w) (z : Array Value) (hz : z.size = n) :
    Built B w.heap.size n ((w.alloc (.cells z 71)).setRow w.heap.size (z.toList.take 0 ++ (wps B n ++ z.toList.drop (0 + (wps B n).length))).toArray) := by
  have hs := h.size
  obtain ⟨cur, hr, hcs, hc⟩ := h.row
  have hne : ∀ k, k < w.heap.size → ((w.alloc (.cells z 71)).setRow w.heap.size (z.toList.take 0 ++ (wps B n ++ z.toList.drop (0 + (wps B n).length))).toArray).heap[k]? = w.heap[k]? := by
    intro k hk
    rw [setRow_other _ _ _ _ (by omega), Below.heap_alloc _ _ _ hk]
  have hJ := setRow_heap (w.alloc (.cells z 71)) w.heap.size z (z.toList.take 0 ++ (wps B n ++ z.toList.drop (0 + (wps B n).length))).toArray 71 (0, 0) (heap_alloc_new w (.cells z 71))
  refine ⟨hs, by simp [World.setRow], fun j hj => ?_, fun j hj => ?_, fun j hj => ?_, fun j hj => ?_, fun j => frozen_heap hJ⟩
  · rw [cell_heap ((hne B (by omega)).trans hr)]; exact hc j hj
  · rw [hne _ (by omega)]; exact h.chans j hj
  · rw [← h.works j hj]; exact World.cell?_of_block (hne _ (by simp; omega))
  · rw [cell_heap hJ]
    simp [hj, wps, List.getElem?_append_left]

theorem heap_setChan_other (w : World) (c k cap : Nat) (buf : Array Value) (cl : Bool) (s r : Nat) (tm : Bool) (h : ¬ k = c) : (w.setChan c cap buf cl s r tm).heap[k]? = w.heap[k]? := by
  simp only [World.setChan]
  rw [Array.getElem?_setIfInBounds_ne (fun e => h e.symm)]
theorem cell_setChan (w : World) (c cap : Nat) (buf : Array Value) (cl : Bool) (s r : Nat) (tm : Bool) (a : Addr) (h : ¬ a.block = c) : (w.setChan c cap buf cl s r tm).cell? a = w.cell? a :=
  World.cell?_of_block (heap_setChan_other w c a.block cap buf cl s r tm h)
theorem frozen_setChan (w : World) (c cap : Nat) (buf : Array Value) (cl : Bool) (s r : Nat) (tm : Bool) (a : Addr) (h : ¬ a.block = c) : (w.setChan c cap buf cl s r tm).frozen? a = w.frozen? a :=
  World.frozen?_of_block (heap_setChan_other w c a.block cap buf cl s r tm h)
end Go.Proofs.Ybulkbyzk
