/-
  OWN WORK. PLAIN LAWS ON WORLDS: what the law's memory holds: the slice ws (block B), the workers and their channels, the idle list (block J), the scheduler (block S).
-/
import Derived.Test.YbulkbyzkHeap
namespace Go.Proofs.Ybulkbyzk
open Go.RowKit

structure Inv (B J S n : Nat) (idl : Nat → Value) (spin nid mu : Int) (lst : Value) (ch : Nat → Obj) (w : World) : Prop where
  hJ : J = B + 1 + 2 * n
  hS : S = J + 1
  size : w.heap.size = S + 1
  ws : ∀ j, j < n → w.cell? ⟨B, j, none⟩ = some (wp B j)
  chans : ∀ j, j < n → w.heap[B + 1 + 2 * j]? = some (ch j)
  works : ∀ j, j < n → w.cell? ⟨B + 1 + 2 * j + 1, 31, none⟩ = some (.chan (some (B + 1 + 2 * j)))
  idle : ∀ j, j < n → w.cell? ⟨J, j, none⟩ = some (idl j)
  idlef : ∀ j, w.frozen? ⟨J, j, none⟩ = false
  spinc : w.cell? ⟨S, 141, none⟩ = some (.int .i32 spin)
  nidc : w.cell? ⟨S, 142, none⟩ = some (.int .i32 nid)
  muc : w.cell? ⟨S, 538, none⟩ = some (.int .i32 mu)
  lstc : w.cell? ⟨S, 541, none⟩ = some lst
  sf : ∀ j, w.frozen? ⟨S, j, none⟩ = false

theorem Inv.start {B J n : Nat} {w : World} (h : Built B J n w) (sc : Array Value) (lst : Value) (h1 : sc[141]? = some (.int .i32 0)) (h2 : sc[142]? = some (.int .i32 0)) (h3 : sc[538]? = some (.int .i32 0)) (h4 : sc[541]? = some lst) :
    Inv B J (J + 1) n (wp B) 0 0 0 lst (fun _ => fresh) (w.alloc (.cells sc 68)) := by
  have hz := h.size
  have hJ := h.hJ
  have hb : ∀ k, k ≤ J → (w.alloc (.cells sc 68)).heap[k]? = w.heap[k]? := fun k hk => Below.heap_alloc _ _ _ (by omega)
  have hs : (w.alloc (.cells sc 68)).heap[J + 1]? = some (.cells sc 68 (0, 0)) := by rw [← hz]; exact heap_alloc_new _ _
  refine ⟨hJ, rfl, by simp [hz], fun j hj => ?_, fun j hj => ?_, fun j hj => ?_, fun j hj => ?_, fun j => ?_, ?_, ?_, ?_, ?_, fun j => frozen_heap hs⟩
  · rw [← h.ws j hj]; exact World.cell?_of_block (hb _ (by simp; omega))
  · rw [hb _ (by omega)]; exact h.chans j hj
  · rw [← h.works j hj]; exact World.cell?_of_block (hb _ (by simp; omega))
  · rw [← h.idle j hj]; exact World.cell?_of_block (hb _ (by simp))
  · rw [← h.idlef j]; exact World.frozen?_of_block (hb _ (by simp))
  · rw [cell_heap hs]; exact h1
  · rw [cell_heap hs]; exact h2
  · rw [cell_heap hs]; exact h3
  · rw [cell_heap hs]; exact h4

theorem Inv.of_heap {B J S n : Nat} {idl : Nat → Value} {spin nid mu : Int} {lst : Value} {ch : Nat → Obj} {w w' : World} (h : Inv B J S n idl spin nid mu lst ch w) (e : w'.heap = w.heap) : Inv B J S n idl spin nid mu lst ch w' := by
  have hc : ∀ a, w'.cell? a = w.cell? a := fun a => World.cell?_of_block (by rw [e])
  have hf : ∀ a, w'.frozen? a = w.frozen? a := fun a => World.frozen?_of_block (by rw [e])
  exact ⟨h.hJ, h.hS, by rw [e]; exact h.size, fun j hj => by rw [hc]; exact h.ws j hj, fun j hj => by rw [e]; exact h.chans j hj, fun j hj => by rw [hc]; exact h.works j hj, fun j hj => by rw [hc]; exact h.idle j hj, fun j => by rw [hf]; exact h.idlef j,
    by rw [hc]; exact h.spinc, by rw [hc]; exact h.nidc, by rw [hc]; exact h.muc, by rw [hc]; exact h.lstc, fun j => by rw [hf]; exact h.sf j⟩

section
variable {B J S n : Nat} {idl : Nat → Value} {spin nid mu : Int} {lst : Value} {ch : Nat → Obj} {w : World}

theorem cs_other (w : World) (a b : Addr) (v : Value) (h : a ≠ b) : (w.setCell a v).cell? b = w.cell? b := World.cell?_setCell_other w a b v h

/-- A store into the scheduler's block, of one of the four fields. -/
theorem Inv.setS (h : Inv B J S n idl spin nid mu lst ch w) (o : Nat) (v : Value) (spin' nid' mu' : Int) (lst' : Value)
    (h1 : (w.setCell ⟨S, o, none⟩ v).cell? ⟨S, 141, none⟩ = some (.int .i32 spin')) (h2 : (w.setCell ⟨S, o, none⟩ v).cell? ⟨S, 142, none⟩ = some (.int .i32 nid'))
    (h3 : (w.setCell ⟨S, o, none⟩ v).cell? ⟨S, 538, none⟩ = some (.int .i32 mu')) (h4 : (w.setCell ⟨S, o, none⟩ v).cell? ⟨S, 541, none⟩ = some lst') :
    Inv B J S n idl spin' nid' mu' lst' ch (w.setCell ⟨S, o, none⟩ v) := by
  have hJ := h.hJ
  have hS := h.hS
  have hb : ∀ k, k ≠ S → (w.setCell ⟨S, o, none⟩ v).heap[k]? = w.heap[k]? := fun k hk => Below.heap_setCell _ _ _ _ (by simpa using hk)
  refine ⟨hJ, hS, by simp [World.setCell]; exact h.size, fun j hj => ?_, fun j hj => ?_, fun j hj => ?_, fun j hj => ?_, fun j => ?_, h1, h2, h3, h4, fun j => ?_⟩
  · rw [← h.ws j hj]; exact World.cell?_of_block (hb _ (by simp; omega))
  · rw [hb _ (by omega)]; exact h.chans j hj
  · rw [← h.works j hj]; exact World.cell?_of_block (hb _ (by simp; omega))
  · rw [← h.idle j hj]; exact World.cell?_of_block (hb _ (by simp; omega))
  · rw [← h.idlef j]; exact World.frozen?_of_block (hb _ (by simp; omega))
  · rw [World.frozen?_setCell]; exact h.sf j

theorem Inv.set141 (h : Inv B J S n idl spin nid mu lst ch w) (x : Int) : Inv B J S n idl x nid mu lst ch (w.setCell ⟨S, 141, none⟩ (.int .i32 x)) :=
  h.setS 141 _ x nid mu lst (World.cell?_setCell_same w _ _ h.spinc) ((cs_other _ _ _ _ (by simp)).trans h.nidc) ((cs_other _ _ _ _ (by simp)).trans h.muc) ((cs_other _ _ _ _ (by simp)).trans h.lstc)
theorem Inv.set142 (h : Inv B J S n idl spin nid mu lst ch w) (x : Int) : Inv B J S n idl spin x mu lst ch (w.setCell ⟨S, 142, none⟩ (.int .i32 x)) :=
  h.setS 142 _ spin x mu lst ((cs_other _ _ _ _ (by simp)).trans h.spinc) (World.cell?_setCell_same w _ _ h.nidc) ((cs_other _ _ _ _ (by simp)).trans h.muc) ((cs_other _ _ _ _ (by simp)).trans h.lstc)
theorem Inv.set538 (h : Inv B J S n idl spin nid mu lst ch w) (x : Int) : Inv B J S n idl spin nid x lst ch (w.setCell ⟨S, 538, none⟩ (.int .i32 x)) :=
  h.setS 538 _ spin nid x lst ((cs_other _ _ _ _ (by simp)).trans h.spinc) ((cs_other _ _ _ _ (by simp)).trans h.nidc) (World.cell?_setCell_same w _ _ h.muc) ((cs_other _ _ _ _ (by simp)).trans h.lstc)
theorem Inv.set541 (h : Inv B J S n idl spin nid mu lst ch w) (x : Value) : Inv B J S n idl spin nid mu x ch (w.setCell ⟨S, 541, none⟩ x) :=
  h.setS 541 _ spin nid mu x ((cs_other _ _ _ _ (by simp)).trans h.spinc) ((cs_other _ _ _ _ (by simp)).trans h.nidc) ((cs_other _ _ _ _ (by simp)).trans h.muc) (World.cell?_setCell_same w _ _ h.lstc)

theorem Inv.setIdle (h : Inv B J S n idl spin nid mu lst ch w) (k : Nat) (hk : k < n) (v : Value) : Inv B J S n (fun j => if j = k then v else idl j) spin nid mu lst ch (w.setCell ⟨J, k, none⟩ v) := by
  have hJ := h.hJ
  have hS := h.hS
  have hb : ∀ i, i ≠ J → (w.setCell ⟨J, k, none⟩ v).heap[i]? = w.heap[i]? := fun i hi => Below.heap_setCell _ _ _ _ (by simpa using hi)
  have hc : ∀ o, (w.setCell ⟨J, k, none⟩ v).cell? ⟨S, o, none⟩ = w.cell? ⟨S, o, none⟩ := fun o => World.cell?_of_block (hb _ (by simp; omega))
  refine ⟨hJ, hS, by simp [World.setCell]; exact h.size, fun j hj => ?_, fun j hj => ?_, fun j hj => ?_, fun j hj => ?_, fun j => ?_, (hc _).trans h.spinc, (hc _).trans h.nidc, (hc _).trans h.muc, (hc _).trans h.lstc, fun j => ?_⟩
  · rw [← h.ws j hj]; exact World.cell?_of_block (hb _ (by simp; omega))
  · rw [hb _ (by omega)]; exact h.chans j hj
  · rw [← h.works j hj]; exact World.cell?_of_block (hb _ (by simp; omega))
  · by_cases e : j = k
    · subst e; simp only [if_true]; exact World.cell?_setCell_same w _ _ (h.idle j hj)
    · simp only [if_neg e]; rw [cs_other _ _ _ _ (by simp; omega)]; exact h.idle j hj
  · rw [World.frozen?_setCell]; exact h.idlef j
  · rw [← h.sf j]; exact World.frozen?_of_block (hb _ (by simp; omega))

theorem Inv.setCh (h : Inv B J S n idl spin nid mu lst ch w) (k : Nat) (hk : k < n) (cap : Nat) (buf : Array Value) (cl : Bool) (s r : Nat) (tm : Bool) :
    Inv B J S n idl spin nid mu lst (fun j => if j = k then .chan cap buf cl s r tm else ch j) (w.setChan (B + 1 + 2 * k) cap buf cl s r tm) := by
  have hJ := h.hJ
  have hS := h.hS
  have hz := h.size
  have hc : ∀ a : Addr, ¬ a.block = B + 1 + 2 * k → (w.setChan (B + 1 + 2 * k) cap buf cl s r tm).cell? a = w.cell? a := fun a ha => cell_setChan _ _ _ _ _ _ _ _ _ ha
  have hf : ∀ a : Addr, ¬ a.block = B + 1 + 2 * k → (w.setChan (B + 1 + 2 * k) cap buf cl s r tm).frozen? a = w.frozen? a := fun a ha => frozen_setChan _ _ _ _ _ _ _ _ _ ha
  refine ⟨hJ, hS, by simp [World.setChan]; exact h.size, fun j hj => ?_, fun j hj => ?_, fun j hj => ?_, fun j hj => ?_, fun j => ?_, (hc _ (by simp; omega)).trans h.spinc, (hc _ (by simp; omega)).trans h.nidc, (hc _ (by simp; omega)).trans h.muc, (hc _ (by simp; omega)).trans h.lstc, fun j => ?_⟩
  · rw [hc _ (by simp; omega)]; exact h.ws j hj
  · by_cases e : j = k
    · subst e; simp only [if_true]; exact Go.Conc.heap_setChan _ _ _ _ _ _ _ _ (by omega)
    · simp only [if_neg e]; rw [heap_setChan_other _ _ _ _ _ _ _ _ _ (by omega)]; exact h.chans j hj
  · rw [hc _ (by simp; omega)]; exact h.works j hj
  · rw [hc _ (by simp; omega)]; exact h.idle j hj
  · rw [hf _ (by simp; omega)]; exact h.idlef j
  · rw [hf _ (by simp; omega)]; exact h.sf j
end
end Go.Proofs.Ybulkbyzk
