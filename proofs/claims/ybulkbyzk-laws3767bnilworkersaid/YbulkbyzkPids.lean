/-
  OWN WORK. THE WALKS of zzs3767bpids and zzs3767beq.
-/
import Derived.Test.YbulkbyzkRows
import Derived.WalkKit
import Derived.WalkSpells
import Derived.WalkSmall
import Derived.Deep.OwnRows
import Derived.Deep.QuietTactic
import Derived.BigQuiet
import Derived.Deep.DeepCutAuto
namespace Go.Proofs.Ybulkbyzk
open Go.RowKit

theorem info95 : (Yba.prog.info? 95).map (fun i => (i.zero, i.size, i.bytes)) = some (some (.int .u64 0), 1, 8) := by kernel_rfl

/-- Block g holds n cells, the first k of them the numbers z. -/
def RowTo (g n k : Nat) (z : Nat → Int) (w : World) : Prop :=
  ∃ cur : Array Value, w.heap[g]? = some (.cells cur 95 (0, 0)) ∧ cur.size = n ∧ ∀ i, i < k → cur[i]? = some (.int .u64 (z i))

theorem RowTo.start (w : World) (n : Nat) (z : Nat → Int) : RowTo w.heap.size n 0 z (w.alloc (.cells (madeCells #[.int .u64 0] n) 95)) :=
  ⟨_, heap_alloc_new _ _, by simp [size_madeCells], fun i hi => by omega⟩
theorem RowTo.cell {g n k : Nat} {z : Nat → Int} {w : World} (h : RowTo g n k z w) (i : Nat) (hi : i < n) : ∃ u, w.cell? ⟨g, i, none⟩ = some u := by
  obtain ⟨cur, hg, hs, _⟩ := h
  exact ⟨cur[i]'(by omega), by simp [World.cell?, hg, hs, hi]⟩
theorem RowTo.fz {g n k : Nat} {z : Nat → Int} {w : World} (h : RowTo g n k z w) (i : Nat) : w.frozen? ⟨g, i, none⟩ = false := by
  obtain ⟨cur, hg, _⟩ := h
  simp [World.frozen?, hg]
theorem RowTo.at {g n k : Nat} {z : Nat → Int} {w : World} (h : RowTo g n k z w) (i : Nat) (hi : i < k) : w.cell? ⟨g, i, none⟩ = some (.int .u64 (z i)) := by
  obtain ⟨cur, hg, _, hc⟩ := h
  rw [← hc i hi]
  simp [World.cell?, hg]
theorem RowTo.step {g n k : Nat} {z : Nat → Int} {w : World} (h : RowTo g n k z w) (hk : k < n) : RowTo g n (k + 1) z (w.setCell ⟨g, k, none⟩ (.int .u64 (z k))) := by
  obtain ⟨cur, hg, hs, hc⟩ := h
  refine ⟨cur.setIfInBounds k (.int .u64 (z k)), ?_, by simp [hs], fun i hi => ?_⟩
  · simp only [World.setCell, Array.getElem?_modify, if_true, hg]
    simp
  · by_cases e : i = k
    · subst e; simp [hs, hk]
    · rw [Array.getElem?_setIfInBounds_ne (by omega)]; exact hc i (by omega)
theorem RowTo.of_block {g n k : Nat} {z : Nat → Int} {w w' : World} (h : RowTo g n k z w) (e : w'.heap[g]? = w.heap[g]?) : RowTo g n k z w' := by
  obtain ⟨cur, hg, r⟩ := h
  exact ⟨cur, e.trans hg, r⟩

/-- What is known of a slice of uint64 that came in. -/
def Came (w : World) (x : Option Addr) (len : Nat) (z : Nat → Int) : Prop :=
  len = 0 ∨ ∃ b o, x = some ⟨b, o, none⟩ ∧ b < w.heap.size ∧ ∀ i, i < len → w.cell? ⟨b, o + i, none⟩ = some (.int .u64 (z i))
theorem Came.below {B : Nat} {w w' : World} {x : Option Addr} {len : Nat} {z : Nat → Int} (h : Came w x len z) (hB : w.heap.size ≤ B) (hb : Below B w w') : Came w' x len z := by
  rcases h with h | ⟨b, o, h1, h2, h3⟩
  · exact .inl h
  · exact .inr ⟨b, o, h1, Nat.lt_of_lt_of_le h2 hb.size, fun i hi => (hb.cell (p := ⟨b, o + i, none⟩) (by exact Nat.lt_of_lt_of_le h2 hB)).trans (h3 i hi)⟩
theorem Came.less {w : World} {x : Option Addr} {len n : Nat} {z : Nat → Int} (h : Came w x len z) (hn : n ≤ len) : Came w x n z := by
  rcases h with h | ⟨b, o, h1, h2, h3⟩
  · exact .inl (by omega)
  · exact .inr ⟨b, o, h1, h2, fun i hi => h3 i (by omega)⟩

theorem pids_nil (w : World) : Calls Yba.prog 12 #[.slice none 0 0] w fun e w' => e = .returned (.slice none 0 0) ∧ w' = w := by
  have hq := fun (w : World) (a : Option Addr) (n c n2 c2 : Nat) => Lib.run_eql_slice_nil (P := Yba.prog) w 92 34 a n c n2 c2 Yba.underlying92
  go_enter Yba.func12, Yba.ntmps12
  go_wp2
  go_ret
  exact ⟨rfl, rfl⟩

set_option maxHeartbeats 400000 in
theorem pids_some (x : Addr) (len cap : Nat) (z : Nat → Int) (hl : len ≤ 1024) (w : World) (hx : Came w (some x) len z) :
    Calls Yba.prog 12 #[.slice (some x) len cap] w fun e w' => e = .returned (.slice (some ⟨w.heap.size, 0, none⟩) len len) ∧ w'.heap.size = w.heap.size + 1 ∧ RowTo w.heap.size len len z w' ∧ Below w.heap.size w w' := by
  have hq := fun (w : World) (a : Option Addr) (n c n2 c2 : Nat) => Lib.run_eql_slice_nil (P := Yba.prog) w 92 34 a n c n2 c2 Yba.underlying92
  have hmk := fun w => run_make_row' (P := Yba.prog) 61 95 (.int .u64 0) 8 Yba.underlying61 info95 rfl .i64 .i64 len (by omega) (by omega) w
  have HX : Hid _ := hx
  clear hx
  go_enter Yba.func12, Yba.ntmps12
  go_wp2
  go_loopw [4] (fun i wr => ∃ k : Nat, k ≤ len ∧ i = .int .i64 k ∧ wr.heap.size = w.heap.size + 1 ∧ RowTo w.heap.size len k z wr ∧ Below w.heap.size w wr) (fun i _ => len - (intOf i).toNat)
  case atStart => exact ⟨0, Nat.zero_le _, rfl, by simp, RowTo.start w len z, (Below.refl _ _).alloc (Nat.le_refl _) _⟩
  case round =>
    obtain ⟨k, hk, rfl, hsz, hr, hb⟩ := hrel
    have HR : Hid _ := hr
    have HZ : Hid _ := hsz
    clear hsz
    by_cases hlt : k < len
    · obtain h0 | ⟨b, o, he, hbb, hcell⟩ := HX.out
      · omega
      obtain rfl : x = ⟨b, o, none⟩ := by simpa using he
      have gc := (hb.cell (p := ⟨b, o + k, none⟩) (by exact hbb)).trans (hcell k hlt)
      obtain ⟨u, gu⟩ := hr.cell k hlt
      have gf := hr.fz k
      clear hcell hr he
      go_wp2
      go_roundw
      case rel => exact ⟨k + 1, by omega, by go_num, by simp [World.setCell]; exact HZ.out, RowTo.step HR.out hlt, hb.setCell (Nat.le_refl _) _⟩
      case measure => simp [intOf]; omega
    · obtain rfl : k = len := by omega
      clear hr
      go_wp2
      go_ret
      exact ⟨rfl, HZ.out, HR.out, hb⟩

set_option maxHeartbeats 400000 in
/-- zzs3767beq, of a row of the call's own and a slice that came in, which hold the same numbers: true. -/
theorem beq_true (g len c1 c2 : Nat) (a : Option Addr) (x : Option Addr) (z : Nat → Int) (hl : len ≤ 1024) (w : World) (ha : len = 0 ∨ (a = some ⟨g, 0, none⟩ ∧ ∀ i, i < len → w.cell? ⟨g, i, none⟩ = some (.int .u64 (z i)))) (hx : Came w x len z) :
    Calls Yba.prog 14 #[.slice a len c1, .slice x len c2] w fun e w' => e = .returned (.bool true) ∧ ∃ q, w' = w.drewN q := by
  have HX : Hid _ := hx
  have HA : Hid _ := ha
  clear hx ha
  go_enter Yba.func14, Yba.ntmps14
  go_wp2
  go_loopw [5] (fun i wr => ∃ k : Nat, k ≤ len ∧ i = .int .i64 k ∧ ∃ q, wr = w.drewN q) (fun i _ => len - (intOf i).toNat)
  case atStart => exact ⟨0, Nat.zero_le _, rfl, 0, rfl⟩
  case round =>
    obtain ⟨k, hk, rfl, q, rfl⟩ := hrel
    by_cases hlt : k < len
    · obtain h0 | ⟨b, o, rfl, hbb, hcell⟩ := HX.out
      · omega
      obtain h0 | ⟨rfl, hc⟩ := HA.out
      · omega
      have gc := hcell k hlt
      have gu := hc k hlt
      have hkl : (k : Int) < len := by omega
      clear hcell hc
      go_upto_region 6 with fail
      go_quiet (fail)
      go_wp2
      go_roundw
      case rel => exact ⟨k + 1, by omega, by go_num, _, rfl⟩
      case measure => simp [intOf]; omega
    · go_wp2
      go_ret
      exact ⟨rfl, _, rfl⟩
end Go.Proofs.Ybulkbyzk
