/-
  OWN WORK. THE WALK of zzs3767abuild: n workers, each with a channel of capacity one, and two slices that list them.
-/
import Derived.Test.YbulkbyzkRows
import Derived.Test.YbulkbyzkHeap
import Derived.WalkKit
import Derived.Conc.SmallLaws
import Derived.Deep.OwnRows
import Derived.Laws.CopyOwn
namespace Go.Proofs.Ybulkbyzk
open Go.RowKit
set_option maxRecDepth 100000 in
theorem wk_ex : ∃ wk : Nat → Array Value, (∀ c w, (Instr.build 87 #[(28, .chan (some c))]).run Yba.prog w = .ok (.agg (wk c)) w) ∧
    (∀ c w, (Instr.box 87 (.agg (wk c))).run Yba.prog w = .ok (.pointer (some ⟨w.heap.size, 0, none⟩)) (w.alloc (.cells (wk c) 87))) ∧
    (∀ c, (wk c)[31]? = some (.chan (some c))) :=
  ⟨fun c => (match (zeroValue 87).run Yba.prog default with | .ok v _ => v.cells | _ => #[]).setIfInBounds 31 (.chan (some c)),
    fun c w => by kernel_rfl, fun c w => by kernel_rfl, fun c => by kernel_rfl⟩
theorem info71 : (Yba.prog.info? 71).map (fun i => (i.zero, i.size, i.bytes)) = some (some (.pointer none), 1, 8) := by kernel_rfl
theorem mk_chan (w : World) : (Instr.makeChan 82 (.int .i64 1)).run Yba.prog w = .ok (.chan (some w.heap.size)) (w.alloc (.chan 1 #[] false 0 0 false)) := by
  have h : (Yba.prog.info? 4).map (·.bytes) = some 1 := by kernel_rfl
  obtain ⟨i, hi, hb⟩ := Option.map_eq_some_iff.1 h
  simpa using Go.Conc.run_makeChan (P := Yba.prog) (w := w) Yba.underlying82 hi .i64 1 (by omega) (by rw [hb]; omega)

theorem wpList_run {P : Program} {w w' : World} {ops : Array Oper} {rest : List Oper} {o : Oper} {a : Act} {Q : Exit → Act → World → Prop} {v : Value} (hg : o.guard = none)
    (hrun : (execOp a.eval o).run P w = .ok (.value v) w') (hK : wpList P ops Q rest (a.put o.dst v) w') : wpList P ops Q (o :: rest) a w := by
  refine wpList_plain hg fun K hK' => ?_
  unfold Oper.wp
  rw [hrun]
  exact hK' _ _ hK

theorem wpList_build {P : Program} {w : World} {ops : Array Oper} {rest : List Oper} {o : Oper} {a : Act} {Q : Exit → Act → World → Prop} (hg : o.guard = none) (t i : Nat) (x : Operand) (hop : o.op = .build t #[(i, x)]) (u v : Value) (hx : a.eval x = u)
    (hrun : (Instr.build t #[(i, u)]).run P w = .ok v w) (hK : wpList P ops Q rest (a.put o.dst v) w) : wpList P ops Q (o :: rest) a w :=
  wpList_run hg (by simp [execOp, hop, hx, hrun]) hK


set_option maxHeartbeats 400000 in
theorem build_any (n : Nat) (hn : n ≤ 1024) (w : World) :
    Calls Yba.prog 7 #[.int .i64 n] w fun e w' => e = .returned (.tuple #[.slice (some ⟨w.heap.size, 0, none⟩) n n, .slice (some ⟨w.heap.size + 1 + 2 * n, 0, none⟩) n n]) ∧ Built w.heap.size (w.heap.size + 1 + 2 * n) n w' ∧ Below w.heap.size w w' := by
  obtain ⟨wk, hbd, hbx, hwc⟩ := wk_ex
  have hmc := mk_chan
  have hmk := fun w => run_make_row' (P := Yba.prog) 23 71 (.pointer none) 8 Yba.underlying23 info71 rfl .i64 .i64 n (by omega) (by omega) w
  go_enter Yba.func7, Yba.ntmps7
  go_wp2
  go_loopw [5] (fun i wr => ∃ k : Nat, k ≤ n ∧ i = .int .i64 k ∧ BuiltTo w.heap.size n k wr ∧ Below w.heap.size w wr) (fun i _ => n - (intOf i).toNat)
  case atStart => exact ⟨0, Nat.zero_le _, rfl, BuiltTo.start w n, (Below.refl _ _).alloc (Nat.le_refl _) _⟩
  case round =>
    obtain ⟨k, hk, rfl, hb, hw⟩ := hrel
    have hsz := hb.size
    by_cases hlt : k < n
    · obtain ⟨u, hcell⟩ := hb.cell hlt
      have hfz := hb.fz k
      go_wp2_with (refine wpList_build rfl 87 28 (.tmp 16) rfl (.chan (some (w.heap.size + 1 + 2 * k))) (.agg (wk (w.heap.size + 1 + 2 * k))) rfl (hbd _ _) ?_)
      have R := hb.step hlt _ (hwc _)
      go_roundw
      case rel => exact ⟨k + 1, by omega, by go_num, R, ((hw.alloc (by omega) _).alloc (by simp; omega) _).setCell (Nat.le_refl _) _⟩
      case measure => simp [intOf]; omega
    · obtain rfl : k = n := by omega
      have hH : Hid (BuiltTo w.heap.size k k wr) := hb
      clear hb hbd hbx hwc hmc
      go_wp2_with (refine wpList_copy_own (cur := madeCells #[.pointer none] k) rfl (.tmp 22) (.tmp 23) 23 23 rfl 71 Yba.underlying23 (by kernel_rfl) (w.heap.size + 1 + 2 * k) 0 k k ⟨w.heap.size, 0, none⟩ k k rfl rfl 71 ?hg (wps w.heap.size k) ?hn ?hsrc ?hfit (wps_one _ _) ?_)
      case hg => rw [← hsz]; exact heap_alloc_new _ _
      case hn => simp [length_wps]
      case hsrc => exact hH.out.src _
      case hfit => simp [length_wps, size_madeCells]
      go_ret2
      have hbt := hH.out.built (madeCells #[.pointer none] k) (by simp [size_madeCells])
      rw [hsz] at hbt
      simp only [List.take_zero, List.nil_append, Nat.zero_add] at hbt
      exact ⟨rfl, hbt, below_setRow (hw.alloc (by omega) _) (by omega) _⟩
end Go.Proofs.Ybulkbyzk
