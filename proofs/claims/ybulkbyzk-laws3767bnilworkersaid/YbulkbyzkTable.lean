/-
  OWN WORK. THE WALKS of atomic.Pointer's Load and Store, (*procTable).take and grow, zzs3767bchunksok: the table at block T (cell 0: chunks, 130: the lock, 132: free, 133: slots).
-/
import Derived.Test.YbulkbyzkPids
import Derived.Laws.Externs
namespace Go.Proofs.Ybulkbyzk
open Go.RowKit

section
variable {P : Program} {f : FuncId} {fn : Func}
/-- sync/atomic.LoadPointer: what the cell holds. -/
theorem run_call_loadP (hf : P.funcs[f]? = some fn) (hname : (fn.name == "runtime.NumGoroutine") = false) (hb : fn.body.isNone = true) (hn : Extern.findNext fn = none)
    (he : Extern.find fn = some (Extern.Atomic.loadT .ptr)) {a : Addr} {x : Option Addr} {w : World} (hc : w.cell? a = some (.pointer x)) :
    (callFunc f #[.pointer (some a)]).run P w = .ok (.value (.pointer x)) w := by
  rw [run_callFunc_extern hf hname hb hn he]
  change (Sem.run P (do Extern.Atomic.read .ptr (← asAddr (.pointer (some a)))) w).andThen _ = _
  simp [Extern.Atomic.read, asAddr, hc, Result.andThen]
/-- sync/atomic.StorePointer. -/
theorem run_call_storeP (hf : P.funcs[f]? = some fn) (hname : (fn.name == "runtime.NumGoroutine") = false) (hb : fn.body.isNone = true) (hn : Extern.findNext fn = none)
    (he : Extern.find fn = some Extern.Atomic.storeT) {a : Addr} {y : Option Addr} {u : Value} {w : World} (hc : w.cell? a = some u) (hz : w.frozen? a = false) :
    (callFunc f #[.pointer (some a), .pointer y]).run P w = .ok (.value (.tuple #[])) (w.setCell a (.pointer y)) := by
  rw [run_callFunc_extern hf hname hb hn he]
  change (Sem.run P (do
    store (← asAddr (.pointer (some a))) (.pointer y) .atomic
    pure Extern.Atomic.none_) w).andThen _ = _
  simp [asAddr, hc, hz, run_store P w a (.pointer y) .atomic rfl, Result.andThen, Extern.Atomic.none_]
end

/-- A reckoning that only asks for the program and for the shape of ONE block, whose shape is s: it comes to v. -/
def Comes1 (P : Program) (V : Nat) (s : Option (TypeId × Nat)) : Sem Value → Value → Prop
  | .pure a, v => a = v
  | .program k, v => Comes1 P V s (k P) v
  | .shape r k, v => r = V ∧ Comes1 P V s (k s) v
  | _, _ => False
theorem Comes1.run {P : Program} {V : Nat} {s : Option (TypeId × Nat)} {w : World} (hs : w.shape? V = s) : ∀ (t : Sem Value) (v : Value), Comes1 P V s t v → t.run P w = .ok v w
  | .pure a, v, h => by cases h; rfl
  | .program k, v, h => by
    have := Comes1.run hs (k P) v h
    simpa [Sem.run] using this
  | .shape r k, v, h => by
    obtain ⟨rfl, h⟩ := h
    have := Comes1.run hs (k s) v h
    simpa [Sem.run, hs] using this

/-- The conversions that atomic.Pointer makes: nil stays nil; a pointer to a variable of the slice's type stays as it is. -/
theorem conv_nil (w : World) : (convert 53 51 (.pointer none)).run Yba.prog w = .ok (.pointer none) w := by kernel_rfl
theorem conv_from (V : Nat) : Comes1 Yba.prog V (some (99, 1)) (convert 53 51 (.pointer (some ⟨V, 0, none⟩))) (.pointer (some ⟨V, 0, none⟩)) = (V = V ∧ V = V ∧ (Value.pointer (some ⟨V, 0, none⟩)) = (Value.pointer (some ⟨V, 0, none⟩))) := by kernel_rfl
theorem conv_to (V : Nat) : Comes1 Yba.prog V (some (99, 1)) (convert 51 53 (.pointer (some ⟨V, 0, none⟩))) (.pointer (some ⟨V, 0, none⟩)) = (V = V ∧ V = V ∧ (Value.pointer (some ⟨V, 0, none⟩)) = (Value.pointer (some ⟨V, 0, none⟩))) := by kernel_rfl
theorem run_conv_from (V : Nat) (v : Value) (w : World) (hV : w.heap[V]? = some (.cells #[v] 99 (0, 0))) : (convert 53 51 (.pointer (some ⟨V, 0, none⟩))).run Yba.prog w = .ok (.pointer (some ⟨V, 0, none⟩)) w :=
  Comes1.run (V := V) (s := some (99, 1)) (by simp [World.shape?, hV]) _ _ (by rw [conv_from]; exact ⟨rfl, rfl, rfl⟩)
theorem run_conv_to (V : Nat) (v : Value) (w : World) (hV : w.heap[V]? = some (.cells #[v] 99 (0, 0))) : (convert 51 53 (.pointer (some ⟨V, 0, none⟩))).run Yba.prog w = .ok (.pointer (some ⟨V, 0, none⟩)) w :=
  Comes1.run (V := V) (s := some (99, 1)) (by simp [World.shape?, hV]) _ _ (by rw [conv_to]; exact ⟨rfl, rfl, rfl⟩)

theorem loadP_nil (a : Addr) (w : World) (hc : w.cell? a = some (.pointer none)) :
    Calls Yba.prog 15 #[.pointer (some a)] w fun e w' => e = .returned (.pointer none) ∧ w' = w := by
  have hl := run_call_loadP (P := Yba.prog) Yba.func26 (by kernel_rfl) (by kernel_rfl) (by kernel_rfl) (by kernel_rfl) hc
  have hcv := conv_nil
  go_enter Yba.func15, Yba.ntmps15
  go_wp2
  go_ret
  exact ⟨rfl, rfl⟩

/-- take(1), at least one PID free: the last is taken. -/
theorem take_one (T g m c : Nat) (w : World) (hm : m ≤ 1024) (h132 : w.cell? ⟨T, 132, none⟩ = some (.slice (some ⟨g, 0, none⟩) (m + 1) c)) (hc : m + 1 ≤ c) (hf : w.frozen? ⟨T, 132, none⟩ = false) :
    Calls Yba.prog 24 #[.pointer (some ⟨T, 0, none⟩), .int .i64 1] w fun e w' => e = .returned (.slice (some ⟨g, m, none⟩) 1 (c - m)) ∧ w' = w.setCell ⟨T, 132, none⟩ (.slice (some ⟨g, 0, none⟩) m c) := by
  go_enter Yba.func24, Yba.ntmps24
  go_wp2
  go_ret
  exact ⟨rfl, rfl⟩

/-- take(1), none free. -/
theorem take_none (T : Nat) (a : Option Addr) (c : Nat) (w : World) (h132 : w.cell? ⟨T, 132, none⟩ = some (.slice a 0 c)) (hf : w.frozen? ⟨T, 132, none⟩ = false) :
    Calls Yba.prog 24 #[.pointer (some ⟨T, 0, none⟩), .int .i64 1] w fun e w' => e = .returned (.slice a 0 c) ∧ w' = w.setCell ⟨T, 132, none⟩ (.slice a 0 c) := by
  go_enter Yba.func24, Yba.ntmps24
  go_wp2
  go_ret
  exact ⟨rfl, rfl⟩

theorem info117 : (Yba.prog.info? 117).map (fun i => (i.zero, i.size, i.bytes)) = some (some (.pointer none), 1, 8) := by kernel_rfl

theorem wpList_run {P : Program} {w w' : World} {ops : Array Oper} {rest : List Oper} {o : Oper} {a : Act} {Q : Exit → Act → World → Prop} {v : Value} (hg : o.guard = none)
    (hrun : (execOp a.eval o).run P w = .ok (.value v) w') (hK : wpList P ops Q rest (a.put o.dst v) w') : wpList P ops Q (o :: rest) a w := by
  refine wpList_plain hg fun K hK' => ?_
  unfold Oper.wp
  rw [hrun]
  exact hK' _ _ hK
theorem wpList_new {P : Program} {w w' : World} {ops : Array Oper} {rest : List Oper} {o : Oper} {a : Act} {Q : Exit → Act → World → Prop} (hg : o.guard = none) (t : Nat) (hop : o.op = .alloc t) (v : Value)
    (hrun : (Instr.alloc t true (.tuple #[])).run P w = .ok v w') (hK : wpList P ops Q rest (a.put o.dst v) w') : wpList P ops Q (o :: rest) a w :=
  wpList_run hg (by simp [execOp, hop, hrun]) hK

set_option maxRecDepth 100000 in
/-- new(tableChunk): a block of its own, whatever it holds. -/
theorem chunk_ex : ∃ z : Array Value, ∀ w, (Instr.alloc 122 true (.tuple #[])).run Yba.prog w = .ok (.pointer (some ⟨w.heap.size, 0, none⟩)) (w.alloc (.cells z 122)) :=
  ⟨(match (zeroValue 122).run Yba.prog default with | .ok v _ => v.cells | _ => #[]), fun w => by kernel_rfl⟩

theorem storeP (a : Addr) (V : Nat) (u v : Value) (w : World) (hc : w.cell? a = some u) (hz : w.frozen? a = false) (hV : w.heap[V]? = some (.cells #[v] 99 (0, 0))) :
    Calls Yba.prog 30 #[.pointer (some a), .pointer (some ⟨V, 0, none⟩)] w fun e w' => e = .returned (.tuple #[]) ∧ w' = w.setCell a (.pointer (some ⟨V, 0, none⟩)) := by
  have hl := run_call_storeP (P := Yba.prog) Yba.func37 (by kernel_rfl) (by kernel_rfl) (by kernel_rfl) (by kernel_rfl) (y := some ⟨V, 0, none⟩) hc hz
  have hcv := run_conv_to V v w hV
  clear hV
  go_enter Yba.func30, Yba.ntmps30
  go_wp2
  go_end0
  exact ⟨rfl, rfl⟩

/-- While the chunks are made: block R holds q pointers, block R + 1 the slice over them. -/
structure GrowTo (R q : Nat) (w : World) : Prop where
  row : ∃ cur : Array Value, w.heap[R]? = some (.cells cur 117 (0, 0)) ∧ cur.size = q
  vblk : w.heap[R + 1]? = some (.cells #[.slice (some ⟨R, 0, none⟩) q q] 99 (0, 0))
  size : R + 2 ≤ w.heap.size
theorem GrowTo.var {R q : Nat} {w : World} (h : GrowTo R q w) : w.cell? ⟨R + 1, 0, none⟩ = some (.slice (some ⟨R, 0, none⟩) q q) := by
  simp [World.cell?, h.vblk]
theorem GrowTo.start {R q : Nat} {w : World} (h : w.heap.size = R) : GrowTo R q ((w.alloc (.cells (madeCells #[.pointer none] q) 117)).alloc (.cells #[.slice (some ⟨R, 0, none⟩) q q] 99)) := by
  subst h
  refine ⟨⟨madeCells #[.pointer none] q, ?_, by simp [size_madeCells]⟩, ?_, by simp⟩
  · rw [Below.heap_alloc _ _ _ (by simp)]; exact heap_alloc_new _ _
  · have := heap_alloc_new (w.alloc (.cells (madeCells #[.pointer none] q) 117)) (.cells #[.slice (some ⟨w.heap.size, 0, none⟩) q q] 99)
    simpa using this
theorem GrowTo.cell {R q : Nat} {w : World} (h : GrowTo R q w) (k : Nat) (hk : k < q) : ∃ u, ∀ o, (w.alloc o).cell? ⟨R, k, none⟩ = some u := by
  obtain ⟨cur, hr, hs⟩ := h.row
  have hz := h.size
  exact ⟨cur[k]'(by omega), fun o => by
    have := (Below.heap_alloc w o R (by omega)).trans hr
    simp [World.cell?, this, hs, hk]⟩
theorem GrowTo.fz {R q : Nat} {w : World} (h : GrowTo R q w) (k : Nat) : ∀ o, (w.alloc o).frozen? ⟨R, k, none⟩ = false := fun o => by
  obtain ⟨cur, hr, hs⟩ := h.row
  have hz := h.size
  have := (Below.heap_alloc w o R (by omega)).trans hr
  simp [World.frozen?, this]
theorem GrowTo.step {R q k : Nat} {w : World} (h : GrowTo R q w) (_hk : k < q) (o : Obj) (v : Value) : GrowTo R q ((w.alloc o).setCell ⟨R, k, none⟩ v) := by
  obtain ⟨cur, hr, hs⟩ := h.row
  have hz := h.size
  have hr2 := (Below.heap_alloc w o R (by omega)).trans hr
  refine ⟨⟨cur.setIfInBounds k v, ?_, by simp [hs]⟩, ?_, by simp [World.setCell]; omega⟩
  · simp only [World.setCell, Array.getElem?_modify, if_true, hr2]
    simp
  · rw [Below.heap_setCell _ _ _ _ (by simp), Below.heap_alloc _ _ _ (by omega)]; exact h.vblk

set_option maxRecDepth 20000 in
set_option maxHeartbeats 800000 in
theorem grow_one (T s : Nat) (w : World) (hT : T < w.heap.size) (hs : s ≤ 65535) (h0 : w.cell? ⟨T, 0, none⟩ = some (.pointer none)) (h133 : w.cell? ⟨T, 133, none⟩ = some (.int .u32 s)) (hf : ∀ j, w.frozen? ⟨T, j, none⟩ = false) :
    Calls Yba.prog 25 #[.pointer (some ⟨T, 0, none⟩), .int .i64 1] w fun e w' => e = .returned (.int .u64 (s + 1)) ∧ ∃ V R : Nat,
      w'.cell? ⟨T, 0, none⟩ = some (.pointer (some ⟨V, 0, none⟩)) ∧ w'.heap[V]? = some (.cells #[.slice (some ⟨R, 0, none⟩) ((s + 4096) / 4096) ((s + 4096) / 4096)] 99 (0, 0)) ∧
      w'.cell? ⟨T, 133, none⟩ = some (.int .u32 (s + 1)) ∧ (∀ j, ¬ j = 0 → ¬ j = 133 → w'.cell? ⟨T, j, none⟩ = w.cell? ⟨T, j, none⟩) ∧ (∀ j, w'.frozen? ⟨T, j, none⟩ = false) ∧ Below T w w' := by
  obtain ⟨zc, hnew⟩ := chunk_ex
  go_enter Yba.func25, Yba.ntmps25
  go_wp2_with fail
  refine (loadP_nil ⟨T, 0, none⟩ _ (by go_simp)).mono ?_
  rintro e w1 ⟨rfl, rfl⟩
  go_upto_region 7 with fail
  go_cut [8] (fun s8 wx => ∃ q : Nat, s8 = .int .i64 q ∧ 1 ≤ q ∧ q ≤ 16 ∧ Hid (q = (s + 4096) / 4096) ∧ wx = w.setCell ⟨T, 133, none⟩ (.int .u32 (s + 1)))
  case first =>
    go_wp2
    go_meet
    case rel => exact ⟨(s + 4096) / 4096, by congr 1; omega, by omega, by omega, rfl, rfl⟩
  case rest =>
    obtain ⟨q, rfl, hq1, hq2, HQ, hwc⟩ := hcut
    have hz : wc.heap.size = w.heap.size := by rw [hwc]; simp [World.setCell]
    have HW : Hid (wc = w.setCell ⟨T, 133, none⟩ (.int .u32 (s + 1))) := hwc
    clear hwc
    have hd : decide ((0 : Int) < q) = true := by simp; omega
    have hd2 : decide (0 < q) = true := by simp; omega
    have hmk := fun w => run_make_row' (P := Yba.prog) 99 117 (.pointer none) 8 Yba.underlying99 info117 rfl .i64 .i64 q (by omega) (by omega) w
    have hcp := fun (w : World) (ty : TypeId) (a : Addr) (l c : Nat) => run_copy_nil Yba.prog w 99 99 ty 117 a l c Yba.underlying99 (by kernel_rfl)
    go_wp2_with fail
    generalize hR : w.heap.size = R at *
    go_loopw [10] (fun i wr => ∃ k : Nat, k ≤ q ∧ i = .int .i64 k ∧ GrowTo R q wr ∧ Below R wc wr) (fun i _ => q - (intOf i).toNat)
    case atStart => exact ⟨0, Nat.zero_le _, rfl, GrowTo.start hz, ((Below.refl _ _).alloc (by omega) _).alloc (by simp; omega) _⟩
    case round =>
      obtain ⟨k, hk, rfl, hg, hb⟩ := hrel
      have HG : Hid _ := hg
      have gv := hg.var
      by_cases hlt : k < q
      · obtain ⟨u, gu⟩ := hg.cell k hlt
        have gf := hg.fz k
        have gsz := hg.size
        clear hg
        go_wp2_with (refine wpList_new rfl 122 rfl _ (hnew _) ?_)
        go_roundw
        case rel => exact ⟨k + 1, by omega, by go_num, GrowTo.step HG.out hlt _ _, (hb.alloc (by omega) _).setCell (by exact Nat.le_refl _) _⟩
        case measure => simp [intOf]; omega
      · have gsz := hg.size
        have gh := hg.vblk
        clear hg
        have ht0 : wr.cell? ⟨T, 0, none⟩ = some (.pointer none) := by
          rw [hb.cell (p := ⟨T, 0, none⟩) (by exact hT), HW.out, World.cell?_setCell_other _ _ _ _ (by simp)]; exact h0
        have htf : ∀ j, wr.frozen? ⟨T, j, none⟩ = false := fun j => by
          rw [hb.frozen (p := ⟨T, j, none⟩) (by exact hT), HW.out, World.frozen?_setCell]; exact hf j
        have HF : Hid _ := htf
        have H0 : Hid _ := ht0
        have HV : Hid _ := gh
        clear htf ht0 gh hmk hcp hnew
        go_wp2_with fail
        refine (storeP ⟨T, 0, none⟩ (R + 1) _ _ _ H0.out (HF.out _) HV.out).mono ?_
        rintro e w3 ⟨rfl, rfl⟩
        go_wp2
        go_ret
        refine ⟨rfl, R + 1, R, World.cell?_setCell_same _ _ _ H0.out, ?_, ?_, fun j h1 h2 => ?_, fun j => ?_, ?_⟩
        · rw [Below.heap_setCell _ _ _ _ (by simp; omega), ← HQ.out]; exact HV.out
        · rw [World.cell?_setCell_other _ _ _ _ (by simp), hb.cell (p := ⟨T, 133, none⟩) (by exact hT), HW.out]
          exact World.cell?_setCell_same _ _ _ h133
        · rw [World.cell?_setCell_other _ _ _ _ (by simp), hb.cell (p := ⟨T, j, none⟩) (by exact hT), HW.out, World.cell?_setCell_other _ _ _ _ (by simp)]
        · rw [World.frozen?_setCell]; exact HF.out j
        · have b1 : Below T w wc := by rw [HW.out]; exact (Below.refl _ _).setCell (by exact Nat.le_refl _) _
          exact (b1.trans (hb.mono (by omega))).setCell (by exact Nat.le_refl _) _
end Go.Proofs.Ybulkbyzk
