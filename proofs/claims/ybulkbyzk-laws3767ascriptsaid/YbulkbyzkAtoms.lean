import Derived.Test.YbulkbyzkRows
import Derived.WalkKit
namespace Go.Proofs.Ybulkbyzk
open Go.RowKit

theorem atom_load (a : Addr) (x : Int) (w : World) (hc : w.cell? a = some (.int .i32 x)) :
    Calls Yba.prog 10 #[.pointer (some a)] w fun e w' => e = .returned (.int .i32 x) ∧ w' = w := by
  have hl := run_call_load (P := Yba.prog) Yba.func22 (by kernel_rfl) (by kernel_rfl) (by kernel_rfl) .i32 (by kernel_rfl) hc
  go_enter Yba.func10, Yba.ntmps10
  go_wp2
  go_ret
  exact ⟨rfl, rfl⟩

theorem atom_store (a : Addr) (x : Int) (v : Value) (w : World) (hc : w.cell? a = some v) (hz : w.frozen? a = false) :
    Calls Yba.prog 8 #[.pointer (some a), .int .i32 x] w fun e w' => e = .returned (.tuple #[]) ∧ w' = w.setCell a (.int .i32 x) := by
  have hl := run_call_store (P := Yba.prog) Yba.func17 (by kernel_rfl) (by kernel_rfl) (by kernel_rfl) (by kernel_rfl) (k := .i32) (y := x) hc hz
  go_enter Yba.func8, Yba.ntmps8
  go_wp2
  go_end0
  exact ⟨rfl, rfl⟩
end Go.Proofs.Ybulkbyzk
namespace Go.Proofs.Ybulkbyzk
open Go.RowKit
theorem atom_add (a : Addr) (x d s : Int) (w : World) (hs : s = IntKind.wrap .i32 (x + d)) (hc : w.cell? a = some (.int .i32 x)) (hz : w.frozen? a = false) :
    Calls Yba.prog 11 #[.pointer (some a), .int .i32 d] w fun e w' => e = .returned (.int .i32 s) ∧ w' = w.setCell a (.int .i32 s) := by
  have hl := run_call_add (P := Yba.prog) Yba.func23 (by kernel_rfl) (by kernel_rfl) (by kernel_rfl) .i32 (by kernel_rfl) (y := d) (s := s) hc hz (by simp [go_sem, hs])
  clear hs
  go_enter Yba.func11, Yba.ntmps11
  go_wp2
  go_ret
  exact ⟨rfl, rfl⟩
theorem atom_cas (a : Addr) (x y : Int) (w : World) (hc : w.cell? a = some (.int .i32 x)) (hz : w.frozen? a = false) :
    Calls Yba.prog 18 #[.pointer (some a), .int .i32 x, .int .i32 y] w fun e w' => e = .returned (.bool true) ∧ w' = w.setCell a (.int .i32 y) := by
  have hl := run_call_cas_hit (P := Yba.prog) Yba.func27 (by kernel_rfl) (by kernel_rfl) (by kernel_rfl) .i32 (by kernel_rfl) (x := x) (y := y) hc hz
  go_enter Yba.func18, Yba.ntmps18
  go_wp2
  go_ret
  exact ⟨rfl, rfl⟩
end Go.Proofs.Ybulkbyzk
