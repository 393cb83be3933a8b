/-
  OWN WORK, after the guide's PortFmt / PortWalks: the closed facts for a walk over fmt's stopped front, and fmt.Errorf by contract, WHATEVER THE FORMAT that prints its operands under %d (or one under %w).
-/
import Derived.Test.YbulkbzbaFmtBin
import Derived.Stop.CallBack
import Derived.Stop.IfaceNil
import Derived.BigCall
import GoSem.ClaimData
namespace Go.Proofs.YbulkbzbaFmt
open Go.RowKit Go.Extern.Stop Go.Stop Go.Extern

@[local go_sem] theorem call23 (args : Array Value) (w : World) : (callFunc 23 args).run Ybaf.prog w = (FmtCalls.errorf #[9, 85] #[53] args).run Ybaf.prog w :=
  run_callFunc_next Ybaf.func23 (by kernel_rfl) (by kernel_rfl) (by kernel_rfl) args w
@[local go_sem] theorem fguard (name : String) (w : World) : (FmtStop.guard name).run Ybaf.prog w = .ok () w := by kernel_rfl
theorem nextTurns : Extern.next FmtCalls.turnsRow = some (FmtCalls.begun #[] #[]) := by kernel_rfl
def shape2 : List UInt8 := [5, 5, 0, 0, 0, 0, 0, 0, 0, 105, 110, 116, 54, 52]
def shape23 : List UInt8 := [8, 6, 0, 0, 0, 0, 0, 0, 0, 117, 105, 110, 116, 51, 50]
@[local go_sem] theorem act2 (name : String) (x : Value) (w : World) : (FmtCalls.act name true 100 false (.iface 2 x)).run Ybaf.prog w = .ok (.closed true) w := by kernel_rfl
@[local go_sem] theorem act23 (name : String) (x : Value) (w : World) : (FmtCalls.act name true 100 false (.iface 23 x)).run Ybaf.prog w = .ok (.closed true) w := by kernel_rfl
@[local go_sem] theorem act92 (name : String) (x : Value) (w : World) : (FmtCalls.act name true 119 false (.iface 92 x)).run Ybaf.prog w = .ok (.closed true) w := by kernel_rfl
@[local go_sem] theorem op2 (name : String) (x : Int) (w : World) : (FmtStop.operand name true 100 false (.iface 2 (.int .i64 x))).run Ybaf.prog w = .ok (shape2, Go.Extern.Stop.digits 8 (x % 2 ^ 64).toNat) w := by kernel_rfl
@[local go_sem] theorem op23 (name : String) (x : Int) (w : World) : (FmtStop.operand name true 100 false (.iface 23 (.int .u32 x))).run Ybaf.prog w = .ok (shape23, Go.Extern.Stop.digits 8 (x % 2 ^ 64).toNat) w := by kernel_rfl
def plain92 : List UInt8 := 14 :: FmtStop.pack "*errors.errorString".toUTF8.data.toList
theorem op92 (name : String) (a : Addr) (s : ByteArray) (w : World) (hc : w.cell? a = some (.string s)) :
    (FmtStop.operand name true 119 false (.iface 92 (.pointer (some a)))).run Ybaf.prog w = .ok (plain92, s.data.toList) w := by
  have h1 : (typeStr 92).run Ybaf.prog w = .ok "*errors.errorString" w := by kernel_rfl
  have d2 : Ybaf.t92.desc = .pointer 94 := rfl
  have d3 : Ybaf.t94.desc = .named "errors.errorString" 93 := rfl
  simp [FmtStop.operand, h1, d2, d3, run_load, hc, plain92]
@[local go_sem] theorem ptr92 (w : World) : (FmtStop.ptrTo "errors.errorString").run Ybaf.prog w = .ok 92 w := by kernel_rfl
@[local go_sem] theorem elem92 (w : World) : (elemOf 92).run Ybaf.prog w = .ok 94 w := by kernel_rfl
@[local go_sem] theorem ptr87 (w : World) : (FmtStop.ptrTo "fmt.wrapError").run Ybaf.prog w = .ok 87 w := by kernel_rfl
@[local go_sem] theorem elem87 (w : World) : (elemOf 87).run Ybaf.prog w = .ok 314 w := by kernel_rfl
@[local go_sem] theorem isError92 (w : World) : (FmtDoors.textMethod 92 "Error").run Ybaf.prog w = .ok true w := by kernel_rfl

theorem new_cell (w : World) (v : Value) (ty : TypeId) : (w.alloc (.cells #[v] ty)).cell? ⟨w.heap.size, 0, none⟩ = some v := by
  have h := heap_alloc_new w (.cells #[v] ty)
  simp only [World.cell?, h]; rfl

/-- An error of errors.New's or fmt.Errorf's plain make, its text in memory. -/
def IsErr (v : Value) (w : World) : Prop := ∃ a t, v = .iface 92 (.pointer (some a)) ∧ w.cell? a = some (.string t)

set_option maxHeartbeats 800000 in
theorem errorf_d1 (F : Interp) (f : ByteArray) (hp : ∀ w, (FmtDoors.printed f 1).run Ybaf.prog w = .ok [(0, 100, false)] w) (blk : Nat) (x : Int) (w : World) (hF : F.answers w.tape) (hc0 : w.cell? ⟨blk, 0, none⟩ = some (.iface 2 (.int .i64 x))) :
    Calls Ybaf.prog 13 #[.string f, .slice (some ⟨blk, 0, none⟩) 1 1] w fun e w' => ∃ v, e = .returned v ∧ IsErr v w' ∧ Below w.heap.size w w' := by
  have hF' := answers_open hF
  go_enter Ybaf.func13, Ybaf.ntmps13
  go_wp2
  apply rows_value nextTurns
  case hr =>
    go_simp
    exact ⟨rfl, rfl⟩
  case h =>
    go_wp2
    go_ret
    exact ⟨_, rfl, ⟨_, _, rfl, by rw [World.cell?_drew]; exact new_cell _ _ _⟩, ((Below.refl _ _).alloc (Nat.le_refl _) _).drew⟩

set_option maxHeartbeats 800000 in
theorem errorf_d2 (F : Interp) (f : ByteArray) (hp : ∀ w, (FmtDoors.printed f 2).run Ybaf.prog w = .ok [(0, 100, false), (1, 100, false)] w) (blk : Nat) (x y : Int) (w : World) (hF : F.answers w.tape) (hc0 : w.cell? ⟨blk, 0, none⟩ = some (.iface 2 (.int .i64 x))) (hc1 : w.cell? ⟨blk, 1, none⟩ = some (.iface 2 (.int .i64 y))) :
    Calls Ybaf.prog 13 #[.string f, .slice (some ⟨blk, 0, none⟩) 2 2] w fun e w' => ∃ v, e = .returned v ∧ IsErr v w' ∧ Below w.heap.size w w' := by
  have hF' := answers_open hF
  skip
  go_enter Ybaf.func13, Ybaf.ntmps13
  go_wp2
  apply rows_value nextTurns
  case hr =>
    go_simp
    exact ⟨rfl, rfl⟩
  case h =>
    go_wp2
    go_ret
    exact ⟨_, rfl, ⟨_, _, rfl, by rw [World.cell?_drew]; exact new_cell _ _ _⟩, ((Below.refl _ _).alloc (Nat.le_refl _) _).drew⟩

set_option maxHeartbeats 800000 in
theorem errorf_u2 (F : Interp) (f : ByteArray) (hp : ∀ w, (FmtDoors.printed f 2).run Ybaf.prog w = .ok [(0, 100, false), (1, 100, false)] w) (blk : Nat) (x y : Int) (w : World) (hF : F.answers w.tape) (hc0 : w.cell? ⟨blk, 0, none⟩ = some (.iface 23 (.int .u32 x))) (hc1 : w.cell? ⟨blk, 1, none⟩ = some (.iface 23 (.int .u32 y))) :
    Calls Ybaf.prog 13 #[.string f, .slice (some ⟨blk, 0, none⟩) 2 2] w fun e w' => ∃ v, e = .returned v ∧ IsErr v w' ∧ Below w.heap.size w w' := by
  have hF' := answers_open hF
  skip
  go_enter Ybaf.func13, Ybaf.ntmps13
  go_wp2
  apply rows_value nextTurns
  case hr =>
    go_simp
    exact ⟨rfl, rfl⟩
  case h =>
    go_wp2
    go_ret
    exact ⟨_, rfl, ⟨_, _, rfl, by rw [World.cell?_drew]; exact new_cell _ _ _⟩, ((Below.refl _ _).alloc (Nat.le_refl _) _).drew⟩

set_option maxHeartbeats 800000 in
theorem errorf_w1 (F : Interp) (f : ByteArray) (hp : ∀ w, (FmtDoors.printed f 1).run Ybaf.prog w = .ok [(0, 119, false)] w) (blk : Nat) (x : Value) (w : World) (hF : F.answers w.tape) (hc0 : w.cell? ⟨blk, 0, none⟩ = some x) (hx : IsErr x w) :
    Calls Ybaf.prog 13 #[.string f, .slice (some ⟨blk, 0, none⟩) 1 1] w fun e w' => ∃ v, e = .returned v ∧ (∃ a, v = .iface 87 (.pointer (some a))) ∧ Below w.heap.size w w' := by
  have hF' := answers_open hF
  obtain ⟨a, t, rfl, ht⟩ := hx
  have hop := op92 "fmt.errorf" a t w ht
  go_enter Ybaf.func13, Ybaf.ntmps13
  go_wp2
  apply rows_value nextTurns
  case hr =>
    go_simp
    exact ⟨rfl, rfl⟩
  case h =>
    go_wp2
    go_ret
    exact ⟨_, rfl, ⟨_, rfl⟩, ((Below.refl _ _).alloc (Nat.le_refl _) _).drew⟩

/-- errors.New. -/
theorem new_any (t : ByteArray) (w : World) : Calls Ybaf.prog 24 #[.string t] w fun e w' => ∃ v, e = .returned v ∧ IsErr v w' ∧ Below w.heap.size w w' := by
  go_enter Ybaf.func24, Ybaf.ntmps24
  go_wp2
  go_ret
  exact ⟨_, rfl, ⟨_, t, rfl, new_cell _ _ _⟩, (Below.refl _ _).alloc (Nat.le_refl _) _⟩
end Go.Proofs.YbulkbzbaFmt
