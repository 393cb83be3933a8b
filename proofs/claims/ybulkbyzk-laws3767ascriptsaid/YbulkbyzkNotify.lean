/-
  OWN WORK. THE WALKS of (*Scheduler).popIdle and (*Scheduler).notify, one goroutine: the scheduler at block S, its idle list in block J.
-/
import Derived.Test.YbulkbyzkRows
import Derived.Test.YbulkbyzkAtoms
import Derived.Test.YbulkbyzkLocks
import Derived.Test.YbulkbyzkComm
import Derived.Test.YbulkbyzkHeap
import Derived.Conc.MuLone
import Derived.WalkKit
import Derived.Deep.Cut
namespace Go.Proofs.Ybulkbyzk
open Go.RowKit Go.MuLone

set_option maxHeartbeats 400000 in
theorem pop_none (S : Nat) (a : Option Addr) (n : Nat) (w : World) (h541 : w.cell? ⟨S, 541, none⟩ = some (.slice a 0 n)) :
    Calls Yba.prog 20 #[.pointer (some ⟨S, 0, none⟩)] w fun e w' => e = .returned (.pointer none) ∧ w' = w := by
  go_enter Yba.func20, Yba.ntmps20
  go_wp2
  go_ret
  exact ⟨rfl, rfl⟩

set_option maxHeartbeats 400000 in
theorem pop_some (S J k n : Nat) (p : Option Addr) (u : Value) (w : World) (hJ : ¬ S = J) (hkn : k + 1 ≤ n) (hn : n ≤ 1024)
    (h541 : w.cell? ⟨S, 541, none⟩ = some (.slice (some ⟨J, 0, none⟩) (k + 1) n)) (hp : w.cell? ⟨J, k, none⟩ = some (.pointer p)) (h142 : w.cell? ⟨S, 142, none⟩ = some u)
    (fS : ∀ j, w.frozen? ⟨S, j, none⟩ = false) (fJ : ∀ j, w.frozen? ⟨J, j, none⟩ = false) :
    Calls Yba.prog 20 #[.pointer (some ⟨S, 0, none⟩)] w fun e w' => e = .returned (.pointer p) ∧
      w' = ((w.setCell ⟨J, k, none⟩ (.pointer none)).setCell ⟨S, 541, none⟩ (.slice (some ⟨J, 0, none⟩) k n)).setCell ⟨S, 142, none⟩ (.int .i32 k) := by
  go_enter Yba.func20, Yba.ntmps20
  go_wp2_with fail
  refine (atom_store ⟨S, 142, none⟩ k u _ ?_ ?_).mono ?_
  · exact (World.cell?_setCell_other _ ⟨S, 541, none⟩ ⟨S, 142, none⟩ _ (by simp)).trans ((World.cell?_setCell_other _ ⟨J, k, none⟩ ⟨S, 142, none⟩ _ (by simp)).trans h142)
  · simp [fS]
  rintro e w' ⟨rfl, rfl⟩
  go_wp2
  go_ret
  exact ⟨rfl, rfl⟩

/-- notify where nobody is parked by the count, or a worker searches already: nothing. -/
theorem notify_idle0 (S : Nat) (nid : Int) (w : World) (h142 : w.cell? ⟨S, 142, none⟩ = some (.int .i32 nid)) (h0 : (nid == 0) = true) :
    Calls Yba.prog 9 #[.pointer (some ⟨S, 0, none⟩)] w fun e w' => e = .returned (.tuple #[]) ∧ w' = w := by
  go_enter Yba.func9, Yba.ntmps9
  go_wp2_with (go_at_call 10; refine (atom_load _ _ _ h142).mono ?_; rintro e w' ⟨rfl, rfl⟩)
  refine bodyPost_ret (results_none rfl _ _ _) rfl ?_
  exact ⟨rfl, rfl⟩
theorem notify_idle1 (S : Nat) (nid spin : Int) (w : World) (h142 : w.cell? ⟨S, 142, none⟩ = some (.int .i32 nid)) (h141 : w.cell? ⟨S, 141, none⟩ = some (.int .i32 spin)) (h0 : (nid == 0) = false) (h1 : (spin != 0) = true) :
    Calls Yba.prog 9 #[.pointer (some ⟨S, 0, none⟩)] w fun e w' => e = .returned (.tuple #[]) ∧ w' = w := by
  go_enter Yba.func9, Yba.ntmps9
  go_wp2_with fail
  refine (atom_load _ _ _ h142).mono ?_
  rintro e w' ⟨rfl, rfl⟩
  go_wp2_with fail
  refine (atom_load _ _ _ h141).mono ?_
  rintro e w' ⟨rfl, rfl⟩
  go_wp2_with fail
  refine bodyPost_ret (results_none rfl _ _ _) rfl ?_
  exact ⟨rfl, rfl⟩

set_option maxHeartbeats 400000 in
/-- Nobody is on the list though the count says so: the lock is taken and let go, spinning is back at 0. -/
theorem notify_none (S : Nat) (nid : Int) (a : Option Addr) (n : Nat) (w : World) (h142 : w.cell? ⟨S, 142, none⟩ = some (.int .i32 nid)) (h141 : w.cell? ⟨S, 141, none⟩ = some (.int .i32 0)) (h0 : (nid == 0) = false)
    (h538 : w.cell? ⟨S, 538, none⟩ = some (.int .i32 0)) (h541 : w.cell? ⟨S, 541, none⟩ = some (.slice a 0 n)) (fS : ∀ j, w.frozen? ⟨S, j, none⟩ = false) :
    Calls Yba.prog 9 #[.pointer (some ⟨S, 0, none⟩)] w fun e w' => e = .returned (.tuple #[]) ∧
      w' = (((w.setCell ⟨S, 141, none⟩ (.int .i32 1)).setCell ⟨S, 538, none⟩ (.int .i32 1)).setCell ⟨S, 538, none⟩ (.int .i32 0)).setCell ⟨S, 141, none⟩ (.int .i32 0) := by
  have hnot : ∀ (x : Bool) (w : World), (Op.unary .not (.bool x)).run Yba.prog w = .ok (.bool (!x)) w := fun _ _ => rfl
  go_enter Yba.func9, Yba.ntmps9
  go_wp2_with fail
  refine (atom_load _ _ _ h142).mono ?_
  rintro e w' ⟨rfl, rfl⟩
  go_wp2_with fail
  refine (atom_load _ _ _ h141).mono ?_
  rintro e w' ⟨rfl, rfl⟩
  go_wp2_with fail
  refine (atom_cas ⟨S, 141, none⟩ 0 1 _ h141 (fS _)).mono ?_
  rintro e w' ⟨rfl, rfl⟩
  go_wp2_with fail
  refine (lock_free Yba.muLib ⟨S, 538, none⟩ _ (by go_simp) (by go_simp)).mono ?_
  rintro e w' ⟨rfl, rfl⟩
  go_wp2_with fail
  refine (pop_none S a n _ (by go_simp)).mono ?_
  rintro e w' ⟨rfl, rfl⟩
  go_wp2_with fail
  refine (unlock_held Yba.muLib ⟨S, 538, none⟩ _ (by go_simp) (by go_simp)).mono ?_
  rintro e w' ⟨rfl, rfl⟩
  go_wp2_with fail
  refine (atom_add ⟨S, 141, none⟩ 1 (-1) 0 _ (by decide) (by go_simp) (by go_simp)).mono ?_
  rintro e w' ⟨rfl, rfl⟩
  go_wp2
  go_end0
  exact ⟨rfl, rfl⟩

set_option maxHeartbeats 400000 in
/-- The worker parked last is taken off the list and sent one false. -/
theorem notify_wake (S J k n b c : Nat) (nid : Int) (w : World) (hJ : ¬ S = J) (hkn : k + 1 ≤ n) (hn : n ≤ 1024)
    (h142 : w.cell? ⟨S, 142, none⟩ = some (.int .i32 nid)) (h141 : w.cell? ⟨S, 141, none⟩ = some (.int .i32 0)) (h0 : (nid == 0) = false)
    (h538 : w.cell? ⟨S, 538, none⟩ = some (.int .i32 0)) (h541 : w.cell? ⟨S, 541, none⟩ = some (.slice (some ⟨J, 0, none⟩) (k + 1) n))
    (hp : w.cell? ⟨J, k, none⟩ = some (.pointer (some ⟨b, 0, none⟩))) (hb : w.cell? ⟨b, 31, none⟩ = some (.chan (some c))) (hbS : ¬ b = S) (hbJ : ¬ b = J)
    (hc : w.heap[c]? = some (.chan 1 #[] false 0 0 false)) (hcS : ¬ c = S) (hcJ : ¬ c = J)
    (fS : ∀ j, w.frozen? ⟨S, j, none⟩ = false) (fJ : ∀ j, w.frozen? ⟨J, j, none⟩ = false) :
    Calls Yba.prog 9 #[.pointer (some ⟨S, 0, none⟩)] w fun e w' => e = .returned (.tuple #[]) ∧
      w' = (((((((w.setCell ⟨S, 141, none⟩ (.int .i32 1)).setCell ⟨S, 538, none⟩ (.int .i32 1)).setCell ⟨J, k, none⟩ (.pointer none)).setCell ⟨S, 541, none⟩ (.slice (some ⟨J, 0, none⟩) k n)).setCell ⟨S, 142, none⟩ (.int .i32 k)).setChan c 1 #[.bool false] false 1 0 false).setCell ⟨S, 538, none⟩ (.int .i32 0)) := by
  have hnot : ∀ (x : Bool) (w : World), (Op.unary .not (.bool x)).run Yba.prog w = .ok (.bool (!x)) w := fun _ _ => rfl
  go_enter Yba.func9, Yba.ntmps9
  go_wp2_with fail
  refine (atom_load _ _ _ h142).mono ?_
  rintro e w' ⟨rfl, rfl⟩
  go_wp2_with fail
  refine (atom_load _ _ _ h141).mono ?_
  rintro e w' ⟨rfl, rfl⟩
  go_wp2_with fail
  refine (atom_cas ⟨S, 141, none⟩ 0 1 _ h141 (fS _)).mono ?_
  rintro e w' ⟨rfl, rfl⟩
  go_wp2_with fail
  refine (lock_free Yba.muLib ⟨S, 538, none⟩ _ (by go_simp) (by go_simp)).mono ?_
  rintro e w' ⟨rfl, rfl⟩
  go_wp2_with fail
  refine (pop_some S J k n (some ⟨b, 0, none⟩) (.int .i32 nid) _ hJ hkn hn (by go_simp) (by go_simp) (by go_simp) (by intro j; go_simp) (by intro j; go_simp)).mono ?_
  rintro e w' ⟨rfl, rfl⟩
  go_upto_region 4 with fail
  refine InReg.region ?_
  show InReg _ _ _ [0, 1, 2, 3, 4] _ _
  refine InReg.same (.pointer (some ⟨b, 0, none⟩)) rfl rfl (by go_simp) ?_
  refine InReg.same (.pointer (some ⟨b, 0, none⟩)) rfl rfl (by go_simp) ?_
  refine InReg.same (.pointer (some ⟨b, 31, none⟩)) rfl rfl (by go_simp) ?_
  refine InReg.same (.chan (some c)) rfl rfl (by go_simp) ?_
  refine InReg.send (c := c) (v := .bool false) (z := .tuple #[]) rfl rfl rfl (cap := 1) (buf := #[]) (s := 0) (r := 0) (tm := false) ?_ (by simp) ?_
  · rw [Below.heap_setCell _ _ _ _ (by exact hcS), Below.heap_setCell _ _ _ _ (by exact hcS), Below.heap_setCell _ _ _ _ (by exact hcJ), Below.heap_setCell _ _ _ _ (by exact hcS), Below.heap_setCell _ _ _ _ (by exact hcS)]
    exact hc
  refine InReg.nil ?_
  go_wp2_with fail
  refine (unlock_held Yba.muLib ⟨S, 538, none⟩ _ ?_ ?_).mono ?_
  · rw [cell_setChan _ _ _ _ _ _ _ _ _ (fun e => hcS e.symm)]
    go_simp
  · rw [frozen_setChan _ _ _ _ _ _ _ _ _ (fun e => hcS e.symm)]
    go_simp
  rintro e w' ⟨rfl, rfl⟩
  go_wp2
  go_end0
  exact ⟨rfl, rfl⟩
end Go.Proofs.Ybulkbyzk
