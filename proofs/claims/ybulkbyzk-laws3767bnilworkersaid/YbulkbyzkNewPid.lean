/-
  OWN WORK. THE WALKS of zzs3767bchunksok and of (*procTable).newPID without a worker.
-/
import Derived.Test.YbulkbyzkTable
import Derived.Test.YbulkbyzkLocks
import Derived.Conc.MuLone
namespace Go.Proofs.Ybulkbyzk
open Go.RowKit Go.MuLone

theorem loadP_some (a : Addr) (V : Nat) (v : Value) (w : World) (hc : w.cell? a = some (.pointer (some ⟨V, 0, none⟩))) (hV : w.heap[V]? = some (.cells #[v] 99 (0, 0))) :
    Calls Yba.prog 15 #[.pointer (some a)] w fun e w' => e = .returned (.pointer (some ⟨V, 0, none⟩)) ∧ w' = w := by
  have hl := run_call_loadP (P := Yba.prog) Yba.func26 (by kernel_rfl) (by kernel_rfl) (by kernel_rfl) (by kernel_rfl) hc
  have hcv := run_conv_from V v w hV
  clear hV
  go_enter Yba.func15, Yba.ntmps15
  go_wp2
  go_ret
  exact ⟨rfl, rfl⟩

set_option maxRecDepth 20000 in
theorem chunks_ok (T V R s : Nat) (w : World) (hs : s ≤ 65535) (h0 : w.cell? ⟨T, 0, none⟩ = some (.pointer (some ⟨V, 0, none⟩))) (hV : w.heap[V]? = some (.cells #[.slice (some ⟨R, 0, none⟩) ((s + 4096) / 4096) ((s + 4096) / 4096)] 99 (0, 0))) :
    Calls Yba.prog 16 #[.pointer (some ⟨T, 0, none⟩), .int .i64 (s + 1)] w fun e w' => e = .returned (.bool true) ∧ w' = w := by
  have hc : w.cell? ⟨V, 0, none⟩ = some (.slice (some ⟨R, 0, none⟩) ((s + 4096) / 4096) ((s + 4096) / 4096)) := by simp [World.cell?, hV]
  have hd : (((s : Int) / 4096 + 1) == ((s : Int) + 1 + 4096 - 1) / 4096) = true := by simp; omega
  have HV : Hid _ := hV
  clear hV
  go_enter Yba.func16, Yba.ntmps16
  go_wp2_with fail
  refine (loadP_some ⟨T, 0, none⟩ V _ _ h0 HV.out).mono ?_
  rintro e w1 ⟨rfl, rfl⟩
  go_wp2
  go_ret
  exact ⟨rfl, rfl⟩

set_option maxHeartbeats 800000 in
/-- newPID(nil), a PID free: the last one. -/
theorem newpid_take (T g m c : Nat) (v : Int) (w : World) (hTg : ¬ T = g) (hm : m ≤ 1024) (hc : m + 1 ≤ c) (h130 : w.cell? ⟨T, 130, none⟩ = some (.int .i32 0)) (h132 : w.cell? ⟨T, 132, none⟩ = some (.slice (some ⟨g, 0, none⟩) (m + 1) c))
    (hg : w.cell? ⟨g, m, none⟩ = some (.int .u64 v)) (hf : ∀ j, w.frozen? ⟨T, j, none⟩ = false) :
    Calls Yba.prog 13 #[.pointer (some ⟨T, 0, none⟩), .pointer none] w fun e w' => e = .returned (.int .u64 v) ∧
      w' = ((w.setCell ⟨T, 130, none⟩ (.int .i32 1)).setCell ⟨T, 132, none⟩ (.slice (some ⟨g, 0, none⟩) m c)).setCell ⟨T, 130, none⟩ (.int .i32 0) := by
  go_enter_defers Yba.func13, Yba.ntmps13
  go_wp2_with fail
  refine (lock_free Yba.muLib ⟨T, 130, none⟩ _ h130 (hf _)).mono ?_
  rintro e w1 ⟨rfl, rfl⟩
  go_wp2_with fail
  refine (take_one T g m c _ hm (by go_simp) hc (by go_simp)).mono ?_
  rintro e w2 ⟨rfl, rfl⟩
  go_wp2
  refine leaves_cons (f := 21) (args := #[.pointer (some ⟨T, 130, none⟩)]) (by simp) (by simp [go_sem]) ?_
  refine (unlock_deferred Yba.muLib ⟨T, 130, none⟩ .returning _ (by go_simp) (by go_simp)).mono ?_
  rintro e u' w'' ⟨rfl, rfl, rfl⟩
  exact ⟨_, results_tmp rfl _ _ _, rfl, rfl⟩

set_option maxRecDepth 20000 in
set_option maxHeartbeats 800000 in
/-- newPID(nil), none free: the table grows by one slot. -/
theorem newpid_grow (T s : Nat) (a : Option Addr) (c : Nat) (w : World) (hT : T < w.heap.size) (hs : s ≤ 65535) (h0 : w.cell? ⟨T, 0, none⟩ = some (.pointer none)) (h130 : w.cell? ⟨T, 130, none⟩ = some (.int .i32 0))
    (h132 : w.cell? ⟨T, 132, none⟩ = some (.slice a 0 c)) (h133 : w.cell? ⟨T, 133, none⟩ = some (.int .u32 s)) (hf : ∀ j, w.frozen? ⟨T, j, none⟩ = false) :
    Calls Yba.prog 13 #[.pointer (some ⟨T, 0, none⟩), .pointer none] w fun e w' => e = .returned (.int .u64 (s + 1)) ∧ ∃ V R : Nat,
      w'.cell? ⟨T, 0, none⟩ = some (.pointer (some ⟨V, 0, none⟩)) ∧ w'.heap[V]? = some (.cells #[.slice (some ⟨R, 0, none⟩) ((s + 4096) / 4096) ((s + 4096) / 4096)] 99 (0, 0)) ∧
      w'.cell? ⟨T, 133, none⟩ = some (.int .u32 (s + 1)) ∧ w'.cell? ⟨T, 132, none⟩ = some (.slice a 0 c) ∧ Below T w w' := by
  go_enter_defers Yba.func13, Yba.ntmps13
  go_wp2_with fail
  refine (lock_free Yba.muLib ⟨T, 130, none⟩ _ h130 (hf _)).mono ?_
  rintro e w1 ⟨rfl, rfl⟩
  go_wp2_with fail
  refine (take_none T a c _ (by go_simp) (by go_simp)).mono ?_
  rintro e w2 ⟨rfl, rfl⟩
  go_wp2_with fail
  refine (grow_one T s _ (by simpa [World.setCell] using hT) hs (by go_simp) (by go_simp) (by intro j; go_simp)).mono ?_
  rintro e w3 ⟨rfl, V, R, g0, gV, g133, gj, gf, gb⟩
  have g130 : w3.cell? ⟨T, 130, none⟩ = some (.int .i32 1) := by rw [gj 130 (by omega) (by omega)]; go_simp
  have g132 : w3.cell? ⟨T, 132, none⟩ = some (.slice a 0 c) := by rw [gj 132 (by omega) (by omega)]; go_simp
  have gT : ¬ V = T := by
    intro e
    subst e
    simp [World.cell?, gV] at g133
  have H : Hid _ := And.intro g0 (And.intro gV (And.intro g133 (And.intro gb (And.intro g132 gT))))
  clear g0 gV g133 gb gj g132 gT
  go_wp2
  refine leaves_cons (f := 21) (args := #[.pointer (some ⟨T, 130, none⟩)]) (by simp) (by simp [go_sem]) ?_
  refine (unlock_deferred Yba.muLib ⟨T, 130, none⟩ .returning _ g130 (gf _)).mono ?_
  rintro e u' w'' ⟨rfl, rfl, rfl⟩
  obtain ⟨g0, gV, g133, gb, g132, gT⟩ := H.out
  refine ⟨_, results_tmp rfl _ _ _, rfl, V, R, ?_, ?_, ?_, ?_, ?_⟩
  · rw [World.cell?_setCell_other _ _ _ _ (by simp)]; exact g0
  · rw [Below.heap_setCell _ _ _ _ (by exact gT)]; exact gV
  · rw [World.cell?_setCell_other _ _ _ _ (by simp)]; exact g133
  · rw [World.cell?_setCell_other _ _ _ _ (by simp)]; exact g132
  · exact ((((Below.refl _ _).setCell (by exact Nat.le_refl _) _).setCell (by exact Nat.le_refl _) _).trans gb).setCell (by exact Nat.le_refl _) _
end Go.Proofs.Ybulkbyzk
