/-
  OWN WORK. THE WALK of fat.checksum over eleven bytes.
-/
import Derived.Test.YbulkbzbaRows
import Derived.WalkKit
import Derived.WalkSpells
import Derived.WalkSmall
import Derived.WalkLawsBesides
import Derived.OwnWalk
import Derived.Laws.OwnMore
import Derived.Deep.QuietTactic
import Derived.BigQuiet
import Derived.Deep.DeepCutAuto
namespace Go.Proofs.Ybulkbzba
open Go.RowKit

/-- One byte more. -/
def ck (z : Nat → Int) : Nat → Int
  | 0 => 0
  | n + 1 => (ck z n / 2 + ck z n % 2 * 128 + z n) % 256
theorem ck_in (z : Nat → Int) (n : Nat) : 0 ≤ ck z n ∧ ck z n ≤ 255 := by
  cases n with
  | zero => simp [ck]
  | succ n => simp only [ck]; omega
theorem turn (s : Int) (h0 : 0 ≤ s) (h1 : s ≤ 255) : bits BinOp.or IntKind.u8 (s / 2) (s * 128 % 256) = s / 2 + s % 2 * 128 := by
  have : ∀ i : Fin 256, bits BinOp.or IntKind.u8 ((i.val : Int) / 2) ((i.val : Int) * 128 % 256) = (i.val : Int) / 2 + (i.val : Int) % 2 * 128 := by decide +kernel
  have := this ⟨s.toNat, by omega⟩
  simpa [Int.toNat_of_nonneg h0] using this
theorem low (s : Int) (h0 : 0 ≤ s) (h1 : s ≤ 255) : bits BinOp.and IntKind.u8 s 1 = s % 2 := by
  have : ∀ i : Fin 256, bits BinOp.and IntKind.u8 (i.val : Int) 1 = (i.val : Int) % 2 := by decide +kernel
  have := this ⟨s.toNat, by omega⟩
  simpa [Int.toNat_of_nonneg h0] using this

theorem checksum_go (g n cap : Nat) (z : Nat → Int) (hn : 11 ≤ n) (hc : n ≤ cap) (w : World) (hz : ∀ j, j < 11 → w.cell? ⟨g, j, none⟩ = some (.int .u8 (z j))) :
    Calls Yba.prog 4 #[.slice (some ⟨g, 0, none⟩) n cap] w fun e w' => e = .returned (.int .u8 (ck z 11)) ∧ w' = w := by
  have hcap : (11 : Int) ≤ cap := by omega
  go_enter Yba.func4, Yba.ntmps4
  go_wp2
  go_loopw [3, 9] (fun s i wr => ∃ k : Nat, k ≤ 11 ∧ i = .int .i64 k ∧ s = .int .u8 (ck z k) ∧ wr = w) (fun _ i _ => 11 - (intOf i).toNat)
  case atStart => exact ⟨0, by omega, rfl, rfl, rfl⟩
  case round =>
    obtain ⟨k, hk, rfl, rfl, rfl⟩ := hrel
    by_cases hlt : k < 11
    · have c1 := hz k hlt
      obtain ⟨s0, s1⟩ := ck_in z k
      have hs : ck z (k + 1) = (ck z k / 2 + ck z k % 2 * 128 + z k) % 256 := rfl
      generalize ck z k = s at *
      have ht := turn s s0 s1
      go_wp2
      refine ⟨⟨k + 1, by omega, by go_num, by rw [hs], trivial⟩, ?_⟩
      simp [intOf]; omega
    · obtain rfl : k = 11 := by omega
      go_wp2
      go_ret
      exact ⟨rfl, rfl⟩
end Go.Proofs.Ybulkbzba
