/-
  OWN WORK. THE PLAIN LAW: the disk that LawS3770CPartition writes has a master boot record and a boot sector, and the model says yes to its numbers.
-/
import Derived.Test.YbulkbzbaFmtPart
import Derived.Test.YbulkbzbaFmtPut
namespace Go.Proofs.YbulkbzbaFmt
open Go.RowKit

/-- The disk, as written. -/
def disk (z : Nat → Int) (E : Nat) (T st sz : Int) : Nat → Int := up (up (up32 (up32 (up z (E + 4) T) (E + 8) st) (E + 12) sz) 510 85) 511 170

theorem boot_below (z : Nat → Int) (o : Nat) (s p r f zz sec flags root : Int) (i : Nat) (hi : i < o) : boot z o s p r f zz sec flags root i = z i := by
  simp only [boot, boot1, boot2, boot3, boot4, boot5, up16, up32, up]
  repeat rw [if_neg (by omega)]
theorem disk_above (z : Nat → Int) (E : Nat) (T st sz : Int) (i : Nat) (hE : E + 16 ≤ 510) (hi : 512 ≤ i) : disk z E T st sz i = z i := by
  simp only [disk, up32, up]
  repeat rw [if_neg (by omega)]
theorem boot_at (z : Nat → Int) (o : Nat) (s p r f zz sec flags root : Int) (h : Fits s p r f zz sec flags root) : Boot (fun i => boot z o s p r f zz sec flags root (o + i)) s p r f zz sec flags root := by
  obtain ⟨hs, hp, hr, hf, hz, hc, hg, ht⟩ := h
  constructor <;> simp [boot, boot1, boot2, boot3, boot4, boot5, up16, up32, up] <;> omega
theorem boot_disk (z : Nat → Int) (o : Nat) (s p r f zz sec flags root : Int) (h : Fits s p r f zz sec flags root) (E : Nat) (T st sz : Int) (hE : E + 16 ≤ 510) (ho : 512 ≤ o) : Boot (fun i => disk (boot z o s p r f zz sec flags root) E T st sz (o + i)) s p r f zz sec flags root := by
  have e : (fun i => disk (boot z o s p r f zz sec flags root) E T st sz (o + i)) = fun i => boot z o s p r f zz sec flags root (o + i) := by
    funext i
    exact disk_above _ _ _ _ _ _ hE (by omega)
  rw [e]
  exact boot_at _ _ _ _ _ _ _ _ _ _ h
theorem disk_below (z : Nat → Int) (o : Nat) (s p r f zz sec flags root : Int) (E : Nat) (T st sz : Int) (i : Nat) (hi : i < o) : disk (boot z o s p r f zz sec flags root) E T st sz i = disk z E T st sz i := by
  simp only [disk, up32, up, boot_below z o s p r f zz sec flags root i hi]
theorem mbr0 (K : Nat) (hK : K < 4) (T st sz : Int) (hT : T = 11 ∨ T = 12) (h1 : 1 ≤ st ∧ st ≤ 4294967295) (h2 : 1 ≤ sz ∧ sz ≤ 4294967295) : Mbr (disk (fun _ => 0) (446 + 16 * K) T st sz) K st sz := by
  have hk' : K = 0 ∨ K = 1 ∨ K = 2 ∨ K = 3 := by omega
  refine ⟨?_, hK, fun k hk => ?_, ?_, ?_, ?_, h1, h2⟩
  · rcases hk' with rfl | rfl | rfl | rfl <;> constructor <;> simp [disk, up32, up]
  · simp only [disk, up32, up]
    repeat rw [if_neg (by omega)]
    omega
  · simp only [disk, up32, up]
    repeat rw [if_neg (by omega)]
    rw [if_pos (by omega)]
    exact hT
  · rcases hk' with rfl | rfl | rfl | rfl <;> simp [disk, up32, up] <;> omega
  · rcases hk' with rfl | rfl | rfl | rfl <;> simp [disk, up32, up] <;> omega
theorem mbr_congr {z z' : Nat → Int} {K : Nat} {st sz : Int} (h : Mbr z K st sz) (e : ∀ i, i < 512 → z' i = z i) : Mbr z' K st sz := by
  obtain ⟨⟨b1, b2, b3, b4, b5, b6, b7, b8, b9, b10, b11, b12⟩, hK, hno, hty, e1, e2, h1, h2⟩ := h
  refine ⟨⟨?_, ?_, ?_, ?_, ?_, ?_, ?_, ?_, ?_, ?_, ?_, ?_⟩, hK, fun k hk => ?_, ?_, ?_, ?_, h1, h2⟩
  all_goals (repeat rw [e _ (by omega)])
  all_goals first | assumption | exact hno k hk
theorem mbr_disk (o : Nat) (s p r f zz sec flags root : Int) (K : Nat) (hK : K < 4) (T st sz : Int) (hT : T = 11 ∨ T = 12) (h1 : 1 ≤ st ∧ st ≤ 4294967295) (h2 : 1 ≤ sz ∧ sz ≤ 4294967295) (ho : 512 ≤ o) :
    Mbr (disk (boot (fun _ => 0) o s p r f zz sec flags root) (446 + 16 * K) T st sz) K st sz :=
  mbr_congr (mbr0 K hK T st sz hT h1 h2) fun i hi => disk_below _ _ _ _ _ _ _ _ _ _ _ _ _ _ _ (by omega)

/-- Sectors a cluster. -/
def pw (p : Int) : Int := if p % 8 = 0 then 1 else if p % 8 = 1 then 2 else if p % 8 = 2 then 4 else if p % 8 = 3 then 8 else if p % 8 = 4 then 16 else if p % 8 = 5 then 32 else if p % 8 = 6 then 64 else 128
theorem pw_in (p : Int) : (1 ≤ pw p ∧ pw p ≤ 128) ∧ bits .and .i64 (pw p) (pw p - 1) = 0 := by
  unfold pw
  split; · exact ⟨by omega, by decide +kernel⟩
  split; · exact ⟨by omega, by decide +kernel⟩
  split; · exact ⟨by omega, by decide +kernel⟩
  split; · exact ⟨by omega, by decide +kernel⟩
  split; · exact ⟨by omega, by decide +kernel⟩
  split; · exact ⟨by omega, by decide +kernel⟩
  split; · exact ⟨by omega, by decide +kernel⟩
  exact ⟨by omega, by decide +kernel⟩
theorem mask (x : Int) (h : 0 ≤ x ∧ x < 268435456) : bits .and .u32 x 268435455 = x := by
  obtain ⟨m, rfl⟩ := Int.eq_ofNat_of_zero_le h.1
  rw [show (268435455 : Int) = ((268435455 : Nat) : Int) from rfl, u32_and_nat m 268435455 (by omega) (by omega), show (268435455 : Nat) = 2 ^ 28 - 1 from rfl, Nat.and_two_pow_sub_one_eq_mod, Nat.mod_eq_of_lt (by omega)]

/-- The numbers that the law draws are good ones. -/
theorem good_of {p r f z sec root : Int} (h1 : 1 ≤ p ∧ p ≤ 128) (h2 : bits .and .i64 p (p - 1) = 0) (h3 : 1 ≤ r ∧ r ≤ 64) (h4 : 1 ≤ f ∧ f ≤ 4) (h5 : 1 ≤ z ∧ z ≤ 512) (h6 : dsOf r f z + p ≤ sec) (h7 : 2 ≤ root ∧ root ≤ clu 512 p r f z sec + 1) : Good 512 p r f z sec 0 root := by
  have hc : clu 512 p r f z sec ≤ 268435445 := by unfold clu; exact Int.min_le_right _ _
  have hm := mask root (by omega)
  exact ⟨by omega, by omega, by decide +kernel, by omega, h2, by omega, by omega, by omega, h6, .inl (by decide +kernel), by rw [hm]; omega, by rw [hm]; omega⟩
theorem clu_in {p r f z sec : Int} (h1 : 1 ≤ p ∧ p ≤ 128) (h5 : 1 ≤ z ∧ z ≤ 512) (h6 : dsOf r f z + p ≤ sec) : 1 ≤ clu 512 p r f z sec ∧ clu 512 p r f z sec ≤ 268435445 := by
  have h : 1 ≤ (sec - dsOf r f z) / p := by
    apply (Int.le_ediv_iff_mul_le (by omega)).2
    omega
  unfold clu
  constructor
  · rw [Int.le_min, Int.le_min]
    omega
  · exact Int.min_le_right _ _
end Go.Proofs.YbulkbzbaFmt
