/-
  OWN WORK. encoding/binary's little-endian readers and writers, by contract.
-/
import Derived.Test.YbulkbzbaFmtRows
import Derived.WalkKit
import Derived.WalkSpells
import Derived.WalkSmall
import Derived.WalkLawsBesides
import Derived.OwnWalk
import Derived.Laws.OwnMore
import Derived.Deep.QuietTactic
import Derived.BigQuiet
import Derived.Deep.DeepCutAuto
import Derived.Deep.RegionHeld3
import Derived.Laws.BitsAllLaws
namespace Go.Proofs.YbulkbzbaFmt
open Go.RowKit

theorem past {w : World} {b o : Nat} {v : Value} (h : w.cell? ⟨b, o, none⟩ = some v) (ob : Obj) : (w.alloc ob).cell? ⟨b, o, none⟩ = some v := (World.cell?_alloc_past _ _ _ (World.block_lt_of_cell? _ _ h)).trans h

/-- z, but v at o. -/
def up (z : Nat → Int) (o : Nat) (v : Int) : Nat → Int := fun i => if i = o then v else z i

/-- n bytes in block b, a block of the call's own (at or above B). -/
structure Buf (B b n : Nat) (z : Nat → Int) (w : World) : Prop where
  base : B ≤ b
  lt : b < w.heap.size
  vals : ∀ i, i < n → w.cell? ⟨b, i, none⟩ = some (.int .u8 (z i))
  fits : ∀ i, i < n → 0 ≤ z i ∧ z i ≤ 255
  fz : ∀ i, w.frozen? ⟨b, i, none⟩ = false
theorem Buf.later {B b n : Nat} {z : Nat → Int} {w w' : World} (h : Buf B b n z w) (hb : Below w.heap.size w w') : Buf B b n z w' :=
  ⟨h.base, Nat.lt_of_lt_of_le h.lt hb.size, fun i hi => (hb.cell (p := ⟨b, i, none⟩) h.lt).trans (h.vals i hi), h.fits, fun i => (World.frozen?_of_block (hb.block _ h.lt)).trans (h.fz i)⟩
theorem Buf.alloc {B b n : Nat} {z : Nat → Int} {w : World} (h : Buf B b n z w) (ob : Obj) : Buf B b n z (w.alloc ob) := h.later ((Below.refl _ _).alloc (Nat.le_refl _) _)
theorem Buf.put {B b n : Nat} {z : Nat → Int} {w : World} (h : Buf B b n z w) (o : Nat) (v : Int) (h0 : 0 ≤ v) (h1 : v ≤ 255) : Buf B b n (up z o v) (w.setCell ⟨b, o, none⟩ (.int .u8 v)) := by
  refine ⟨h.base, by simpa [World.setCell] using h.lt, fun j hj => ?_, fun j hj => ?_, fun j => by rw [World.frozen?_setCell]; exact h.fz j⟩
  · by_cases e : j = o
    · subst e; simp only [up, if_true]; exact World.cell?_setCell_same _ _ _ (h.vals j hj)
    · simp only [up, if_neg e]; rw [World.cell?_setCell_other _ _ _ _ (by simp)]; exact h.vals j hj
  · by_cases e : j = o
    · simp only [up, if_pos e]; exact ⟨h0, h1⟩
    · simp only [up, if_neg e]; exact h.fits j hj

theorem or_add (a b k : Nat) (ha : a < 2 ^ k) : a ||| b * 2 ^ k = a + b * 2 ^ k := by
  have h := Nat.two_pow_add_eq_or_of_lt ha b
  rw [Nat.or_comm, Nat.mul_comm b, ← h, Nat.add_comm]
theorem or16 (a b : Int) (ha : 0 ≤ a ∧ a ≤ 255) (hb : 0 ≤ b ∧ b ≤ 255) : bits BinOp.or IntKind.u16 a (b * 256) = a + b * 256 := by
  obtain ⟨m, rfl⟩ := Int.eq_ofNat_of_zero_le ha.1
  obtain ⟨n, rfl⟩ := Int.eq_ofNat_of_zero_le hb.1
  have := u16_or_nat m (n * 256) (by omega) (by omega)
  rw [or_add m n 8 (by omega)] at this
  rw [show ((n * 256 : Nat) : Int) = (n : Int) * 256 from by omega, show ((m + n * 2 ^ 8 : Nat) : Int) = (m : Int) + n * 256 from by omega] at this
  exact this

theorem u16_any (b o len cap : Nat) (z0 z1 : Int) (hl : 2 ≤ len) (w : World) (h0 : w.cell? ⟨b, o, none⟩ = some (.int .u8 z0)) (h1 : w.cell? ⟨b, o + 1, none⟩ = some (.int .u8 z1)) (f0 : 0 ≤ z0 ∧ z0 ≤ 255) (f1 : 0 ≤ z1 ∧ z1 ≤ 255) :
    Calls Ybaf.prog 25 #[.agg #[], .slice (some ⟨b, o, none⟩) len cap] w fun e w' => e = .returned (.int .u16 (z0 + z1 * 256)) ∧ Below w.heap.size w w' := by
  have a0 := past h0
  have a1 := past h1
  have l0 : (0 : Int) < len := by omega
  have l1 : (1 : Int) < len := by omega
  have k := or16 z0 z1 f0 f1
  clear h0 h1
  go_enter Ybaf.func25, Ybaf.ntmps25
  go_wp2
  go_quiet (fail)
  go_wp2
  go_ret
  exact ⟨rfl, below_drewN ((Below.refl _ _).alloc (Nat.le_refl _) _) nq⟩

theorem or32 (a b c d : Int) (ha : 0 ≤ a ∧ a ≤ 255) (hb : 0 ≤ b ∧ b ≤ 255) (hc : 0 ≤ c ∧ c ≤ 255) (hd : 0 ≤ d ∧ d ≤ 255) :
    bits BinOp.or IntKind.u32 (bits BinOp.or IntKind.u32 (bits BinOp.or IntKind.u32 a (b * 256)) (c * 65536)) (d * 16777216) = a + b * 256 + c * 65536 + d * 16777216 := by
  obtain ⟨k, rfl⟩ := Int.eq_ofNat_of_zero_le ha.1
  obtain ⟨l, rfl⟩ := Int.eq_ofNat_of_zero_le hb.1
  obtain ⟨m, rfl⟩ := Int.eq_ofNat_of_zero_le hc.1
  obtain ⟨n, rfl⟩ := Int.eq_ofNat_of_zero_le hd.1
  have h1 := u32_or_nat k (l * 256) (by omega) (by omega)
  rw [or_add k l 8 (by omega)] at h1
  have h2 := u32_or_nat (k + l * 256) (m * 65536) (by omega) (by omega)
  rw [or_add (k + l * 256) m 16 (by omega)] at h2
  have h3 := u32_or_nat (k + l * 256 + m * 65536) (n * 16777216) (by omega) (by omega)
  rw [or_add (k + l * 256 + m * 65536) n 24 (by omega)] at h3
  rw [show ((l * 256 : Nat) : Int) = (l : Int) * 256 from by omega, show ((k + l * 2 ^ 8 : Nat) : Int) = (k : Int) + l * 256 from by omega] at h1
  rw [show ((k + l * 256 : Nat) : Int) = (k : Int) + l * 256 from by omega, show ((m * 65536 : Nat) : Int) = (m : Int) * 65536 from by omega, show ((k + l * 256 + m * 2 ^ 16 : Nat) : Int) = (k : Int) + l * 256 + m * 65536 from by omega] at h2
  rw [show ((k + l * 256 + m * 65536 : Nat) : Int) = (k : Int) + l * 256 + m * 65536 from by omega, show ((n * 16777216 : Nat) : Int) = (n : Int) * 16777216 from by omega, show ((k + l * 256 + m * 65536 + n * 2 ^ 24 : Nat) : Int) = (k : Int) + l * 256 + m * 65536 + n * 16777216 from by omega] at h3
  rw [h1, h2, h3]

theorem u32_any (b o len cap : Nat) (z0 z1 z2 z3 : Int) (hl : 4 ≤ len) (w : World) (h0 : w.cell? ⟨b, o, none⟩ = some (.int .u8 z0)) (h1 : w.cell? ⟨b, o + 1, none⟩ = some (.int .u8 z1)) (h2 : w.cell? ⟨b, o + 2, none⟩ = some (.int .u8 z2)) (h3 : w.cell? ⟨b, o + 3, none⟩ = some (.int .u8 z3)) (f0 : 0 ≤ z0 ∧ z0 ≤ 255) (f1 : 0 ≤ z1 ∧ z1 ≤ 255) (f2 : 0 ≤ z2 ∧ z2 ≤ 255) (f3 : 0 ≤ z3 ∧ z3 ≤ 255) :
    Calls Ybaf.prog 21 #[.agg #[], .slice (some ⟨b, o, none⟩) len cap] w fun e w' => e = .returned (.int .u32 (z0 + z1 * 256 + z2 * 65536 + z3 * 16777216)) ∧ Below w.heap.size w w' := by
  have a0 := past h0
  have a1 := past h1
  have a2 := past h2
  have a3 := past h3
  have l0 : (0 : Int) < len := by omega
  have l1 : (1 : Int) < len := by omega
  have l2 : (2 : Int) < len := by omega
  have l3 : (3 : Int) < len := by omega
  have k := or32 z0 z1 z2 z3 f0 f1 f2 f3
  clear h0 h1 h2 h3
  go_enter Ybaf.func21, Ybaf.ntmps21
  go_wp2
  go_quiet (fail)
  go_wp2
  go_ret
  exact ⟨rfl, below_drewN ((Below.refl _ _).alloc (Nat.le_refl _) _) nq⟩

set_option maxHeartbeats 800000 in
theorem p16_any (B b n o len cap : Nat) (z : Nat → Int) (v : Int) (hl : 2 ≤ len) (ho : o + 2 ≤ n) (h0 : 0 ≤ v) (h1 : v ≤ 65535) (w : World) (h : Buf B b n z w) :
    Calls Ybaf.prog 14 #[.agg #[], .slice (some ⟨b, o, none⟩) len cap, .int .u16 v] w fun e w' => e = .returned (.tuple #[]) ∧ Buf B b n (up (up z o (v % 256)) (o + 1) (v / 256)) w' ∧ Below B w w' := by
  have HB : Hid (Buf B b n z w) := h
  have a0 := past (h.vals o (by omega))
  have a1 := past (h.vals (o + 1) (by omega))
  have f0 : ∀ ob, (w.alloc ob).frozen? ⟨b, o, none⟩ = false := fun ob => (h.alloc ob).fz o
  have f1 : ∀ ob, (w.alloc ob).frozen? ⟨b, o + 1, none⟩ = false := fun ob => (h.alloc ob).fz (o + 1)
  have l0 : (0 : Int) < len := by omega
  have l1 : (1 : Int) < len := by omega
  have e1 : v / 256 % 256 = v / 256 := by omega
  clear h
  go_enter Ybaf.func14, Ybaf.ntmps14
  go_wp2
  refine bodyPost_end (v := .tuple #[]) (by simp [results, Ybaf.results14, go_sem]) rfl ?_
  exact ⟨rfl, ((HB.out.alloc _).put o (v % 256) (by omega) (by omega)).put (o + 1) (v / 256) (by omega) (by omega), (((Below.refl _ _).alloc (by have := HB.out.base; have := HB.out.lt; omega) _).setCell (by exact HB.out.base) _).setCell (by exact HB.out.base) _⟩

set_option maxHeartbeats 800000 in
theorem p32_any (B b n o len cap : Nat) (z : Nat → Int) (v : Int) (hl : 4 ≤ len) (ho : o + 4 ≤ n) (h0 : 0 ≤ v) (h1 : v ≤ 4294967295) (w : World) (h : Buf B b n z w) :
    Calls Ybaf.prog 6 #[.agg #[], .slice (some ⟨b, o, none⟩) len cap, .int .u32 v] w fun e w' => e = .returned (.tuple #[]) ∧ Buf B b n (up (up (up (up z o (v % 256)) (o + 1) (v / 256 % 256)) (o + 2) (v / 65536 % 256)) (o + 3) (v / 16777216)) w' ∧ Below B w w' := by
  have HB : Hid (Buf B b n z w) := h
  have a0 := past (h.vals o (by omega))
  have a1 := past (h.vals (o + 1) (by omega))
  have a2 := past (h.vals (o + 2) (by omega))
  have a3 := past (h.vals (o + 3) (by omega))
  have f0 : ∀ ob, (w.alloc ob).frozen? ⟨b, o, none⟩ = false := fun ob => (h.alloc ob).fz o
  have f1 : ∀ ob, (w.alloc ob).frozen? ⟨b, o + 1, none⟩ = false := fun ob => (h.alloc ob).fz (o + 1)
  have f2 : ∀ ob, (w.alloc ob).frozen? ⟨b, o + 2, none⟩ = false := fun ob => (h.alloc ob).fz (o + 2)
  have f3 : ∀ ob, (w.alloc ob).frozen? ⟨b, o + 3, none⟩ = false := fun ob => (h.alloc ob).fz (o + 3)
  have l0 : (0 : Int) < len := by omega
  have l1 : (1 : Int) < len := by omega
  have l2 : (2 : Int) < len := by omega
  have l3 : (3 : Int) < len := by omega
  have e1 : v / 16777216 % 256 = v / 16777216 := by omega
  clear h
  go_enter Ybaf.func6, Ybaf.ntmps6
  go_wp2
  refine bodyPost_end (v := .tuple #[]) (by simp [results, Ybaf.results6, go_sem]) rfl ?_
  exact ⟨rfl, ((((HB.out.alloc _).put o (v % 256) (by omega) (by omega)).put (o + 1) (v / 256 % 256) (by omega) (by omega)).put (o + 2) (v / 65536 % 256) (by omega) (by omega)).put (o + 3) (v / 16777216) (by omega) (by omega), (((((Below.refl _ _).alloc (by have := HB.out.base; have := HB.out.lt; omega) _).setCell (by exact HB.out.base) _).setCell (by exact HB.out.base) _).setCell (by exact HB.out.base) _).setCell (by exact HB.out.base) _⟩
end Go.Proofs.YbulkbzbaFmt
