/-
  OWN WORK. The state of the scheduler in the laws on notify: m of n workers are still parked; the others have been taken off the list, the last parked first, and each was sent one false.
-/
import Derived.Test.YbulkbyzkInv
import Derived.Test.YbulkbyzkNotify
namespace Go.Proofs.Ybulkbyzk
open Go.RowKit

def idlF (B m j : Nat) : Value := if j < m then wp B j else .pointer none
/-- A channel that holds one false. -/
def woken : Obj := .chan 1 #[.bool false] false 1 0 false
def chF (m j : Nat) : Obj := if j < m then fresh else woken

def St (B J S n m : Nat) (spin nid : Int) (w : World) : Prop := Inv B J S n (idlF B m) spin nid 0 (.slice (some ⟨J, 0, none⟩) m n) (chF m) w

theorem Inv.congr {B J S n : Nat} {idl idl' : Nat → Value} {spin nid mu : Int} {lst : Value} {ch ch' : Nat → Obj} {w : World} (h : Inv B J S n idl spin nid mu lst ch w) (h1 : ∀ j, j < n → idl j = idl' j) (h2 : ∀ j, j < n → ch j = ch' j) : Inv B J S n idl' spin nid mu lst ch' w :=
  ⟨h.hJ, h.hS, h.size, h.ws, fun j hj => by rw [← h2 j hj]; exact h.chans j hj, h.works, fun j hj => by rw [← h1 j hj]; exact h.idle j hj, h.idlef, h.spinc, h.nidc, h.muc, h.lstc, h.sf⟩

theorem St.start {B J n : Nat} {w : World} (h : Built B J n w) (sc : Array Value) (h1 : sc[141]? = some (.int .i32 0)) (h2 : sc[142]? = some (.int .i32 0)) (h3 : sc[538]? = some (.int .i32 0)) (h4 : sc[541]? = some (.slice (some ⟨J, 0, none⟩) n n)) :
    St B J (J + 1) n n 0 0 (w.alloc (.cells sc 68)) :=
  (Inv.start h sc _ h1 h2 h3 h4).congr (fun j hj => by simp [idlF, hj]) (fun j hj => by simp [chF, hj])

theorem St.wake {B J S n k : Nat} {nid : Int} {w : World} (h : St B J S n (k + 1) 0 nid w) (hk : k + 1 ≤ n) :
    St B J S n k 1 k (((((((w.setCell ⟨S, 141, none⟩ (.int .i32 1)).setCell ⟨S, 538, none⟩ (.int .i32 1)).setCell ⟨J, k, none⟩ (.pointer none)).setCell ⟨S, 541, none⟩ (.slice (some ⟨J, 0, none⟩) k n)).setCell ⟨S, 142, none⟩ (.int .i32 k)).setChan (B + 1 + 2 * k) 1 #[.bool false] false 1 0 false).setCell ⟨S, 538, none⟩ (.int .i32 0)) := by
  have i1 := Inv.set141 h 1
  have i2 := i1.set538 1
  have i3 := i2.setIdle k (by omega) (.pointer none)
  have i4 := i3.set541 (.slice (some ⟨J, 0, none⟩) k n)
  have i5 := i4.set142 k
  have i6 := i5.setCh k (by omega) 1 #[.bool false] false 1 0 false
  have i7 := i6.set538 0
  refine i7.congr (fun j hj => ?_) (fun j hj => ?_)
  · simp only [idlF]
    by_cases e : j = k
    · subst e; simp
    · by_cases e2 : j < k
      · have : j < k + 1 := by omega
        simp [e, e2, this]
      · have : ¬ j < k + 1 := by omega
        simp [e, e2, this]
  · simp only [chF, woken]
    by_cases e : j = k
    · subst e; simp
    · by_cases e2 : j < k
      · have : j < k + 1 := by omega
        simp [e, e2, this]
      · have : ¬ j < k + 1 := by omega
        simp [e, e2, this]

theorem St.none_ {B J S n : Nat} {m : Nat} {nid : Int} {w : World} (h : St B J S n m 0 nid w) :
    St B J S n m 0 nid ((((w.setCell ⟨S, 141, none⟩ (.int .i32 1)).setCell ⟨S, 538, none⟩ (.int .i32 1)).setCell ⟨S, 538, none⟩ (.int .i32 0)).setCell ⟨S, 141, none⟩ (.int .i32 0)) :=
  (((Inv.set141 h 1).set538 1).set538 0).set141 0

/-- notify, a worker parked and none searching: it is woken. -/
theorem notify_wakes {B J S n k : Nat} {nid : Int} {w : World} (h : St B J S n (k + 1) 0 nid w) (h0 : (nid == 0) = false) (hk : k + 1 ≤ n) (hn : n ≤ 1024) :
    Calls Yba.prog 9 #[.pointer (some ⟨S, 0, none⟩)] w fun e w' => e = .returned (.tuple #[]) ∧ St B J S n k 1 k w' ∧ Below B w w' := by
  have hJ := h.hJ
  have hS := h.hS
  have hp := h.idle k (by omega)
  have hc := h.chans k (by omega)
  have e1 : idlF B (k + 1) k = wp B k := by simp [idlF]
  have e2 : chF (k + 1) k = fresh := by simp [chF]
  rw [e1] at hp
  rw [e2] at hc
  refine (notify_wake S J k n (B + 1 + 2 * k + 1) (B + 1 + 2 * k) nid w (by omega) hk hn h.nidc h.spinc h0 h.muc h.lstc hp (h.works k (by omega)) (by omega) (by omega) hc (by omega) (by omega) h.sf h.idlef).mono ?_
  rintro e w' ⟨rfl, rfl⟩
  refine ⟨rfl, h.wake hk, ?_⟩
  exact (Go.Conc.below_setChan ((((((Below.refl _ _).setCell (by simp; omega) _).setCell (by simp; omega) _).setCell (by simp; omega) _).setCell (by simp; omega) _).setCell (by simp; omega) _) (by omega) _ _ _ _ _ _).setCell (by simp; omega) _

/-- notify, the list empty though the count says otherwise. -/
theorem notify_empty {B J S n : Nat} {nid : Int} {w : World} (h : St B J S n 0 0 nid w) (h0 : (nid == 0) = false) :
    Calls Yba.prog 9 #[.pointer (some ⟨S, 0, none⟩)] w fun e w' => e = .returned (.tuple #[]) ∧ St B J S n 0 0 nid w' ∧ Below B w w' := by
  have hJ := h.hJ
  have hS := h.hS
  refine (notify_none S nid (some ⟨J, 0, none⟩) n w h.nidc h.spinc h0 h.muc h.lstc h.sf).mono ?_
  rintro e w' ⟨rfl, rfl⟩
  exact ⟨rfl, h.none_, ((((Below.refl _ _).setCell (by simp; omega) _).setCell (by simp; omega) _).setCell (by simp; omega) _).setCell (by simp; omega) _⟩

/-- notify, the count at 0 or a worker searching. -/
theorem notify_still {B J S n m : Nat} {spin nid : Int} {w : World} (h : St B J S n m spin nid w) (h0 : nid = 0 ∨ ¬ spin = 0) :
    Calls Yba.prog 9 #[.pointer (some ⟨S, 0, none⟩)] w fun e w' => e = .returned (.tuple #[]) ∧ St B J S n m spin nid w' ∧ Below B w w' := by
  by_cases hz : nid = 0
  · refine (notify_idle0 S nid w h.nidc (by simp [hz])).mono ?_
    rintro e w' ⟨rfl, rfl⟩
    exact ⟨rfl, h, Below.refl _ _⟩
  · refine (notify_idle1 S nid spin w h.nidc h.spinc (by simp [hz]) (by simp; omega)).mono ?_
    rintro e w' ⟨rfl, rfl⟩
    exact ⟨rfl, h, Below.refl _ _⟩

theorem st_put142 {B J S n m : Nat} {spin nid : Int} {w : World} (h : St B J S n m spin nid w) (x : Int) :
    Calls Yba.prog 8 #[.pointer (some ⟨S, 142, none⟩), .int .i32 x] w fun e w' => e = .returned (.tuple #[]) ∧ St B J S n m spin x w' ∧ Below B w w' := by
  have hJ := h.hJ
  have hS := h.hS
  refine (atom_store ⟨S, 142, none⟩ x _ w h.nidc (h.sf _)).mono ?_
  rintro e w' ⟨rfl, rfl⟩
  exact ⟨rfl, Inv.set142 h x, (Below.refl _ _).setCell (by simp; omega) _⟩
theorem st_put141 {B J S n m : Nat} {spin nid : Int} {w : World} (h : St B J S n m spin nid w) (x : Int) :
    Calls Yba.prog 8 #[.pointer (some ⟨S, 141, none⟩), .int .i32 x] w fun e w' => e = .returned (.tuple #[]) ∧ St B J S n m x nid w' ∧ Below B w w' := by
  have hJ := h.hJ
  have hS := h.hS
  refine (atom_store ⟨S, 141, none⟩ x _ w h.spinc (h.sf _)).mono ?_
  rintro e w' ⟨rfl, rfl⟩
  exact ⟨rfl, Inv.set141 h x, (Below.refl _ _).setCell (by simp; omega) _⟩
theorem st_add141 {B J S n m : Nat} {spin nid : Int} {w : World} (h : St B J S n m spin nid w) (d s : Int) (hs : s = IntKind.wrap .i32 (spin + d)) :
    Calls Yba.prog 11 #[.pointer (some ⟨S, 141, none⟩), .int .i32 d] w fun e w' => e = .returned (.int .i32 s) ∧ St B J S n m s nid w' ∧ Below B w w' := by
  have hJ := h.hJ
  have hS := h.hS
  refine (atom_add ⟨S, 141, none⟩ spin d s w hs h.spinc (h.sf _)).mono ?_
  rintro e w' ⟨rfl, rfl⟩
  exact ⟨rfl, Inv.set141 h s, (Below.refl _ _).setCell (by simp; omega) _⟩

/-- What one notify makes of the state. -/
def Turn (m : Nat) (spin nid : Int) (m' : Nat) (spin' nid' : Int) : Prop :=
  (¬ nid = 0 ∧ spin = 0 ∧ m = m' + 1 ∧ spin' = 1 ∧ nid' = m') ∨ (¬ (¬ nid = 0 ∧ spin = 0 ∧ 0 < m) ∧ m' = m ∧ spin' = spin ∧ nid' = nid)

/-- notify, whatever the state. -/
theorem notify_any {B J S n m : Nat} {spin nid : Int} {w : World} (h : St B J S n m spin nid w) (hm : m ≤ n) (hn : n ≤ 1024) :
    Calls Yba.prog 9 #[.pointer (some ⟨S, 0, none⟩)] w fun e w' => e = .returned (.tuple #[]) ∧ ∃ m' spin' nid', Turn m spin nid m' spin' nid' ∧ St B J S n m' spin' nid' w' ∧ Below B w w' := by
  by_cases hz : nid = 0
  · refine (notify_still h (.inl hz)).mono ?_
    rintro e w' ⟨rfl, hs, hb⟩
    exact ⟨rfl, m, spin, nid, .inr ⟨fun h => h.1 hz, rfl, rfl, rfl⟩, hs, hb⟩
  · by_cases hs0 : spin = 0
    · subst hs0
      cases m with
      | zero =>
        refine (notify_empty h (by simp [hz])).mono ?_
        rintro e w' ⟨rfl, hs, hb⟩
        exact ⟨rfl, 0, 0, nid, .inr ⟨fun h => by omega, rfl, rfl, rfl⟩, hs, hb⟩
      | succ k =>
        refine (notify_wakes h (by simp [hz]) hm hn).mono ?_
        rintro e w' ⟨rfl, hs, hb⟩
        exact ⟨rfl, k, 1, k, .inl ⟨hz, rfl, rfl, rfl, rfl⟩, hs, hb⟩
    · refine (notify_still h (.inr hs0)).mono ?_
      rintro e w' ⟨rfl, hs, hb⟩
      exact ⟨rfl, m, spin, nid, .inr ⟨fun h => hs0 h.2.1, rfl, rfl, rfl⟩, hs, hb⟩
end Go.Proofs.Ybulkbyzk
