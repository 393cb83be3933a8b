/-
  OWN WORK. THE WALK of LawS3767AScript.
-/
import Derived.Test.YbulkbyzkOnce
namespace Go.Proofs.Ybulkbyzk
open Go.RowKit

theorem script_big (a0 : Int) (a1 : Option Addr) (len cap : Nat) (hb : 1024 < a0) (w : World) :
    Calls Yba.prog 4 #[.int .u16 a0, .slice a1 len cap] w fun e w' => e = .returned (.bool true) ∧ Below w.heap.size w w' := by
  have hb' : decide ((1024 : Int) < a0) = true := by simp [hb]
  go_enter Yba.func4, Yba.ntmps4
  go_wp2
  go_ret
  exact ⟨rfl, Below.refl _ _⟩
theorem script_long (a0 : Int) (a1 : Option Addr) (len cap : Nat) (hb : ¬ 1024 < a0) (hl : 1024 < len) (w : World) :
    Calls Yba.prog 4 #[.int .u16 a0, .slice a1 len cap] w fun e w' => e = .returned (.bool true) ∧ Below w.heap.size w w' := by
  have hb' : decide ((1024 : Int) < a0) = false := by simpa using hb
  have hl' : decide ((1024 : Int) < len) = true := by simp; omega
  go_enter Yba.func4, Yba.ntmps4
  go_wp2
  go_ret
  exact ⟨rfl, Below.refl _ _⟩

set_option maxRecDepth 100000 in
set_option maxHeartbeats 2000000 in
theorem script_go (n : Nat) (a1 : Option Addr) (len cap : Nat) (z : Nat → Int) (hn : n ≤ 1024) (hl : len ≤ 1024) (w : World)
    (hx : len = 0 ∨ ∃ b o, a1 = some ⟨b, o, none⟩ ∧ b < w.heap.size ∧ ∀ i, i < len → w.cell? ⟨b, o + i, none⟩ = some (.int .u8 (z i)) ∧ 0 ≤ z i ∧ z i ≤ 255) :
    Calls Yba.prog 4 #[.int .u16 n, .slice a1 len cap] w fun e w' => e = .returned (.bool true) ∧ Below w.heap.size w w' := by
  obtain ⟨sc, hbd, hbx, c1, c2, c3, c4⟩ := sc_ex
  have hn' : decide ((1024 : Int) < n) = false := by simp; omega
  have hl' : decide ((1024 : Int) < len) = false := by simp; omega
  have HX : Hid _ := hx
  clear hx
  go_enter Yba.func4, Yba.ntmps4
  go_wp2_with fail
  refine (build_any n hn _).mono ?_
  rintro e w1 ⟨rfl, hbt, hb1⟩
  have hz := hbt.size
  have hst := St.start hbt (sc (w.heap.size + 1 + 2 * n) n) (c1 _ _) (c2 _ _) (c3 _ _) (c4 _ _)
  have HS : Hid (St w.heap.size (w.heap.size + 1 + 2 * n) (w.heap.size + 1 + 2 * n + 1) n n 0 0 (w1.alloc (.cells (sc (w.heap.size + 1 + 2 * n) n) 68))) := hst
  clear hst hbt c1 c2 c3 c4
  go_wp2_with (refine wpList_build rfl 68 21 (.tmp 30) rfl (.slice (some ⟨w.heap.size + 1 + 2 * n, 0, none⟩) n n) (.agg (sc (w.heap.size + 1 + 2 * n) n)) rfl (hbd _ _ _) ?_)
  clear hbd hbx
  generalize hB : w.heap.size = B at *
  generalize hJ : B + 1 + 2 * n = J at *
  generalize hS : J + 1 = S at *
  refine (st_put142 HS.out n).mono ?_
  rintro e w2 ⟨rfl, hs2, hb2⟩
  have hbel := (hb1.alloc (by omega) (.cells (sc J n) 68)).trans hb2
  have HS2 : Hid _ := hs2
  clear hs2 hb1 hb2 HS hz
  go_wp2_with fail
  go_loopw [9, 10, 42] (fun s9 s10 s42 wr => ∃ (k m : Nat) (sp : Int), k ≤ len ∧ s42 = .int .i64 k ∧ m ≤ n ∧ s9 = .int .i64 m ∧ (sp = 0 ∨ sp = 1) ∧ s10 = .int .i32 sp ∧ St B J S n m sp m wr ∧ Below B w wr) (fun _ _ i _ => len - (intOf i).toNat)
  case atStart => exact ⟨0, n, 0, Nat.zero_le _, rfl, Nat.le_refl _, rfl, .inl rfl, rfl, HS2.out, hbel⟩
  case round =>
    obtain ⟨k, m, sp, hk, rfl, hmn, rfl, hsp, rfl, hs, hbr⟩ := hrel
    have HR : Hid _ := hs
    have HP : Hid _ := hsp
    clear hs hsp HS2 hbel
    by_cases hlt : k < len
    · obtain h0 | ⟨b, o, rfl, hbb, hcell⟩ := HX.out
      · omega
      have gc := (hbr.cell (p := ⟨b, o + k, none⟩) (by exact hbb)).trans (hcell k hlt).1
      have z0 := (hcell k hlt).2.1
      have z1 := (hcell k hlt).2.2
      clear hcell
      go_upto_if 48 with fail
      go_cut [9, 10] (fun s9 s10 wx => ∃ (m' : Nat) (sp' : Int), m' ≤ n ∧ s9 = .int .i64 m' ∧ (sp' = 0 ∨ sp' = 1) ∧ s10 = .int .i32 sp' ∧ St B J S n m' sp' m' wx ∧ Below B w wx)
      case first =>
        by_cases he : z k % 2 = 0
        · by_cases ha : 0 < m ∧ sp = 0
          · obtain ⟨ha1, rfl⟩ := ha
            obtain ⟨m0, rfl⟩ : ∃ m0, m = m0 + 1 := ⟨m - 1, by omega⟩
            have h0 : (((m0 + 1 : Nat) : Int) == 0) = false := by simp; omega
            go_wp2_with fail
            refine (notify_wakes HR.out h0 (by omega) hn).mono ?_
            rintro e w4 ⟨rfl, hs4, hb4⟩
            have H4 : Hid _ := hs4
            clear hs4
            go_wp2
            go_meet
            case rel => exact ⟨m0, 1, by omega, rfl, .inr rfl, rfl, H4.out, hbr.trans hb4⟩
          · by_cases hm0 : m = 0
            · have hd : decide ((0 : Int) < m) = false := by simp; omega
              go_wp2_with fail
              refine (notify_still HR.out (.inl (by omega))).mono ?_
              rintro e w4 ⟨rfl, hs4, hb4⟩
              have H4 : Hid _ := hs4
              clear hs4
              go_wp2
              go_meet
              case rel => exact ⟨m, sp, hmn, by simp [hm0], HP.out, rfl, H4.out, hbr.trans hb4⟩
            · have hs0 : ¬ sp = 0 := fun h => ha ⟨by omega, h⟩
              have hd : decide ((0 : Int) < m) = true := by simp; omega
              have hs0' : (sp == 0) = false := by simp [hs0]
              go_wp2_with fail
              refine (notify_still HR.out (.inr hs0)).mono ?_
              rintro e w4 ⟨rfl, hs4, hb4⟩
              have H4 : Hid _ := hs4
              clear hs4
              go_wp2
              go_meet
              case rel => exact ⟨m, sp, hmn, rfl, HP.out, rfl, H4.out, hbr.trans hb4⟩
        · by_cases hs0 : sp = 0
          · subst hs0
            go_wp2
            go_meet
            case rel => exact ⟨m, 0, hmn, rfl, .inl rfl, rfl, HR.out, hbr⟩
          · obtain rfl : sp = 1 := by
              rcases HP.out with h | h
              · exact absurd h hs0
              · exact h
            go_wp2_with fail
            refine (st_add141 HR.out (-1) 0 (by decide)).mono ?_
            rintro e w4 ⟨rfl, hs4, hb4⟩
            have H4 : Hid _ := hs4
            clear hs4
            go_wp2
            go_meet
            case rel => exact ⟨m, 0, hmn, rfl, .inl rfl, rfl, H4.out, hbr.trans hb4⟩
      case rest =>
        obtain ⟨m', sp', hm', rfl, hsp', rfl, hs, hbx⟩ := hcut
        have h541 := hs.lstc
        have h142 := hs.nidc
        have h141 := hs.spinc
        have HR' : Hid _ := hs
        have HP' : Hid _ := hsp'
        clear hs hsp' HR HP hbr gc z0 z1
        go_wp2_with fail
        refine (atom_load _ _ _ h141).mono ?_
        rintro e w5 ⟨rfl, rfl⟩
        go_wp2_with fail
        refine (atom_load _ _ _ h142).mono ?_
        rintro e w6 ⟨rfl, rfl⟩
        go_wp2
        go_roundw
        case rel => exact ⟨k + 1, m', sp', by omega, by go_num, hm', rfl, HP'.out, rfl, HR'.out, hbx⟩
        case measure => simp [intOf]; omega
    · clear HX HP
      have hnq := neq_same
      go_wp2
      go_loopw [94] (fun t wr => ∃ q : Nat, q ≤ n ∧ t = .int .i64 q ∧ (∃ ch, Inv B J S n (idlF B m) sp m 0 (.slice (some ⟨J, 0, none⟩) m n) ch wr ∧ ∀ j, q ≤ j → j < n → ch j = chF m j) ∧ Below B w wr) (fun t _ => n - (intOf t).toNat)
      case atStart => exact ⟨0, Nat.zero_le _, rfl, ⟨_, HR.out, fun _ _ _ => rfl⟩, hbr⟩
      case round =>
        obtain ⟨q, hq, rfl, ⟨ch, hs, hch⟩, hbq⟩ := hrel
        have HQ : Hid _ := hs
        clear HR hbr
        by_cases hqn : q < n
        · have gw := hs.ws q hqn
          have gk := hs.works q hqn
          have gc := hs.chans q hqn
          rw [hch q (Nat.le_refl _) hqn] at gc
          have HC : Hid _ := hch
          simp only [wp] at gw
          by_cases hqm : q < m
          · have g541 := hs.lstc
            have gi := hs.idle q hqn
            simp only [idlF, hqm, if_true, wp] at gi
            clear hs hch
            have hw' : decide ((m : Int) ≤ q) = false := by simp; omega
            have hqm' : (q : Int) < m := by omega
            simp only [chF, hqm, if_true, fresh] at gc
            have hlen := fun ty => Go.Conc.run_len_chan (P := Yba.prog) 82 ty Yba.underlying82 gc
            go_wp2
            go_roundw
            case rel => exact ⟨q + 1, by omega, by go_num, ⟨ch, HQ.out, fun j hj hjn => HC.out j (by omega) hjn⟩, hbq⟩
            case measure => simp [intOf]; omega
          · clear hs hch
            have hw' : decide ((m : Int) ≤ q) = true := by simp; omega
            simp only [chF, hqm, if_false, woken] at gc
            have hlen := fun ty => Go.Conc.run_len_chan (P := Yba.prog) 82 ty Yba.underlying82 gc
            go_upto_region 29 with fail
            refine InReg.region ?_
            show InReg _ _ _ [0, 1, 2, 3, 4, 5] _ _
            refine InReg.same (.pointer (some ⟨B + 1 + 2 * q + 1, 0, none⟩)) rfl rfl (by go_simp) ?_
            refine InReg.same (.pointer (some ⟨B + 1 + 2 * q + 1, 0, none⟩)) rfl rfl (by go_simp) ?_
            refine InReg.same (.pointer (some ⟨B + 1 + 2 * q + 1, 31, none⟩)) rfl rfl (by go_simp) ?_
            refine InReg.same (.chan (some (B + 1 + 2 * q))) rfl rfl (by go_simp) ?_
            refine InReg.recv (c := B + 1 + 2 * q) (z := .bool false) rfl rfl (by simp [go_sem, Go.Conc.rcase]) gc (by simp) ?_
            refine InReg.same (.bool false) rfl rfl (by go_simp) ?_
            refine InReg.nil ?_
            go_wp2
            go_roundw
            case rel => exact ⟨q + 1, by omega, by go_num, ⟨_, HQ.out.setCh q hqn 1 #[] false 1 1 false, fun j hj hjn => by rw [if_neg (by omega)]; exact HC.out j (by omega) hjn⟩, Go.Conc.below_setChan hbq (by omega) _ _ _ _ _ _⟩
            case measure => simp [intOf]; omega
        · clear hs
          go_wp2
          go_ret
          exact ⟨rfl, hB ▸ hbq⟩
end Go.Proofs.Ybulkbyzk
