/-
  OWN WORK. THE WALK of LawS3767ANotifyOnce.
-/
import Derived.Test.YbulkbyzkState
import Derived.Test.YbulkbyzkBuild
import Derived.Deep.QuietTactic
import Derived.BigQuiet
import Derived.Deep.DeepCutAuto
import Derived.WalkSmall
import Derived.Conc.LoneSelectN
namespace Go.Proofs.Ybulkbyzk
open Go.RowKit

set_option maxRecDepth 100000 in
theorem sc_ex : ∃ sc : Nat → Nat → Array Value, (∀ J n w, (Instr.build 68 #[(21, .slice (some ⟨J, 0, none⟩) n n)]).run Yba.prog w = .ok (.agg (sc J n)) w) ∧
    (∀ J n w, (Instr.box 68 (.agg (sc J n))).run Yba.prog w = .ok (.pointer (some ⟨w.heap.size, 0, none⟩)) (w.alloc (.cells (sc J n) 68))) ∧
    (∀ J n, (sc J n)[141]? = some (.int .i32 0)) ∧ (∀ J n, (sc J n)[142]? = some (.int .i32 0)) ∧ (∀ J n, (sc J n)[538]? = some (.int .i32 0)) ∧ (∀ J n, (sc J n)[541]? = some (.slice (some ⟨J, 0, none⟩) n n)) :=
  ⟨fun J n => (match (zeroValue 68).run Yba.prog default with | .ok v _ => v.cells | _ => #[]).setIfInBounds 541 (.slice (some ⟨J, 0, none⟩) n n),
    fun J n w => by kernel_rfl, fun J n w => by kernel_rfl, fun J n => by kernel_rfl, fun J n => by kernel_rfl, fun J n => by kernel_rfl, fun J n => by kernel_rfl⟩

theorem once_big (a0 : Int) (a1 : Bool) (a2 : Int) (a3 : Int) (hb : 1024 < a0) (w : World) :
    Calls Yba.prog 3 #[.int .u16 a0, .bool a1, .int .i32 a2, .int .i32 a3] w fun e w' => e = .returned (.bool true) ∧ Below w.heap.size w w' := by
  go_enter Yba.func3, Yba.ntmps3
  go_wp2
  go_ret
  exact ⟨rfl, Below.refl _ _⟩

theorem neq_same (a : Addr) (w : World) : (binOp .neq 71 (.pointer (some a)) (.pointer (some a))).run Yba.prog w = .ok (.bool false) w := by
  have hi : (Yba.prog.info? 87).isSome = true := by kernel_rfl
  obtain ⟨i, hi⟩ := Option.isSome_iff_exists.1 hi
  have h : ∀ d : Nat, (Op.equalIn (d + 1) 71 (.pointer (some a)) (.pointer (some a))).run Yba.prog w = .ok true w := fun d => by
    simp [Op.equalIn, run_underlying Yba.underlying71, sizeOf, typeInfo, hi, sameAddr]
  simp only [binOp]
  simp [Op.equal, Op.maxDepth, h 9999]

/-- Does notify act? -/
def actB (ni a3 : Int) : Bool := !(ni == 0) && (a3 == 0)
theorem actB_true {ni a3 : Int} (h1 : ¬ ni = 0) (h2 : a3 = 0) : actB ni a3 = true := by simp [actB, h1, h2]
theorem actB_false {ni a3 : Int} (h : ni = 0 ∨ ¬ a3 = 0) : actB ni a3 = false := by
  rcases h with h | h <;> simp [actB, h]
def goB (ni a3 : Int) (n : Nat) : Bool := actB ni a3 && decide (0 < n)

theorem goB_true {ni a3 : Int} {n : Nat} (h : goB ni a3 n = true) : ¬ ni = 0 ∧ a3 = 0 ∧ 0 < n := by
  simp only [goB, actB, Bool.and_eq_true, Bool.not_eq_true', beq_eq_false_iff_ne, beq_iff_eq, decide_eq_true_eq] at h
  exact ⟨h.1.1, h.1.2, h.2⟩
theorem goB_false {ni a3 : Int} {n : Nat} (h : goB ni a3 n = false) : ¬ (¬ ni = 0 ∧ a3 = 0 ∧ 0 < n) := by
  rintro ⟨h1, h2, h3⟩
  simp [goB, actB, h1, h2, h3] at h
theorem first_go {n m : Nat} {ni a3 sp nd : Int} {wc wx : World} (ht : Turn n a3 ni m sp nd) (h : goB ni a3 n = true) (hw : wx = wc) :
    Value.int .i64 ((n : Int) - 1) = .int .i64 m ∧ Value.int .i32 ((n : Int) - 1) = .int .i32 nd ∧ Value.int .i32 1 = .int .i32 sp ∧ (∃ wk : Int, Value.int .i64 ((n : Int) - 1) = .int .i64 wk ∧ ((wk = -1 ∧ m = n) ∨ (wk = m ∧ n = m + 1))) ∧ wx = wc := by
  obtain ⟨h1, h2, h3⟩ := goB_true h
  rcases ht with ⟨_, _, e1, e2, e3⟩ | ⟨e0, _⟩
  · subst e2 e3
    have e : (n : Int) - 1 = m := by omega
    rw [e]
    exact ⟨rfl, rfl, rfl, ⟨m, rfl, .inr ⟨rfl, e1⟩⟩, hw⟩
  · exact absurd ⟨h1, h2, h3⟩ e0
theorem first_stay {n m : Nat} {ni a3 sp nd : Int} {wc wx : World} (ht : Turn n a3 ni m sp nd) (h : goB ni a3 n = false) (hw : wx = wc) :
    Value.int .i64 (n : Int) = .int .i64 m ∧ Value.int .i32 ni = .int .i32 nd ∧ Value.int .i32 a3 = .int .i32 sp ∧ (∃ wk : Int, Value.int .i64 (-1) = .int .i64 wk ∧ ((wk = -1 ∧ m = n) ∨ (wk = m ∧ n = m + 1))) ∧ wx = wc := by
  have h0 := goB_false h
  rcases ht with ⟨e1, e2, e3, _⟩ | ⟨_, e1, e2, e3⟩
  · exact absurd ⟨e1, e2, by omega⟩ h0
  · subst e1 e2 e3
    exact ⟨rfl, rfl, rfl, ⟨-1, rfl, .inl ⟨rfl, rfl⟩⟩, hw⟩

set_option maxRecDepth 100000 in
set_option maxHeartbeats 2000000 in
theorem once_go (n : Nat) (a1 : Bool) (a2 : Int) (a3 : Int) (hn : n ≤ 1024) (w : World) :
    Calls Yba.prog 3 #[.int .u16 n, .bool a1, .int .i32 a2, .int .i32 a3] w fun e w' => e = .returned (.bool true) ∧ Below w.heap.size w w' := by
  obtain ⟨sc, hbd, hbx, c1, c2, c3, c4⟩ := sc_ex
  go_enter Yba.func3, Yba.ntmps3
  go_wp2_with fail
  refine (build_any n hn _).mono ?_
  rintro e w1 ⟨rfl, hbt, hb1⟩
  have hz := hbt.size
  have hst := St.start hbt (sc (w.heap.size + 1 + 2 * n) n) (c1 _ _) (c2 _ _) (c3 _ _) (c4 _ _)
  have HS : Hid (St w.heap.size (w.heap.size + 1 + 2 * n) (w.heap.size + 1 + 2 * n + 1) n n 0 0 (w1.alloc (.cells (sc (w.heap.size + 1 + 2 * n) n) 68))) := hst
  clear hst hbt c1 c2 c3 c4
  go_upto_if 36 with (refine wpList_build rfl 68 21 (.tmp 32) rfl (.slice (some ⟨w.heap.size + 1 + 2 * n, 0, none⟩) n n) (.agg (sc (w.heap.size + 1 + 2 * n) n)) rfl (hbd _ _ _) ?_)
  go_cut [13] (fun s13 wx => ∃ ni : Int, s13 = .int .i32 ni ∧ wx = w1.alloc (.cells (sc (w.heap.size + 1 + 2 * n) n) 68))
  case first =>
    go_wp2
    · go_meet
      case rel => exact ⟨n, rfl, rfl⟩
    · go_meet
      case rel => exact ⟨a2, rfl, rfl⟩
  case rest =>
    obtain ⟨ni, rfl, rfl⟩ := hcut
    clear hbd hbx
    generalize hB : w.heap.size = B at *
    generalize hJ : B + 1 + 2 * n = J at *
    generalize hS : J + 1 = S at *
    go_wp2_with fail
    refine (st_put142 HS.out ni).mono ?_
    rintro e w2 ⟨rfl, hs2, hb2⟩
    have HS2 : Hid _ := hs2
    clear hs2
    go_wp2_with fail
    refine (st_put141 HS2.out a3).mono ?_
    rintro e w3 ⟨rfl, hs3, hb3⟩
    have HS3 : Hid _ := hs3
    clear hs3
    go_wp2_with fail
    refine (notify_any HS3.out (Nat.le_refl _) hn).mono ?_
    rintro e w4 ⟨rfl, m, sp, nd, ht, hs4, hb4⟩
    have HT : Hid _ := ht
    have HS4 : Hid _ := hs4
    clear ht hs4
    go_upto_region 12 with fail
    go_cut [14] (fun s14 wx => s14 = .bool (actB ni a3) ∧ wx = w4)
    case first =>
      by_cases h1 : ni = 0
      · have h1' : (ni != 0) = false := by simp [h1]
        go_wp2
        go_meet
        case rel => exact ⟨by rw [actB_false (.inl h1)], rfl⟩
      · have h1' : (ni != 0) = true := by simp [h1]
        by_cases h2 : a3 = 0
        · have h2' : (a3 == 0) = true := by simp [h2]
          go_wp2
          go_meet
          case rel => exact ⟨by rw [actB_true h1 h2], rfl⟩
        · have h2' : (a3 == 0) = false := by simp [h2]
          go_wp2
          go_meet
          case rel => exact ⟨by rw [actB_false (.inr h2)], rfl⟩
    case rest =>
      obtain ⟨rfl, rfl⟩ := hcut
      go_upto_region 17 with fail
      go_cut [14, 64] (fun _ s64 wx => s64 = .bool (goB ni a3 n) ∧ wx = wc)
      case first =>
        by_cases h1 : actB ni a3 = true
        · by_cases h2 : 0 < n
          · have h2' : decide ((0 : Int) < n) = true := by simp [h2]
            go_wp2
            go_meet
            case rel => exact ⟨by simp [goB, h1, h2], rfl⟩
          · have h2' : decide ((0 : Int) < n) = false := by simp; omega
            go_wp2
            go_meet
            case rel => exact ⟨by simp [goB, h2], rfl⟩
        · have h1' : actB ni a3 = false := by simpa using h1
          go_wp2
          go_meet
          case rel => exact ⟨by simp [goB, h1'], rfl⟩
      case rest =>
        obtain ⟨rfl, rfl⟩ := hcut
        go_upto_if 64 with fail
        go_cut [15, 16, 17, 18] (fun s15 s16 s17 s18 wx => s15 = .int .i64 m ∧ s16 = .int .i32 nd ∧ s17 = .int .i32 sp ∧ (∃ wk : Int, s18 = .int .i64 wk ∧ ((wk = -1 ∧ m = n) ∨ (wk = m ∧ n = m + 1))) ∧ wx = wc)
        case first =>
          by_cases hg : goB ni a3 n = true
          · rw [hg]
            go_wp2
            go_meet
            case rel => exact first_go HT.out hg rfl
          · have hg' : goB ni a3 n = false := by simpa using hg
            rw [hg']
            clear hg
            go_wp2
            go_meet
            case rel => exact first_stay HT.out hg' rfl
        case rest =>
          obtain ⟨rfl, rfl, rfl, ⟨wk, rfl, hwk⟩, rfl⟩ := hcut
          have hst := HS4.out
          have h541 := hst.lstc
          have h142 := hst.nidc
          have h141 := hst.spinc
          clear hst
          go_wp2_with (first | (go_at_call_of 10 (⟨S, 142, none⟩ : Addr); refine (atom_load _ _ _ h142).mono ?_; rintro e w' ⟨rfl, rfl⟩) | (go_at_call_of 10 (⟨S, 141, none⟩ : Addr); refine (atom_load _ _ _ h141).mono ?_; rintro e w' ⟨rfl, rfl⟩))
          have hbel := (((hb1.alloc (by omega) (.cells (sc J n) 68)).trans hb2).trans hb3).trans hb4
          clear h541 h142 h141 HS HS2 HS3 HT hb1 hb2 hb3 hb4
          have hmn : m ≤ n := by omega
          have hnq := neq_same
          go_loopw [19] (fun i wr => ∃ k : Nat, k ≤ m ∧ i = .int .i64 k ∧ St B J S n m sp nd wr ∧ Below B w wr) (fun i _ => m - (intOf i).toNat)
          case atStart => exact ⟨0, Nat.zero_le _, rfl, HS4.out, hbel⟩
          case round =>
            obtain ⟨k, hk, rfl, hs, hbr⟩ := hrel
            clear HS4 hbel
            have HR : Hid _ := hs
            by_cases hlt : k < m
            · have g541 := hs.lstc
              have gi := hs.idle k (by omega)
              have gw := hs.ws k (by omega)
              simp only [idlF, hlt, if_true, wp] at gi gw
              have hkm : (k : Int) < m := by omega
              have hkn : (k : Int) < n := by omega
              clear hs
              go_upto_region 27 with fail
              go_quiet (fail)
              go_wp2
              go_roundw
              case rel => exact ⟨k + 1, by omega, by go_num, HR.out.of_heap (by simp), below_drewN hbr _⟩
              case measure => simp [intOf]; omega
            · obtain rfl : k = m := by omega
              clear hs hlt
              go_upto_region 29 with fail
              go_cut [120] (fun s120 wx => s120 = .bool false ∧ wx = wr)
              case first =>
                rcases hwk with ⟨rfl, _⟩ | ⟨rfl, hm1⟩
                · go_wp2
                  go_meet
                  case rel => exact ⟨rfl, rfl⟩
                · have gi := HR.out.idle k (by omega)
                  have gkn : (k : Int) < n := by omega
                  simp only [idlF, Nat.lt_irrefl, if_false] at gi
                  go_wp2
                  go_meet
                  case rel => exact ⟨rfl, rfl⟩
              case rest =>
                obtain ⟨rfl, rfl⟩ := hcut
                go_wp2_with fail
                go_loopw [123] (fun t wr => ∃ q : Nat, q ≤ n ∧ t = .int .i64 q ∧ (∃ ch, Inv B J S n (idlF B k) sp nd 0 (.slice (some ⟨J, 0, none⟩) k n) ch wr ∧ ∀ j, q ≤ j → j < n → ch j = chF k j) ∧ Below B w wr) (fun t _ => n - (intOf t).toNat)
                case atStart => exact ⟨0, Nat.zero_le _, rfl, ⟨_, HR.out, fun _ _ _ => rfl⟩, hbr⟩
                case round =>
                  obtain ⟨q, hq, rfl, ⟨ch, hs, hch⟩, hbq⟩ := hrel
                  have HQ : Hid _ := hs
                  clear HR hbr
                  by_cases hqn : q < n
                  · have gw := hs.ws q hqn
                    have gk := hs.works q hqn
                    have gc := hs.chans q hqn
                    rw [hch q (Nat.le_refl _) hqn] at gc
                    have HC : Hid _ := hch
                    clear hs hch
                    simp only [wp] at gw
                    by_cases hw : (q : Int) = wk
                    · have hw' : ((q : Int) == wk) = true := by simp [hw]
                      have hqk : ¬ q < k := by omega
                      simp only [chF, hqk, if_false, woken] at gc
                      have hlen := fun ty => Go.Conc.run_len_chan (P := Yba.prog) 82 ty Yba.underlying82 gc
                      clear hw
                      go_upto_region 37 with fail
                      refine InReg.region ?_
                      show InReg _ _ _ [0, 1, 2, 3, 4, 5] _ _
                      refine InReg.same (.pointer (some ⟨B + 1 + 2 * q + 1, 0, none⟩)) rfl rfl (by go_simp) ?_
                      refine InReg.same (.pointer (some ⟨B + 1 + 2 * q + 1, 0, none⟩)) rfl rfl (by go_simp) ?_
                      refine InReg.same (.pointer (some ⟨B + 1 + 2 * q + 1, 31, none⟩)) rfl rfl (by go_simp) ?_
                      refine InReg.same (.chan (some (B + 1 + 2 * q))) rfl rfl (by go_simp) ?_
                      refine InReg.recv (c := B + 1 + 2 * q) (z := .bool false) rfl rfl (by simp [go_sem, Go.Conc.rcase]) gc (by simp) ?_
                      refine InReg.same (.bool false) rfl rfl (by go_simp) ?_
                      refine InReg.nil ?_
                      go_wp2
                      go_roundw
                      case rel => exact ⟨q + 1, by omega, by go_num, ⟨_, HQ.out.setCh q hqn 1 #[] false 1 1 false, fun j hj hjn => by rw [if_neg (by omega)]; exact HC.out j (by omega) hjn⟩, Go.Conc.below_setChan hbq (by omega) _ _ _ _ _ _⟩
                      case measure => simp [intOf]; omega
                    · have hw' : ((q : Int) == wk) = false := by simp [hw]
                      have hqk : q < k := by omega
                      simp only [chF, hqk, if_true, fresh] at gc
                      have hlen := fun ty => Go.Conc.run_len_chan (P := Yba.prog) 82 ty Yba.underlying82 gc
                      go_wp2
                      go_roundw
                      case rel => exact ⟨q + 1, by omega, by go_num, ⟨ch, HQ.out, fun j hj hjn => HC.out j (by omega) hjn⟩, hbq⟩
                      case measure => simp [intOf]; omega
                  · clear hs
                    go_wp2
                    go_ret
                    exact ⟨rfl, hB ▸ hbq⟩
end Go.Proofs.Ybulkbyzk
