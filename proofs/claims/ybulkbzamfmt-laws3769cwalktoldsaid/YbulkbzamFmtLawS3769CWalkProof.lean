/-
  OWN WORK, after the guide's CapsTold / CapsTied: THE PROOF OF 'Rows.LawS3769CWalkToldSaid'.
-/
import Derived.Test.YbulkbzamFmtWalk
import Derived.Test.YbulkbzamFmtTie
import Derived.Test.YbulkbzamFmtCards
import Derived.ProofKit
import Derived.Stop.JoinedAt
import Derived.Stop.JoinedTold
import Derived.OpenShut
import Derived.ChangeVars
import Derived.LaidMore
import Derived.WalkSmall
import Derived.Below
namespace Go.Proofs.YbulkbzamFmt.lawS3769CWalk
open Go.ChangeShapes Go.WideShapes Go.ChangeAt Go.RowKit
open Go.Extern.Stop Go.Stop Go.Extern
set_option linter.unusedVariables false

theorem own : ownKnob Ybaf.prog.godebug = none := by kernel_rfl
theorem laidOut : laidOutB Ybaf.pinned.checked.prog = true := by kernel_rfl
theorem stops : Ybaf.pinned.checked.prog.stops = ["fmt.Sprintf"] := by kernel_rfl
theorem stopKnobs : Ybaf.pinned.checked.prog.stopKnobs = [] := by kernel_rfl
theorem still (os : Os) : Stop.quiet Ybaf.pinned.checked.prog os := by
  intro k hk
  rw [stopKnobs] at hk
  cases hk
theorem gM : Ybaf.prog.globalNamed "example.com/episode/episode/gridworld.moves" = some 0 := by kernel_rfl
theorem gMType : (Ybaf.prog.globals[0]?).map (·.type) = some 41 := by kernel_rfl
theorem cells41 : Ybaf.prog.cellsOf 41 = 8 := by kernel_rfl
theorem cells39 : Ybaf.prog.cellsOf 39 = 2 := by kernel_rfl
theorem cells3 : Ybaf.prog.cellsOf 3 = 1 := by kernel_rfl

/-- A pair of ints, read. -/
theorem pair_of {H : Type} {enc : TypeId × Value → H} {w : World} {base : Nat} {sp : Nat → Bool} {held : Bool} {fuel : Nat} {c d : Value} {y : DataW H × List MemPlace}
    (h : DataW.trod enc Ybaf.prog w base sp held fuel 39 [c, d] = some y) : ∃ m n, c = .int .i64 m ∧ d = .int .i64 n ∧ y.1 = .agg [.lit (.int .i64 m), .lit (.int .i64 n)] := by
  obtain ⟨ys, m, _, rfl, _, hl, hf⟩ := DataW.trod_struct Ybaf.underlying39 h
  match ys, hl with
  | [y0, y1], _ =>
    have h0 := hf 0 _ rfl
    have h1 := hf 1 _ rfl
    simp [cells3] at h0 h1
    obtain ⟨a, e0, rfl, _⟩ := DataW.trod_int Ybaf.underlying3 h0
    obtain ⟨b, e1, rfl, _⟩ := DataW.trod_int Ybaf.underlying3 h1
    simp at e0 e1
    exact ⟨a, b, e0, e1, rfl⟩

theorem moves_of_laid {W : World} (h : laidMetH Ybaf.prog Rows.lawS3769CWalkRow.laid W) : Moves W := by
  rw [MakeChecks.laidMetH_plain _ _ _ (by kernel_rfl)] at h
  obtain ⟨ps, ⟨g, t, cs, fuel, p, q, hg, ht, hvar, hd, _, _⟩, _⟩ := h
  obtain rfl := Option.some.inj (gM.symm.trans hg)
  obtain rfl := Option.some.inj (gMType.symm.trans ht)
  obtain ⟨xs, m, rfl, hx, hlen, hn, hel⟩ := DataW.trod_array Ybaf.underlying41 hd
  obtain ⟨l⟩ := cs
  rw [cells41] at hlen
  simp only [cells39] at hel
  match l, hlen with
  | [c0, c1, c2, c3, c4, c5, c6, c7], _ =>
  match xs, hn with
  | [x0, x1, x2, x3], _ =>
    have h0 := hel 0 (by omega)
    have h1 := hel 1 (by omega)
    have h2 := hel 2 (by omega)
    have h3 := hel 3 (by omega)
    simp at h0 h1 h2 h3
    obtain ⟨m0, n0, rfl, rfl, e0⟩ := pair_of h0
    obtain ⟨m1, n1, rfl, rfl, e1⟩ := pair_of h1
    obtain ⟨m2, n2, rfl, rfl, e2⟩ := pair_of h2
    obtain ⟨m3, n3, rfl, rfl, e3⟩ := pair_of h3
    simp [Rows.laid_example_com_episode_episode_gridworld_moves, e0, e1, e2, e3] at hx
    obtain ⟨⟨⟨rfl, rfl⟩, ⟨rfl, rfl⟩, ⟨rfl, rfl⟩, ⟨rfl, rfl⟩⟩, _⟩ := hx
    intro a ha
    have k := fun i => World.var?_cell gM hvar i
    have ha' : a = 0 ∨ a = 1 ∨ a = 2 ∨ a = 3 := by omega
    rcases ha' with rfl | rfl | rfl | rfl
    · exact ⟨by simpa [mv] using k 0, by simpa [mv] using k 1⟩
    · exact ⟨by simpa [mv] using k 2, by simpa [mv] using k 3⟩
    · exact ⟨by simpa [mv] using k 4, by simpa [mv] using k 5⟩
    · exact ⟨by simpa [mv] using k 6, by simpa [mv] using k 7⟩

/-- The door's own heap meets the condition. -/
theorem door_met (os : Os) (args : Array Value) : laidMetH Ybaf.prog Rows.lawS3769CWalkRow.laid ((World.doorLaid Ybaf.prog 400 os).forCall (fun _ _ => 0) ⟨#[], args, []⟩).memory := by
  rw [MakeChecks.laidMetH_plain _ _ _ (by kernel_rfl)]
  exact laidMet_of_run' 8 (by kernel_rfl) (by kernel_rfl)

/-- WHAT THE WALK IS TOLD OF A SLICE OF INTEGERS THAT CAME IN. -/
def IsRow (k : IntKind) (w : World) (a : Option Addr) (len cap : Nat) (zs : List Int) : Prop :=
  (a = none ∧ len = 0 ∧ cap = 0 ∧ zs = []) ∨
  ∃ x, a = some x ∧ len ≤ cap ∧ cap ≤ maxLen ∧ zs.length = cap ∧ (∀ i, i < zs.length → w.cell? (x.add i) = some (.int k (zs.getD i 0))) ∧ ∀ n ∈ zs, (Lit.int k n).wf = true

theorem walk (a0 a1 a2 a3 : Int) (x : Option Addr) (len cap : Nat) (z : List Int) (w : World) (w0 : (Lit.int .u8 a0).wf = true) (w1 : (Lit.int .u8 a1).wf = true) (w2 : (Lit.int .u8 a2).wf = true) (w3 : (Lit.int .u8 a3).wf = true)
    (hx : IsRow .u8 w x len cap z) (hw : 0 < w.heap.size) (hM : Moves w) :
    Calls Ybaf.prog 3 #[.int .u8 a0, .int .u8 a1, .int .u8 a2, .int .u8 a3, .slice x len cap] w fun e w' => e = .returned (.bool true) ∧ Below w.heap.size w w' := by
  have b0 := bounds_u8 w0
  have b1 := bounds_u8 w1
  have b2 := bounds_u8 w2
  have b3 := bounds_u8 w3
  by_cases hlong : 1024 < len
  · exact walk_long a0 a1 a2 a3 x len cap hlong w
  obtain ⟨n0, rfl⟩ := Int.eq_ofNat_of_zero_le b0.1
  obtain ⟨n1, rfl⟩ := Int.eq_ofNat_of_zero_le b1.1
  obtain ⟨n2, rfl⟩ := Int.eq_ofNat_of_zero_le b2.1
  obtain ⟨n3, rfl⟩ := Int.eq_ofNat_of_zero_le b3.1
  refine walk_go n0 n1 n2 n3 x len cap (fun i => z.getD i 0) (by omega) (by omega) (by omega) (by omega) (by omega) w hw hM ?_
  rcases hx with ⟨_, h, _, _⟩ | ⟨x, rfl, hl, _, hz, hc, hwf⟩
  · exact .inl h
  · by_cases h0 : len = 0
    · exact .inl h0
    · obtain ⟨b, o, rfl, hcell⟩ := ints_at hc (by omega)
      refine .inr ⟨b, o, rfl, World.block_lt_of_cell? _ _ (hcell 0 (by omega)), fun i hi => ⟨hcell i (by omega), ?_⟩⟩
      have hm : z.getD i 0 ∈ z := by
        have hi' : i < z.length := by omega
        simp [hi']
      have := bounds_u8 (hwf _ hm)
      exact ⟨this.1, this.2⟩

set_option maxRecDepth 100000 in
theorem lifted (os : Os) (started : os.Started) (H : Type) (enc : TypeId × Value → H) :
    ReturnsInTold none {} Ybaf.checked os 3 .any Input.okWide ((OpenSpec.ofChange Rows.lawS3769CWalkSpec).preRow enc Ybaf.prog Ybaf.f3 [] false Rows.lawS3769CWalkRow.laid) (fun F => ((OpenSpec.ofChange Rows.lawS3769CWalkSpec).at F).post enc Ybaf.prog Ybaf.f3 false true false false) (aloneAtReturn Ybaf.prog) nothingAlways := by
  refine returnsInTold_of_row (C := Ybaf.checked) (s := OpenSpec.ofChange Rows.lawS3769CWalkSpec) (by kernel_rfl) own started (by kernel_rfl) Ybaf.func3
    (OpenSpec.witness_stopped_at (enc := enc) (C := Ybaf.checked) false (World.doorLaid Ybaf.prog 400 os) #[.int .u8 0, .int .u8 0, .int .u8 0, .int .u8 0, .slice none 0 0] rfl (by kernel_rfl) (by kernel_rfl) (by kernel_rfl)
      (OpenSpec.preRow_of_B rfl 8 (by kernel_rfl) (by kernel_rfl) (door_met os _))) ?_
  intro F W base args ds gs before _ hF hval0 hW _ _ _ hL _
  have hval : ∀ (j : Nat) t v, Ybaf.f3.params[j]? = some t → args[j]? = some v → Value.okWide Ybaf.prog W .any base t v := hval0
  have hW' := hW
  obtain ⟨p, q, hA0, hV0, rfl, hfz, hnd⟩ := hW
  have hA : DataW.TrodAll enc Ybaf.prog W 0 (fun _ => true) true Ybaf.f3.params.toList args.toList ds p := hA0
  have hV : DataW.TrodVars enc Ybaf.prog W (fun _ => true) ["example.com/episode/episode/gridworld.moves"] gs q := hV0
  rw [Ybaf.params3] at hA hval
  obtain ⟨v0, vs0, d0, ds0, p0, q0, hargs, rfl, rfl, h0, r0⟩ := trodAll_cons hA
  obtain ⟨v1, vs1, d1, ds1, p1, q1, rfl, rfl, rfl, h1, r1⟩ := trodAll_cons r0
  obtain ⟨v2, vs2, d2, ds2, p2, q2, rfl, rfl, rfl, h2, r2⟩ := trodAll_cons r1
  obtain ⟨v3, vs3, d3, ds3, p3, q3, rfl, rfl, rfl, h3, r3⟩ := trodAll_cons r2
  obtain ⟨v4, vs4, d4, ds4, p4, q4, rfl, rfl, rfl, h4, r4⟩ := trodAll_cons r3
  obtain ⟨rfl, rfl, rfl⟩ := trodAll_nil r4
  obtain rfl : args = #[v0, v1, v2, v3, v4] := by cases args; simp_all
  obtain ⟨g, t, cs, fuel, d, p', rfl, hg, ht, hvar, hd, rfl⟩ := trodVars_one hV
  obtain rfl := Option.some.inj (gM.symm.trans hg)
  obtain rfl := Option.some.inj (gMType.symm.trans ht)
  obtain ⟨a0, rfl, rfl, rfl, w0⟩ := open_int Ybaf.underlying5 (hval 0 5 v0 rfl rfl) h0
  obtain ⟨a1, rfl, rfl, rfl, w1⟩ := open_int Ybaf.underlying5 (hval 1 5 v1 rfl rfl) h1
  obtain ⟨a2, rfl, rfl, rfl, w2⟩ := open_int Ybaf.underlying5 (hval 2 5 v2 rfl rfl) h2
  obtain ⟨a3, rfl, rfl, rfl, w3⟩ := open_int Ybaf.underlying5 (hval 3 5 v3 rfl rfl) h3
  obtain ⟨x4, len4, cap4, rfl⟩ := okWide_slice Ybaf.underlying22 (hval 4 22 v4 rfl rfl)
  have k4 := h4
  have lt4 : ∀ x ∈ p4, x.block < W.heap.size := by obtain ⟨m, hm⟩ := k4; exact DataW.trod_lt m _ _ _ hm
  obtain ⟨z4, w4⟩ : ∃ zs, IsRow .u8 W x4 len4 cap4 zs := by
    obtain ⟨fuel, hf⟩ := h4
    rcases open_ints Ybaf.underlying22 Ybaf.underlying5 (by kernel_rfl) hf with ⟨hcs, _⟩ | ⟨x, l, c, zs, hcs, _, hl, hm, hz, _, hcell, hwz⟩
    · simp [Value.cells] at hcs
      obtain ⟨rfl, rfl, rfl⟩ := hcs
      exact ⟨[], .inl ⟨rfl, rfl, rfl, rfl⟩⟩
    · simp [Value.cells] at hcs
      obtain ⟨rfl, rfl, rfl⟩ := hcs
      exact ⟨zs, .inr ⟨_, rfl, hl, hm, by simpa using hz, hcell, hwz⟩⟩
  have hM := moves_of_laid hL
  have hsz : 0 < W.heap.size := World.block_lt_of_cell? _ _ (hM 0 (by omega)).1
  have ltv : ∀ x ∈ p', x.block < W.heap.size := DataW.trod_lt _ _ _ _ hd
  clear hA0 hval0
  refine (walk a0 a1 a2 a3 x4 len4 cap4 z4 W w0 w1 w2 w3 w4 hsz hM).mono fun e W' ⟨he, bel⟩ => ?_
  subst he
  have hvar' := var?_below bel gM hsz hvar
  obtain ⟨fuel', hd'⟩ := Below.trod (v := .agg cs) laidOut (by kernel_rfl) (of_decide_eq_true (by kernel_rfl)) ⟨fuel, hd⟩ bel ltv
  refine ⟨_, rfl, _, _, _, [], _, _, hW', trodAll_mk1 (shut_bool Ybaf.underlying4 _), (trodAll_cons_mk (shut_int Ybaf.underlying5 w0) (trodAll_cons_mk (shut_int Ybaf.underlying5 w1) (trodAll_cons_mk (shut_int Ybaf.underlying5 w2) (trodAll_cons_mk (shut_int Ybaf.underlying5 w3) (trodAll_cons_mk (Below.trod laidOut (by kernel_rfl) (of_decide_eq_true (by kernel_rfl)) k4 bel lt4) trodAll_mk0))))), trodVars_mk1 gM gMType hvar' hd', bel.frame _, fun h => by cases h⟩

/-- ████ THE STATEMENT ████ -/
theorem proved : Rows.LawS3769CWalkToldSaid :=
  Claim7.holds_of_told_tied_any_at .later 3 Ybaf.f3 "fmt.Sprintf" [] [] _ _ _ _ _ (by kernel_rfl) rfl rfl rfl laidOut (by kernel_rfl) rfl ⟨rfl, rfl, rfl, rfl, rfl, rfl, rfl⟩ rfl rfl (by kernel_rfl) (by kernel_rfl) Ybaf.func3 (by kernel_rfl)
    (of_decide_eq_true (by kernel_rfl)) (by unfold Func.isWrapper; first | (rw [if_pos (by decide +kernel)]; kernel_rfl) | (rw [if_neg (by decide +kernel)]; exact ⟨rfl, rfl⟩)) stops.symm rfl stopKnobs.symm (by kernel_rfl)
    (by kernel_rfl) (by kernel_rfl) (by kernel_rfl) (by kernel_rfl) (by kernel_rfl) (by kernel_rfl) (by kernel_rfl) (by kernel_rfl) (by kernel_rfl) rfl (by kernel_rfl) rfl rfl
    rfl rfl
    rfl (by kernel_rfl) (by kernel_rfl) (by kernel_rfl) (by decide) (by kernel_rfl) lawS3769CWalk_row_tie
    (OpenClaim.moreEntering_of (by kernel_rfl) (by kernel_rfl) (by kernel_rfl) (by kernel_rfl) (by kernel_rfl) (by kernel_rfl) (by kernel_rfl) (by kernel_rfl) (by kernel_rfl) (by kernel_rfl))
    ⟨_, WideRow.started_initial, still _⟩
    (fun os started _ H enc _ => lifted os started H enc)
#print axioms proved
end Go.Proofs.YbulkbzamFmt.lawS3769CWalk
