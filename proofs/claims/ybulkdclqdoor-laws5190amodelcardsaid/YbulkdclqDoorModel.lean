/-
  LawS5190AModel: the row and the tied card, out of the walk (YbulkdclqDoorLaw.lean).
-/
import Derived.Test.YbulkdclqDoorRows
import Derived.Test.YbulkdclqDoorTie
import Derived.Test.YbulkdclqDoorCards
import Derived.Test.YbulkdclqDoorLaw
import Derived.ProofKit
import Derived.LaidMore
import Derived.Lay
import Derived.OpenShut
import Derived.Stop.Joined
import Derived.ChangeOld
import Derived.Deep.Grids
import Derived.SevenTiedAt
namespace Go.Proofs.YbulkdclqDoor
open Go.ChangeShapes Go.WideShapes Go.ChangeAt Go.RowKit

theorem own : ownKnob Ybad.prog.godebug = none := by kernel_rfl
theorem laidOut : laidOutB Ybad.prog = true := by kernel_rfl
theorem gZ4 : Ybad.prog.globalNamed ((Rows.lawS5190AModelRow.laid.map (·.1)).getD 0 "") = some 0 := by kernel_rfl
theorem gZ0 : Ybad.prog.globalNamed ((Rows.lawS5190AModelRow.laid.map (·.1)).getD 1 "") = some 1 := by kernel_rfl
theorem tZ4 : (Ybad.prog.globals[0]?).map (·.type) = some 30 := by kernel_rfl
theorem tZ0 : (Ybad.prog.globals[1]?).map (·.type) = some 30 := by kernel_rfl
theorem cells28 : Ybad.prog.cellsOf 28 = 1 := by kernel_rfl
theorem cells30 : Ybad.prog.cellsOf 30 = 1 := by kernel_rfl

/-- A start whose listed variables are laid by the function meets the condition. -/
theorem laid_met (os : Os) (args : Array Value) : laidMetH Ybad.prog Rows.lawS5190AModelRow.laid ((World.laidAll Ybad.prog os Rows.lawS5190AModelRow.laid).forCall (fun _ _ => 0) ⟨#[], args, []⟩).memory := by
  rw [MakeChecks.laidMetH_plain _ _ _ (by kernel_rfl)]
  exact laidMet_laidAll args (by kernel_rfl) (by kernel_rfl)

/-- The cells behind an address that came in: the address is a plain one. -/
theorem cells_at {W : World} {x : Addr} {n : Nat} {f : Nat → Value} (h : ∀ i, i < n → W.cell? (x.add i) = some (f i)) (hn : 0 < n) :
    ∃ b off, x = ⟨b, off, none⟩ ∧ b < W.heap.size ∧ ∀ i, i < n → W.cell? ⟨b, off + i, none⟩ = some (f i) := by
  obtain ⟨b, off, spot⟩ := x
  have h0 := h 0 hn
  have hs : spot = none := by simpa [Addr.add] using World.cell?_spot h0
  subst hs
  refine ⟨b, off, rfl, by simpa [Addr.add] using World.block_lt_of_cell? _ _ h0, fun i hi => ?_⟩
  have := h i hi
  by_cases e : i = 0
  · subst e; simpa [Addr.add] using this
  · simpa [Addr.add, e] using this

theorem one_cell {l : List Value} {v : Value} (hl : l.length = 1) (h : (l.drop 0).take 1 = [v]) : l = [v] := by
  match l, hl with
  | [c], _ => simpa using h

/-- WHAT THE CONDITION GIVES THE WALK: z4 holds a pointer that is not nil, z0 the nil pointer. -/
theorem of_laid {W : World} (h : laidMetH Ybad.prog Rows.lawS5190AModelRow.laid W) : ∃ z, W.cell? ⟨0, 0, none⟩ = some (.pointer (some z)) ∧ W.cell? ⟨1, 0, none⟩ = some (.pointer none) := by
  rw [MakeChecks.laidMetH_plain _ _ _ (by kernel_rfl)] at h
  obtain ⟨ps, ⟨g0, t0, cs0, f0, p0, q0, hg0, ht0, hv0, hd0, ⟨g1, t1, cs1, f1, p1, q1, hg1, ht1, hv1, hd1, _, _⟩, _⟩, _, _⟩ := h
  obtain rfl := Option.some.inj (gZ4.symm.trans hg0)
  obtain rfl := Option.some.inj (gZ0.symm.trans hg1)
  obtain rfl := Option.some.inj (tZ4.symm.trans ht0)
  obtain rfl := Option.some.inj (tZ0.symm.trans ht1)
  obtain ⟨y0, n0, hx0, hl0, hp0⟩ := trod_struct1 Ybad.underlying30 hd0
  obtain ⟨y1, n1, hx1, hl1, hp1⟩ := trod_struct1 Ybad.underlying30 hd1
  rw [cells30] at hl0 hl1
  simp only [cells28] at hp0 hp1
  simp only [Rows.laid_net_netip_z4, Rows.laid_net_netip_z0, Prod.mk.injEq, DataW.agg.injEq, List.cons.injEq, and_true] at hx0 hx1
  have e1 := World.var?_cell hg1 hv1 0
  have e0 := World.var?_cell hg0 hv0 0
  rcases DataW.trod_pointer Ybad.underlying28 hp0 with ⟨_, hy⟩ | ⟨a, cs', y, n, _, hcs0, _, _, _⟩
  · rw [hy] at hx0; simp at hx0
  rcases DataW.trod_pointer Ybad.underlying28 hp1 with ⟨hcs1, _⟩ | ⟨a', cs'', y', n', _, _, hy, _, _⟩
  · have k0 := one_cell hl0 hcs0
    have k1 := one_cell hl1 hcs1
    rw [Array.eq_one_of_toList k0] at e0
    rw [Array.eq_one_of_toList k1] at e1
    exact ⟨a, by simpa using e0, by simpa using e1⟩
  · rw [hy] at hx1; simp at hx1

set_option maxRecDepth 100000 in
theorem lifted (os : Os) (started : os.Started) (H : Type) (enc : TypeId × Value → H) :
    ReturnsInHanded {} Ybad.checked os 3 .any (fun w args => (Rows.lawS5190AModelSpec.pre enc Ybad.prog Ybad.f3 [] false w args ∧ laidMetH Ybad.prog Rows.lawS5190AModelRow.laid w) ∧ sizedMet enc Ybad.prog Ybad.f3 (OpenSpec.ofChange Rows.lawS5190AModelSpec) false w args)
      (Rows.lawS5190AModelSpec.post enc Ybad.prog Ybad.f3 false true false false) := by
  refine returnsInHanded_of_change_and (C := Ybad.checked) (X := fun w _ => laidMetH Ybad.prog Rows.lawS5190AModelRow.laid w) (fun _ _ _ hh h => h.of_heap hh) own started (by kernel_rfl) Ybad.func3
    (ChangeSpec.witness_shaped (enc := enc) (C := Ybad.checked) (os := os) (X := fun w _ => laidMetH Ybad.prog Rows.lawS5190AModelRow.laid w) false (World.laidAll Ybad.prog os Rows.lawS5190AModelRow.laid) #[.slice none 0 0, .slice none 0 0, .int .u8 0] 8 (World.laidAll_os _ _ _) (World.shaped_of_ZipB (by kernel_rfl) (by kernel_rfl)) (by kernel_rfl) (by kernel_rfl) (by kernel_rfl) (laid_met os _)) ?_
  intro W base args ds gs before hval0 hW _ _ hL _
  have hval : ∀ (j : Nat) t v, Ybad.f3.params[j]? = some t → args[j]? = some v → Value.okWide Ybad.prog W .any base t v := hval0
  have hW' := hW
  obtain ⟨p, q, hA0, hV, rfl, hfz, hnd⟩ := hW
  have hA : DataW.TrodAll enc Ybad.prog W 0 (fun _ => true) true Ybad.f3.params.toList args.toList ds p := hA0
  rw [Ybad.params3] at hA hval
  obtain ⟨v0, v1, v2, d0, d1, d2, p0, p1, p2, rfl, rfl, rfl, h0, h1, h2⟩ := trodAll_three hA
  obtain ⟨rfl, rfl⟩ := trodVars_none hV
  obtain ⟨at_, rfl, rfl, rfl, w2⟩ := open_int Ybad.underlying5 (hval 2 5 v2 rfl rfl) h2
  obtain ⟨ar, n, cr, rfl⟩ := okWide_slice Ybad.underlying22 (hval 0 22 v0 rfl rfl)
  obtain ⟨af, lf, cf, rfl⟩ := okWide_slice Ybad.underlying23 (hval 1 23 v1 rfl rfl)
  have k0 := h0
  have k1 := h1
  have lt0 : ∀ x ∈ p0, x.block < W.heap.size := by obtain ⟨m, hm⟩ := k0; exact DataW.trod_lt m _ _ _ hm
  have lt1 : ∀ x ∈ p1, x.block < W.heap.size := by obtain ⟨m, hm⟩ := k1; exact DataW.trod_lt m _ _ _ hm
  have bat := bounds_u8 w2
  obtain ⟨z, hz, hz0⟩ := of_laid hL
  have hs1 : 1 < W.heap.size := World.block_lt_of_cell? W ⟨1, 0, none⟩ hz0
  obtain ⟨R, hR, hr, hnm⟩ : ∃ R : Nat → Int, (∀ i, 0 ≤ R i ∧ R i ≤ 255) ∧ (∀ i, i < n → ∃ b off, ar = some ⟨b, off, none⟩ ∧ b < W.heap.size ∧ W.cell? ⟨b, off + i, none⟩ = some (.int .u8 (R i))) ∧ n ≤ 9223372036854775807 := by
    obtain ⟨fuel, hf⟩ := h0
    rcases open_ints Ybad.underlying22 Ybad.underlying5 (by kernel_rfl) hf with ⟨hcs, _⟩ | ⟨x, l, c, zs, hcs, _, hl, hm, hzl, _, hcell, hwz⟩
    · simp [Value.cells] at hcs
      obtain ⟨rfl, rfl, rfl⟩ := hcs
      exact ⟨fun _ => 0, fun _ => (show (0 : Int) ≤ 0 ∧ (0 : Int) ≤ 255 by omega), fun i hi => absurd hi (Nat.not_lt_zero _), by omega⟩
    · simp [Value.cells] at hcs
      obtain ⟨rfl, rfl, rfl⟩ := hcs
      have hzl' : zs.length = cr := by simpa using hzl
      refine ⟨fun i => zs.getD i 0, fun i => ?_, fun i hi => ?_, by unfold maxLen at hm; omega⟩
      · show 0 ≤ zs.getD i 0 ∧ zs.getD i 0 ≤ 255
        by_cases hi : i < zs.length
        · have : zs.getD i 0 ∈ zs := by simp [List.getD, hi]
          exact bounds_u8 (hwz _ this)
        · have : zs.getD i 0 = 0 := by simp [List.getD, Nat.not_lt.1 hi]
          rw [this]; omega
      · obtain ⟨b, off, rfl, hb, hc⟩ := cells_at (f := fun i => .int .u8 (zs.getD i 0)) hcell (by omega)
        exact ⟨b, off, rfl, hb, hc i (by omega)⟩
  obtain ⟨F, hF⟩ : ∃ F : Nat → Bool, FitIs W.heap.size W af lf F := by
    obtain ⟨fuel, hf⟩ := h1
    rcases Go.Deep.open_bools Ybad.underlying23 Ybad.underlying4 (by kernel_rfl) hf with ⟨hcs, _⟩ | ⟨x, l, c, B, hcs, _, hl, hm, _, hcell⟩
    · simp [Value.cells] at hcs
      obtain ⟨rfl, rfl, rfl⟩ := hcs
      exact ⟨fun _ => false, by omega, fun i hi => absurd hi (Nat.not_lt_zero _), fun _ _ => rfl⟩
    · simp [Value.cells] at hcs
      obtain ⟨rfl, rfl, rfl⟩ := hcs
      refine ⟨fun i => decide (i < lf) && B i, by unfold maxLen at hm; omega, fun i hi => ?_, fun i hi => by simp [Nat.not_lt.2 hi]⟩
      obtain ⟨b, off, rfl, hb, hc⟩ := cells_at (f := fun i => .bool (B i)) hcell (by omega)
      exact ⟨b, off, rfl, hb, by rw [hc i (by omega)]; simp [hi]⟩
  clear hA0 hval0
  have fin : ∀ (e : Ending) (W' : World), (e = .returned (.bool true) ∧ Below W.heap.size W W') → ∃ v, e = .returned v ∧ Rows.lawS5190AModelSpec.post enc Ybad.prog Ybad.f3 false true false false W #[.slice ar n cr, .slice af lf cf, .int .u8 at_] v W' := by
    rintro e W' ⟨rfl, bel⟩
    exact ⟨_, rfl, _, _, _, [], _, [], hW', trodAll_mk1 (shut_bool Ybad.underlying4 _), (trodAll_mk3 (Below.trod laidOut (by kernel_rfl) (of_decide_eq_true (by kernel_rfl)) k0 bel lt0) (Below.trod laidOut (by kernel_rfl) (of_decide_eq_true (by kernel_rfl)) k1 bel lt1) (shut_int Ybad.underlying5 w2)), rfl, bel.frame _, fun h => by cases h⟩
  by_cases hn : n ≤ 1024
  · exact (law_walk n ar cr af lf cf F R z at_ W hn hR bat.1 bat.2 hr hF hz hz0 hs1).mono fun e W' h => fin e W' h
  · exact (law_long n ar cr af lf cf at_ W (by omega) hnm).mono fun e W' h => fin e W' h

theorem row_holds : Rows.LawS5190AModelSaid :=
  OpenClaim.holds_of_wide 3 Ybad.f3 rfl rfl rfl rfl rfl rfl rfl ⟨rfl, rfl, rfl, rfl, rfl⟩ rfl rfl rfl rfl rfl (by kernel_rfl) Ybad.func3 (by kernel_rfl)
    (of_decide_eq_true (by kernel_rfl)) (by unfold Func.isWrapper; first | (rw [if_pos (by decide +kernel)]; kernel_rfl) | (rw [if_neg (by decide +kernel)]; exact ⟨rfl, rfl⟩))
    (fun os started H enc _ => lifted os started H enc)

/-- The statement: the tied card. -/
theorem card_holds : Rows.LawS5190AModelCardSaid :=
  Claim7.holds_tied_plain_at .later [] [.called, .zero] true (true, "60e7ea4882b790a8087320e9627f6ccaca272b24f84328671bb06c02ee4f05a9") false
    row_holds (fun _ h => by cases h) (by kernel_rfl) (fun _ h => by cases h) lawS5190AModel_row_tie rfl ⟨rfl, rfl⟩ (by kernel_rfl) rfl
    (fun f fn hf hfn => by
      obtain rfl : f = 3 := Option.some.inj ((show Ybad.prog.funcNamed Rows.lawS5190AModelRow.func = some 3 by kernel_rfl).symm.trans hf) |>.symm
      obtain rfl : fn = Ybad.f3 := (Option.some.inj (Ybad.func3.symm.trans hfn)).symm
      exact ⟨by kernel_rfl, fun j t ht => by
        rw [Ybad.params3] at ht
        have hm : t ∈ [22, 23, 5] := by simpa using Array.mem_of_getElem? ht
        have hall : ([22, 23, 5].all fun u => !Ybad.prog.wantsStandIn u) = true := by kernel_rfl
        exact (show Ybad.prog.wantsStandIn t = false by simpa using List.all_eq_true.1 hall t hm)⟩)
    (by kernel_rfl)
end Go.Proofs.YbulkdclqDoor
