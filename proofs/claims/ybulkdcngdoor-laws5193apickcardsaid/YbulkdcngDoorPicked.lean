/-
  LawS5193APick: the row and the tied card, out of the walk (YbulkdcngDoorLaw.lean).
-/
import Derived.Test.YbulkdcngDoorRows
import Derived.Test.YbulkdcngDoorTie
import Derived.Test.YbulkdcngDoorCards
import Derived.Test.YbulkdcngDoorLaw
import Derived.ProofKit
import Derived.LaidMore
import Derived.Lay
import Derived.OpenShut
import Derived.Stop.Joined
import Derived.Stop.LaidErr
import Derived.ChangeOld
import Derived.Deep.Slices
import Derived.Deep.Strs
import Derived.SevenTiedAt
import Derived.WalkSmall
namespace Go.Proofs.YbulkdcngDoor
open Go.ChangeShapes Go.WideShapes Go.ChangeAt Go.RowKit Go.Deep
set_option linter.unusedVariables false

theorem own : ownKnob Ybad.prog.godebug = none := by kernel_rfl
theorem laidOut : laidOutB Ybad.prog = true := by kernel_rfl
def nameOf (i : Nat) : String := (Rows.lawS5193APickRow.laid.map (·.1)).getD i ""
theorem gPart : Ybad.prog.globalNamed (nameOf 0) = some 1 := by kernel_rfl
theorem gOrder : Ybad.prog.globalNamed (nameOf 1) = some 2 := by kernel_rfl
theorem gLarge : Ybad.prog.globalNamed (nameOf 2) = some 4 := by kernel_rfl
theorem gSmall : Ybad.prog.globalNamed (nameOf 3) = some 3 := by kernel_rfl
theorem tPart : (Ybad.prog.globals[1]?).map (·.type) = some 60 := by kernel_rfl
theorem tOrder : (Ybad.prog.globals[2]?).map (·.type) = some 60 := by kernel_rfl
theorem tSmall : (Ybad.prog.globals[3]?).map (·.type) = some 60 := by kernel_rfl
theorem tLarge : (Ybad.prog.globals[4]?).map (·.type) = some 60 := by kernel_rfl
theorem cells129 : Ybad.prog.cellsOf 129 = 1 := by kernel_rfl
theorem cells9 : Ybad.prog.cellsOf 9 = 1 := by kernel_rfl
theorem cells3 : Ybad.prog.cellsOf 3 = 1 := by kernel_rfl
theorem cells21 : Ybad.prog.cellsOf 21 = 1 := by kernel_rfl
theorem cells4 : Ybad.prog.cellsOf 4 = 1 := by kernel_rfl
theorem cells47 : Ybad.prog.cellsOf 47 = 3 := by kernel_rfl
theorem cells55 : Ybad.prog.cellsOf 55 = 3 := by kernel_rfl
theorem comp127 : (Ybad.prog.info? 127).map (·.comparable) = some true := by kernel_rfl
theorem info129 : (Ybad.prog.info? 129).isSome = true := by kernel_rfl
/-- The name of the sentinels' type, taken from the listed datum; and without its star. -/
def errName : String := match (Rows.laid_example_com_holdfast_holdfast_internal_store_ErrInvalidPart (H := Unit)) with | .iface nm _ => nm | _ => ""
def errBase : String := String.ofList (errName.toList.drop 1)
theorem row127 (u : TypeId) (h : Ybad.prog.typeName? 3 u = some errName) : u = 127 :=
  typeName_ptr_named (nm := errBase) (by kernel_rfl) (by kernel_rfl) (by decide) u (h.trans (congrArg some (by kernel_rfl)))
theorem eqErr (a : Addr) (w : World) : (binOp .eql 60 (.iface 127 (.pointer (some a))) (.iface 127 (.pointer (some a)))).run Ybad.prog w = .ok (.bool true) w := by
  obtain ⟨j, hj⟩ := Option.isSome_iff_exists.1 info129
  obtain ⟨i, hi, hc⟩ := Option.map_eq_some_iff.1 comp127
  exact run_eql_iface_ptr_same w a Ybad.underlying60 Ybad.underlying127 hi hc hj

theorem laid_met (os : Os) (args : Array Value) : laidMetH Ybad.prog Rows.lawS5193APickRow.laid ((World.laidAll Ybad.prog os Rows.lawS5193APickRow.laid).forCall (fun _ _ => 0) ⟨#[], args, []⟩).memory := by
  rw [MakeChecks.laidMetH_plain _ _ _ (by kernel_rfl)]
  exact laidMet_laidAll args (by kernel_rfl) (by kernel_rfl)

/-- WHAT THE CONDITION GIVES THE WALK: each of the four variables holds an error's pointer. -/
theorem of_laid {W : World} (h : laidMetH Ybad.prog Rows.lawS5193APickRow.laid W) : ∃ ea : Nat → Addr,
    W.var? Ybad.prog (nameOf 0) = some #[.iface 127 (.pointer (some (ea 1)))] ∧ W.var? Ybad.prog (nameOf 1) = some #[.iface 127 (.pointer (some (ea 2)))] ∧
    W.var? Ybad.prog (nameOf 3) = some #[.iface 127 (.pointer (some (ea 3)))] ∧ W.var? Ybad.prog (nameOf 2) = some #[.iface 127 (.pointer (some (ea 4)))] := by
  rw [MakeChecks.laidMetH_plain _ _ _ (by kernel_rfl)] at h
  obtain ⟨a0, _, hv0, _, _, _⟩ := laid_sentinel h gPart tPart Ybad.underlying60 row127 Ybad.underlying127 Ybad.underlying129 rfl rfl Ybad.underlying9 cells129 cells9
  obtain ⟨a1, _, hv1, _, _, _⟩ := laid_sentinel h.tail gOrder tOrder Ybad.underlying60 row127 Ybad.underlying127 Ybad.underlying129 rfl rfl Ybad.underlying9 cells129 cells9
  obtain ⟨a2, _, hv2, _, _, _⟩ := laid_sentinel h.tail.tail gLarge tLarge Ybad.underlying60 row127 Ybad.underlying127 Ybad.underlying129 rfl rfl Ybad.underlying9 cells129 cells9
  obtain ⟨a3, _, hv3, _, _, _⟩ := laid_sentinel h.tail.tail.tail gSmall tSmall Ybad.underlying60 row127 Ybad.underlying127 Ybad.underlying129 rfl rfl Ybad.underlying9 cells129 cells9
  exact ⟨fun c => if c = 1 then a0 else if c = 2 then a1 else if c = 3 then a3 else a2, hv0, hv1, hv3, hv2⟩

/-- The four named variables, read as tokens, in whatever world holds them so. -/
theorem vars_read4 {H : Type} (enc : TypeId × Value → H) {W : World} {x1 x2 x3 x4 : Value} (h1 : W.var? Ybad.prog (nameOf 0) = some #[x1]) (h2 : W.var? Ybad.prog (nameOf 1) = some #[x2]) (h3 : W.var? Ybad.prog (nameOf 3) = some #[x3]) (h4 : W.var? Ybad.prog (nameOf 2) = some #[x4])
    (i1 : IsIface x1) (i2 : IsIface x2) (i3 : IsIface x3) (i4 : IsIface x4) (sp : Nat → Bool) :
    DataW.TrodVars enc Ybad.prog W sp Rows.lawS5193APickSpec.vars [tok enc x1, tok enc x2, tok enc x3, tok enc x4] [.cell 1 0, .cell 2 0, .cell 3 0, .cell 4 0] :=
  ⟨1, 60, #[x1], 1, [], [.cell 2 0, .cell 3 0, .cell 4 0], gPart, tPart, h1, trod_held Ybad.underlying60 i1 0,
    ⟨2, 60, #[x2], 1, [], [.cell 3 0, .cell 4 0], gOrder, tOrder, h2, trod_held Ybad.underlying60 i2 0,
      ⟨3, 60, #[x3], 1, [], [.cell 4 0], gSmall, tSmall, h3, trod_held Ybad.underlying60 i3 0,
        ⟨4, 60, #[x4], 1, [], [], gLarge, tLarge, h4, trod_held Ybad.underlying60 i4 0, rfl, rfl⟩, rfl⟩, rfl⟩, rfl⟩

theorem add_at {W : World} {b off : Nat} {i j : Nat} {v : Value} (h : W.cell? (((⟨b, off, none⟩ : Addr).add i).add j) = some v) : W.cell? ⟨b, off + i + j, none⟩ = some v := by
  by_cases e : i = 0
  · subst e
    by_cases e2 : j = 0
    · subst e2; simpa [Addr.add] using h
    · simpa [Addr.add, e2] using h
  · by_cases e2 : j = 0
    · subst e2; simpa [Addr.add, e] using h
    · simpa [Addr.add, e, e2] using h

/-- A slice of structs of three fields of one cell each, opened. -/
theorem open3 {P : Program} {H : Type} {enc : TypeId × Value → H} {W : World} {t e : TypeId} {f0 f1 f2 : Field} {fuel : Nat} {cs : List Value} {x : DataW H × List MemPlace} (ht : P.underlying t = some (.slice e)) (he : P.underlying e = some (.struct #[f0, f1, f2]))
    (o0 : f0.offset = 0) (o1 : f1.offset = 1) (o2 : f2.offset = 2) (c0 : P.cellsOf f0.type = 1) (c1 : P.cellsOf f1.type = 1) (c2 : P.cellsOf f2.type = 1) (hc : P.cellsOf e = 3)
    (h : DataW.trod enc P W 0 (fun _ => true) true fuel t cs = some x) :
    cs = [.slice none 0 0] ∨ ∃ (a : Addr) (len cap n : Nat), cs = [.slice (some a) len cap] ∧ len ≤ cap ∧ cap ≤ maxLen ∧
      ∀ i, i < len → ∃ b off v0 v1 v2 y0 y1 y2, a = ⟨b, off, none⟩ ∧ b < W.heap.size ∧ W.cell? ⟨b, off + i * 3, none⟩ = some v0 ∧ W.cell? ⟨b, off + i * 3 + 1, none⟩ = some v1 ∧ W.cell? ⟨b, off + i * 3 + 2, none⟩ = some v2 ∧
        (∃ n, DataW.trod enc P W 0 (fun _ => true) true n f0.type [v0] = some y0) ∧ (∃ n, DataW.trod enc P W 0 (fun _ => true) true n f1.type [v1] = some y1) ∧ (∃ n, DataW.trod enc P W 0 (fun _ => true) true n f2.type [v2] = some y2) := by
  rcases open_slice ht h with ⟨h0, _⟩ | ⟨a, len, cap, m, n, D, Pl, hcs, _, hl, hm, hmm, _, hel⟩
  · exact Or.inl h0
  right
  simp only [if_true] at hmm
  subst hmm
  refine ⟨a, len, m, n, hcs, hl, hm, fun i hi => ?_⟩
  obtain ⟨cs', hcells, htr⟩ := hel i (by omega)
  rw [hc] at hcells
  obtain ⟨_, hlen, hget⟩ := World.cells?_some hcells
  obtain ⟨y0, y1, y2, n', _, _, t0, t1, t2⟩ := trod_struct3 he htr
  match cs', hlen with
  | [v0, v1, v2], _ =>
    rw [o0, c0] at t0
    rw [o1, c1] at t1
    rw [o2, c2] at t2
    have g0 := hget 0 (by omega)
    have g1 := hget 1 (by omega)
    have g2 := hget 2 (by omega)
    simp at g0 g1 g2 t0 t1 t2
    obtain ⟨b, off, spot⟩ := a
    have hb : b < W.heap.size := by
      have hlt := World.block_lt_of_cell? _ _ g1
      have e0 : (((⟨b, off, spot⟩ : Addr).add (i * 3)).add 1).block = b := by
        by_cases e : i * 3 = 0 <;> simp [Addr.add, e]
      rw [e0] at hlt
      exact hlt
    have hs : spot = none := by
      obtain ⟨cs'', hcells0, _⟩ := hel 0 (by omega)
      rw [hc] at hcells0
      obtain ⟨_, hlen0, hget0⟩ := World.cells?_some hcells0
      match cs'', hlen0 with
      | [u0, _, _], _ =>
        have q0 := hget0 0 (by omega)
        simp at q0
        simpa [Addr.add] using World.cell?_spot q0
    subst hs
    exact ⟨b, off, v0, v1, v2, y0, y1, y2, rfl, hb, by simpa using add_at (j := 0) g0, add_at g1, add_at g2, ⟨n', t0⟩, ⟨n', t1⟩, ⟨n', t2⟩⟩

set_option maxRecDepth 100000 in
theorem lifted (os : Os) (started : os.Started) (H : Type) (enc : TypeId × Value → H) :
    ReturnsInHanded {} Ybad.checked os 3 .any (fun w args => (Rows.lawS5193APickSpec.pre enc Ybad.prog Ybad.f3 [] false w args ∧ laidMetH Ybad.prog Rows.lawS5193APickRow.laid w) ∧ sizedMet enc Ybad.prog Ybad.f3 (OpenSpec.ofChange Rows.lawS5193APickSpec) false w args)
      (Rows.lawS5193APickSpec.post enc Ybad.prog Ybad.f3 false true false false) := by
  refine returnsInHanded_of_change_and (C := Ybad.checked) (X := fun w _ => laidMetH Ybad.prog Rows.lawS5193APickRow.laid w) (fun _ _ _ hh h => h.of_heap hh) own started (by kernel_rfl) Ybad.func3
    (ChangeSpec.witness_shaped (enc := enc) (C := Ybad.checked) (os := os) (X := fun w _ => laidMetH Ybad.prog Rows.lawS5193APickRow.laid w) false (World.laidAll Ybad.prog os Rows.lawS5193APickRow.laid) #[.slice none 0 0, .slice none 0 0] 8 (World.laidAll_os _ _ _) (World.shaped_of_ZipB (by kernel_rfl) (by kernel_rfl)) (by kernel_rfl) (by kernel_rfl) (by kernel_rfl) (laid_met os _)) ?_
  intro W base args ds gs before hval0 hW _ _ hL _
  have hval : ∀ (j : Nat) t v, Ybad.f3.params[j]? = some t → args[j]? = some v → Value.okWide Ybad.prog W .any base t v := hval0
  have hW' := hW
  obtain ⟨p, q, hA0, hV0, rfl, hfz, hnd⟩ := hW
  have hA : DataW.TrodAll enc Ybad.prog W 0 (fun _ => true) true Ybad.f3.params.toList args.toList ds p := hA0
  have hV : DataW.TrodVars enc Ybad.prog W (fun _ => true) Rows.lawS5193APickSpec.vars gs q := hV0
  rw [Ybad.params3] at hA hval
  obtain ⟨v0, v1, d0, d1, p0, p1, rfl, rfl, rfl, h0, h1⟩ := trodAll_two hA
  obtain ⟨ar, n, cr, rfl⟩ := okWide_slice Ybad.underlying22 (hval 0 22 v0 rfl rfl)
  obtain ⟨al, m, cl, rfl⟩ := okWide_slice Ybad.underlying23 (hval 1 23 v1 rfl rfl)
  have k0 := h0
  have k1 := h1
  have lt0 : ∀ x ∈ p0, x.block < W.heap.size := by obtain ⟨m, hm⟩ := k0; exact DataW.trod_lt m _ _ _ hm
  have lt1 : ∀ x ∈ p1, x.block < W.heap.size := by obtain ⟨m, hm⟩ := k1; exact DataW.trod_lt m _ _ _ hm
  obtain ⟨ea, e1, e2, e3, e4⟩ := of_laid hL
  obtain ⟨rfl, rfl⟩ := hV.unique (vars_read4 enc e1 e2 e3 e4 trivial trivial trivial trivial _)
  have g1 : W.cell? ⟨1, 0, none⟩ = some (.iface 127 (.pointer (some (ea 1)))) := by simpa using World.var?_cell gPart e1 0
  have g2 : W.cell? ⟨2, 0, none⟩ = some (.iface 127 (.pointer (some (ea 2)))) := by simpa using World.var?_cell gOrder e2 0
  have g3 : W.cell? ⟨3, 0, none⟩ = some (.iface 127 (.pointer (some (ea 3)))) := by simpa using World.var?_cell gSmall e3 0
  have g4 : W.cell? ⟨4, 0, none⟩ = some (.iface 127 (.pointer (some (ea 4)))) := by simpa using World.var?_cell gLarge e4 0
  have hs4 : 4 < W.heap.size := World.block_lt_of_cell? W ⟨4, 0, none⟩ g4
  have hG : ErrsAre W 127 ea := fun c h1 h2 => by
    have : c = 1 ∨ c = 2 ∨ c = 3 ∨ c = 4 := by omega
    rcases this with rfl | rfl | rfl | rfl
    · exact g1
    · exact g2
    · exact g3
    · exact g4
  obtain ⟨N, T, S, hNS, hP, hn⟩ : ∃ (N : Nat → Int) (T : Nat → ByteArray) (S : Nat → Int), (∀ i, (-9223372036854775808 ≤ N i ∧ N i ≤ 9223372036854775807) ∧ (-2147483648 ≤ S i ∧ S i ≤ 2147483647)) ∧
      (∀ i, i < n → ∃ b off, ar = some ⟨b, off, none⟩ ∧ b < W.heap.size ∧ W.cell? ⟨b, off + i * 3, none⟩ = some (.int .i64 (N i)) ∧ W.cell? ⟨b, off + i * 3 + 1, none⟩ = some (.string (T i)) ∧ W.cell? ⟨b, off + i * 3 + 2, none⟩ = some (.int .i32 (S i))) ∧ n ≤ 9223372036854775807 := by
    obtain ⟨fuel, hf⟩ := h0
    rcases open3 Ybad.underlying22 Ybad.underlying47 rfl rfl rfl cells3 cells9 cells21 cells47 hf with hcs | ⟨a, len, cap, _, hcs, hl, hm, hel⟩
    · simp [Value.cells] at hcs
      obtain ⟨rfl, rfl, rfl⟩ := hcs
      exact ⟨fun _ => 0, fun _ => ByteArray.empty, fun _ => 0, fun _ => by simp, fun i hi => absurd hi (Nat.not_lt_zero _), by omega⟩
    · simp [Value.cells] at hcs
      obtain ⟨rfl, rfl, rfl⟩ := hcs
      obtain ⟨f, hf⟩ := choose_lt (α := Int × ByteArray × Int) (n := n) (p := fun i x => ((-9223372036854775808 ≤ x.1 ∧ x.1 ≤ 9223372036854775807) ∧ (-2147483648 ≤ x.2.2 ∧ x.2.2 ≤ 2147483647)) ∧ ∃ b off, a = ⟨b, off, none⟩ ∧ b < W.heap.size ∧ W.cell? ⟨b, off + i * 3, none⟩ = some (.int .i64 x.1) ∧ W.cell? ⟨b, off + i * 3 + 1, none⟩ = some (.string x.2.1) ∧ W.cell? ⟨b, off + i * 3 + 2, none⟩ = some (.int .i32 x.2.2)) (fun i hi => by
        obtain ⟨b, off, v0, v1, v2, y0, y1, y2, ea, hb, c0, c1, c2, ⟨_, t0⟩, ⟨_, t1⟩, ⟨_, t2⟩⟩ := hel i hi
        obtain ⟨x0, q0, _, w0⟩ := DataW.trod_int Ybad.underlying3 t0
        obtain ⟨x1, q1, _, _⟩ := DataW.trod_string Ybad.underlying9 t1
        obtain ⟨x2, q2, _, w2⟩ := DataW.trod_int Ybad.underlying21 t2
        simp at q0 q1 q2
        subst q0 q1 q2
        exact ⟨(x0, x1, x2), ⟨bounds_i64 w0, bounds_i32 w2⟩, b, off, ea, hb, c0, c1, c2⟩)
      refine ⟨fun i => if i < n then (f i).1 else 0, fun i => (f i).2.1, fun i => if i < n then (f i).2.2 else 0, fun i => ?_, fun i hi => ?_, by unfold maxLen at hm; omega⟩
      · by_cases hi : i < n
        · simp only [if_pos hi]; exact (hf i hi).1
        · simp [if_neg hi]
      · obtain ⟨_, b, off, ea, hb, c0, c1, c2⟩ := hf i hi
        simp only [if_pos hi]
        exact ⟨b, off, by rw [ea], hb, c0, c1, c2⟩
  obtain ⟨LN, LT, LS, hLN, hNm, hm⟩ : ∃ (LN : Nat → Int) (LT : Nat → ByteArray) (LS : Nat → Bool), (∀ i, -9223372036854775808 ≤ LN i ∧ LN i ≤ 9223372036854775807) ∧ NamesAre W.heap.size W al m LN LT LS ∧ m ≤ 9223372036854775807 := by
    obtain ⟨fuel, hf⟩ := h1
    rcases open3 Ybad.underlying23 Ybad.underlying55 rfl rfl rfl cells3 cells9 cells4 cells55 hf with hcs | ⟨a, len, cap, _, hcs, hl, hm, hel⟩
    · simp [Value.cells] at hcs
      obtain ⟨rfl, rfl, rfl⟩ := hcs
      exact ⟨fun _ => 0, fun _ => ByteArray.empty, fun _ => false, fun _ => by simp, fun i hi => absurd hi (Nat.not_lt_zero _), by omega⟩
    · simp [Value.cells] at hcs
      obtain ⟨rfl, rfl, rfl⟩ := hcs
      obtain ⟨f, hf⟩ := choose_lt (α := Int × ByteArray × Bool) (n := m) (p := fun i x => (-9223372036854775808 ≤ x.1 ∧ x.1 ≤ 9223372036854775807) ∧ ∃ b off, a = ⟨b, off, none⟩ ∧ b < W.heap.size ∧ W.cell? ⟨b, off + i * 3, none⟩ = some (.int .i64 x.1) ∧ W.cell? ⟨b, off + i * 3 + 1, none⟩ = some (.string x.2.1) ∧ W.cell? ⟨b, off + i * 3 + 2, none⟩ = some (.bool x.2.2)) (fun i hi => by
        obtain ⟨b, off, v0, v1, v2, y0, y1, y2, ea, hb, c0, c1, c2, ⟨_, t0⟩, ⟨_, t1⟩, ⟨_, t2⟩⟩ := hel i hi
        obtain ⟨x0, q0, _, w0⟩ := DataW.trod_int Ybad.underlying3 t0
        obtain ⟨x1, q1, _, _⟩ := DataW.trod_string Ybad.underlying9 t1
        obtain ⟨x2, q2, _⟩ := DataW.trod_bool Ybad.underlying4 t2
        simp at q0 q1 q2
        subst q0 q1 q2
        exact ⟨(x0, x1, x2), bounds_i64 w0, b, off, ea, hb, c0, c1, c2⟩)
      refine ⟨fun i => if i < m then (f i).1 else 0, fun i => (f i).2.1, fun i => (f i).2.2, fun i => ?_, fun i hi => ?_, by unfold maxLen at hm; omega⟩
      · by_cases hi : i < m
        · simp only [if_pos hi]; exact (hf i hi).1
        · simp [if_neg hi]
      · obtain ⟨_, b, off, ea, hb, c0, c1, c2⟩ := hf i hi
        simp only [if_pos hi]
        exact ⟨b, off, by rw [ea], hb, c0, c1, c2⟩
  clear hA0 hval0
  have fin : ∀ (e : Ending) (W' : World), (e = .returned (.bool true) ∧ Below W.heap.size W W') → ∃ v, e = .returned v ∧ Rows.lawS5193APickSpec.post enc Ybad.prog Ybad.f3 false true false false W #[.slice ar n cr, .slice al m cl] v W' := by
    rintro e W' ⟨rfl, bel⟩
    exact ⟨_, rfl, _, _, _, [], _, _, hW', trodAll_mk1 (shut_bool Ybad.underlying4 _), (trodAll_mk2 (Below.trod laidOut (by kernel_rfl) (of_decide_eq_true (by kernel_rfl)) k0 bel lt0) (Below.trod laidOut (by kernel_rfl) (of_decide_eq_true (by kernel_rfl)) k1 bel lt1)),
      vars_read4 enc (var?_below bel gPart (by omega) e1) (var?_below bel gOrder (by omega) e2) (var?_below bel gSmall (by omega) e3) (var?_below bel gLarge hs4 e4) trivial trivial trivial trivial _, bel.frame _, fun h => by cases h⟩
  by_cases hlong : 1024 < n ∨ (n ≤ 1024 ∧ 1024 < m)
  · exact (law_long n m ar al cr cl W hlong hn hm).mono fun e W' h => fin e W' h
  · let J : Inp := { n := n, m := m, N := N, T := T, S := S, LN := LN, CT := fun i => if LS i = true then (match findL N n (LN i) with | none => LT i | some j => T j) else LT i }
    have ok : J.Ok := ⟨by show n ≤ 1024; omega, by show m ≤ 1024; omega, fun i => (hNS i).1, hLN, fun i => (hNS i).2⟩
    exact (law_walk J ok ar al cr cl LT LS 127 ea W hs4 hP hNm hG eqErr (fun i => rfl)).mono fun e W' h => fin e W' h

theorem row_holds : Rows.LawS5193APickSaid :=
  OpenClaim.holds_of_wide 3 Ybad.f3 rfl rfl rfl rfl rfl rfl rfl ⟨rfl, rfl, rfl, rfl, rfl⟩ rfl rfl rfl rfl rfl (by kernel_rfl) Ybad.func3 (by kernel_rfl)
    (of_decide_eq_true (by kernel_rfl)) (by unfold Func.isWrapper; first | (rw [if_pos (by decide +kernel)]; kernel_rfl) | (rw [if_neg (by decide +kernel)]; exact ⟨rfl, rfl⟩))
    (fun os started H enc _ => lifted os started H enc)

/-- The statement: the tied card. -/
theorem card_holds : Rows.LawS5193APickCardSaid :=
  Claim7.holds_tied_plain_at .later [] [.sentinel, .sentinel, .sentinel, .sentinel] true (true, "914f13fd7770a5365f3127c971a760901c2716a659f18140d6daaf23e47819a3") true
    row_holds (fun _ h => by cases h) (by kernel_rfl) (fun _ h => by cases h) lawS5193APick_row_tie rfl ⟨rfl, rfl⟩ (by kernel_rfl) rfl
    (fun f fn hf hfn => by
      obtain rfl : f = 3 := Option.some.inj ((show Ybad.prog.funcNamed Rows.lawS5193APickRow.func = some 3 by kernel_rfl).symm.trans hf) |>.symm
      obtain rfl : fn = Ybad.f3 := (Option.some.inj (Ybad.func3.symm.trans hfn)).symm
      exact ⟨by kernel_rfl, fun j t ht => by
        rw [Ybad.params3] at ht
        have hm : t ∈ [22, 23] := by simpa using Array.mem_of_getElem? ht
        have hall : ([22, 23].all fun u => !Ybad.prog.wantsStandIn u) = true := by kernel_rfl
        exact (show Ybad.prog.wantsStandIn t = false by simpa using List.all_eq_true.1 hall t hm)⟩)
    (by kernel_rfl)
end Go.Proofs.YbulkdcngDoor
