/-
  The walk of LawS5193APick.
-/
import Derived.Test.YbulkdcngDoorPick
import Derived.BigRegion
import Derived.Lib.Builder
import Derived.Laws.EntriesVeiled
namespace Go.Proofs.YbulkdcngDoor
open Go.RowKit Go.Deep
set_option linter.unusedVariables false

/-- What the law's first loop keeps: k parts are laid, noted in the row of pointers and put into the map. -/
structure L1 (I : Inp) (w : World) (blk : Nat → Nat) (k : Nat) (wr : World) : Prop where
  map : MapIs wr w.heap.size I.N k blk
  u : wr.cell? ⟨w.heap.size + 1, 9, none⟩ = some (.map (some w.heap.size))
  row : ∃ f, wr.rowIs (w.heap.size + 1 + 1) 45 I.n f ∧ ∀ j, j < k → f j = .pointer (some ⟨blk j, 0, none⟩)
  files : ∀ j, j < k → w.heap.size + 1 + 1 < blk j ∧ blk j < wr.heap.size ∧ wr.cell? ⟨blk j, 0, none⟩ = some (.int .i64 (I.N j)) ∧ wr.cell? ⟨blk j, 1, none⟩ = some (.string (I.T j)) ∧ wr.cell? ⟨blk j, 2, none⟩ = some (.int .i64 (I.S j * 1048576))
  below : Below w.heap.size w wr

theorem L1.step {I : Inp} {w : World} {blk : Nat → Nat} {k : Nat} {wr : World} (ok : I.Ok) (h : L1 I w blk k wr) (hk : k < I.n) (x3 x4 x5 x6 : Value) :
    ∃ w3 blk', (Instr.mapUpdate 25 (.map (some w.heap.size)) (.int .i64 (I.N k)) (.pointer (some ⟨wr.heap.size, 0, none⟩))).run Ybad.prog ((wr.setCell ⟨w.heap.size + 1 + 1, k, none⟩ (.pointer (some ⟨wr.heap.size, 0, none⟩))).alloc (.cells #[.int .i64 (I.N k), .string (I.T k), .int .i64 (I.S k * 1048576), x3, x4, x5, x6] 52)).drew.drew = .ok () w3 ∧
      L1 I w blk' (k + 1) w3 := by
  obtain ⟨f, hf, hfv⟩ := h.row
  have hlt := hf.lt
  have hn := ok.hn
  have hN := ok.hN k
  obtain ⟨W2, hW2⟩ : ∃ W2, ((wr.setCell ⟨w.heap.size + 1 + 1, k, none⟩ (.pointer (some ⟨wr.heap.size, 0, none⟩))).alloc (.cells #[.int .i64 (I.N k), .string (I.T k), .int .i64 (I.S k * 1048576), x3, x4, x5, x6] 52)).drew.drew = W2 := ⟨_, rfl⟩
  have hsz : W2.heap.size = wr.heap.size + 1 := by rw [← hW2]; simp [World.setCell]
  have hsc : (wr.setCell ⟨w.heap.size + 1 + 1, k, none⟩ (.pointer (some ⟨wr.heap.size, 0, none⟩))).heap.size = wr.heap.size := by simp [World.setCell]
  have kb : ∀ g, g < wr.heap.size → g ≠ w.heap.size + 1 + 1 → W2.heap[g]? = wr.heap[g]? := fun g h1 h2 => by
    rw [← hW2]
    show (World.alloc _ _).heap[g]? = _
    rw [Below.heap_alloc _ _ _ (by omega), Below.heap_setCell _ _ _ _ h2]
  have hrow : W2.rowIs (w.heap.size + 1 + 1) 45 I.n (fun j => if j = k then .pointer (some ⟨wr.heap.size, 0, none⟩) else f j) := by
    rw [← hW2]
    exact (((hf.set k _).alloc _).drew).drew
  have hnew : ∀ j, W2.cell? ⟨wr.heap.size, j, none⟩ = (#[Value.int .i64 (I.N k), .string (I.T k), .int .i64 (I.S k * 1048576), x3, x4, x5, x6])[j]? := fun j => by
    rw [← hW2]
    show (World.alloc _ _).cell? _ = _
    rw [World.cell?_alloc_at _ _ _ _ hsc.symm]
  have ho1 : W2.os = wr.os := by rw [← hW2]; rfl
  have ho2 : W2.tape = wr.tape := by rw [← hW2]; rfl
  have ho3 : W2.output = wr.output := by rw [← hW2]; rfl
  rw [hW2]
  clear hW2
  have hM : MapIs W2 w.heap.size I.N k (fun j => if j = k then wr.heap.size else blk j) :=
    (h.map.of_block (kb _ (by omega) (by omega))).congr fun j hj => by simp; omega
  obtain ⟨w3, hrun, hM3, hg⟩ := hM.store (b := wr.heap.size) (by unfold maxLen; omega) hN.1 hN.2 (by simp)
  have kb3 : ∀ g, g < wr.heap.size + 1 → g ≠ w.heap.size → w3.heap[g]? = W2.heap[g]? := fun g h1 h2 => hg.block g (by omega) (by intro e; cases e; exact h2 rfl)
  have c3 : ∀ g j, g < wr.heap.size + 1 → g ≠ w.heap.size → w3.cell? ⟨g, j, none⟩ = W2.cell? ⟨g, j, none⟩ := fun g j h1 h2 => World.cell?_of_block (a := ⟨g, j, none⟩) (kb3 g h1 h2)
  have c2 : ∀ g j, g < wr.heap.size → g ≠ w.heap.size + 1 + 1 → W2.cell? ⟨g, j, none⟩ = wr.cell? ⟨g, j, none⟩ := fun g j h1 h2 => World.cell?_of_block (a := ⟨g, j, none⟩) (kb g h1 h2)
  refine ⟨w3, _, hrun, hM3, ?_, ⟨_, hrow.of_block (kb3 _ (by omega) (by omega)), fun j hj => ?_⟩, fun j hj => ?_, ?_⟩
  · rw [c3 _ _ (by omega) (by omega), c2 _ _ (by omega) (by omega)]; exact h.u
  · by_cases e : j = k
    · subst e; simp
    · simp only [if_neg e]; exact hfv j (by omega)
  · have hs3 := hg.size
    by_cases e : j = k
    · subst e
      simp only [if_true]
      refine ⟨by omega, by omega, ?_, ?_, ?_⟩ <;> rw [c3 _ _ (by omega) (by omega), hnew] <;> rfl
    · simp only [if_neg e]
      obtain ⟨h1, h2, c0, c1, c2'⟩ := h.files j (by omega)
      refine ⟨h1, by omega, ?_, ?_, ?_⟩ <;> rw [c3 _ _ (by omega) (by omega), c2 _ _ (by omega) (by omega)] <;> assumption
  · have hb2 : Below w.heap.size w W2 := h.below.trans ⟨ho1, ho2, ho3, by omega, fun g hg' => kb g (by omega) (by omega)⟩
    exact hb2.trans ⟨hg.os, hg.tape, hg.output, hg.size, fun g hg' => kb3 g (by omega) (by omega)⟩

/-- The list of names as it came in: three cells each. -/
def NamesAre (B : Nat) (w : World) (al : Option Addr) (m : Nat) (LN : Nat → Int) (LT : Nat → ByteArray) (LS : Nat → Bool) : Prop :=
  ∀ i, i < m → ∃ b off, al = some ⟨b, off, none⟩ ∧ b < B ∧ w.cell? ⟨b, off + i * 3, none⟩ = some (.int .i64 (LN i)) ∧ w.cell? ⟨b, off + i * 3 + 1, none⟩ = some (.string (LT i)) ∧ w.cell? ⟨b, off + i * 3 + 2, none⟩ = some (.bool (LS i))

theorem NamesAre.later {B K : Nat} {w w' : World} {al : Option Addr} {m : Nat} {LN : Nat → Int} {LT : Nat → ByteArray} {LS : Nat → Bool} (h : NamesAre B w al m LN LT LS) (hb : Below K w w') (hK : B ≤ K) : NamesAre B w' al m LN LT LS := fun i hi => by
  obtain ⟨b, off, e, hl, c0, c1, c2⟩ := h i hi
  have c : ∀ o, w'.cell? ⟨b, o, none⟩ = w.cell? ⟨b, o, none⟩ := fun o => hb.cell (p := ⟨b, o, none⟩) (by show b < K; omega)
  exact ⟨b, off, e, hl, by rw [c]; exact c0, by rw [c]; exact c1, by rw [c]; exact c2⟩

theorem info58 : (Ybad.prog.info? 58).isSome = true := by kernel_rfl
theorem infoC : (Ybad.prog.info? 58).map (fun i => (i.size, i.bytes)) = some (2, 24) := by kernel_rfl
theorem zeroC : ((Ybad.prog.info? 58).bind (·.zero)).isSome = true := by kernel_rfl
theorem makeCl (n : Nat) (hn : n ≤ 1024) : ∃ M : Array Value, M.size = n * 2 ∧ ∀ w, (Instr.makeSlice 53 (.int .i64 n) (.int .i64 n)).run Ybad.prog w = .ok (.slice (some ⟨w.heap.size, 0, none⟩) n n) (w.alloc (.cells M 58)) := by
  obtain ⟨i, hi⟩ := Option.isSome_iff_exists.1 info58
  have h1 := infoC
  have h2 := zeroC
  rw [hi] at h1 h2
  simp at h1 h2
  obtain ⟨zz, hzz⟩ := Option.isSome_iff_exists.1 h2
  refine ⟨madeCells zz.cells (n * i.size), by rw [size_madeCells, h1.1], fun w => ?_⟩
  have := run_make (P := Ybad.prog) w 53 58 i zz Ybad.underlying53 hi hzz .i64 .i64 n n (by omega) (by omega) (by rw [h1.2]; omega) (by omega)
  simpa using this

/-- What the law's second loop keeps: k names are laid in the row at block w1.heap.size; all below is as it was in w1. -/
structure L2 (I : Inp) (w1 : World) (k : Nat) (wr : World) : Prop where
  row : ∃ f, wr.rowIs w1.heap.size 58 (I.m * 2) f ∧ ∀ j, j < k → f (j * 2) = .int .i64 (I.LN j) ∧ f (j * 2 + 1) = .string (I.CT j)
  below : Below w1.heap.size w1 wr
theorem L2.set {I : Inp} {w1 : World} {k : Nat} {wr : World} (h : L2 I w1 k wr) {t : ByteArray} (ht : t = I.CT k) : L2 I w1 (k + 1) ((wr.setCell ⟨w1.heap.size, k * 2, none⟩ (.int .i64 (I.LN k))).setCell ⟨w1.heap.size, k * 2 + 1, none⟩ (.string t)) := by
  obtain ⟨f, hf, hv⟩ := h.row
  refine ⟨⟨_, (hf.set _ _).set _ _, fun j hj => ?_⟩, (h.below.setCell (Nat.le_refl _) _).setCell (Nat.le_refl _) _⟩
  by_cases e : j = k
  · subst e; exact ⟨by simp, by simp [ht]⟩
  · have hj' := hv j (by omega)
    refine ⟨?_, ?_⟩
    · rw [if_neg (by omega), if_neg (by omega)]; exact hj'.1
    · rw [if_neg (by omega), if_neg (by omega)]; exact hj'.2

theorem info52 : (Ybad.prog.info? 52).isSome = true := by kernel_rfl
theorem neqFile (a : Addr) (w : World) : (binOp .neq 45 (.pointer (some a)) (.pointer (some a))).run Ybad.prog w = .ok (.bool false) w := by
  obtain ⟨j, hj⟩ := Option.isSome_iff_exists.1 info52
  exact Lib.run_neq_ptr_same w a Ybad.underlying45 hj
theorem neqErrNil (t : TypeId) (v : Value) (w : World) : (binOp .neq 60 (.iface t v) .nilIface).run Ybad.prog w = .ok (.bool true) w := by
  have h : ∀ d : Nat, (Op.equalIn (d + 1) 60 (.iface t v) .nilIface).run Ybad.prog w = .ok false w := fun d => by simp [Op.equalIn, run_underlying Ybad.underlying60]
  simp only [binOp]
  simp [Op.equal, Op.maxDepth, h 9999]
theorem neqNilNil (w : World) : (binOp .neq 60 .nilIface .nilIface).run Ybad.prog w = .ok (.bool false) w := by
  have h : ∀ d : Nat, (Op.equalIn (d + 1) 60 .nilIface .nilIface).run Ybad.prog w = .ok true w := fun d => by simp [Op.equalIn, run_underlying Ybad.underlying60]
  simp only [binOp]
  simp [Op.equal, Op.maxDepth, h 9999]
theorem eqGotNil (w : World) : (binOp .eql 44 (.slice none 0 0) (.slice none 0 0)).run Ybad.prog w = .ok (.bool true) w := by
  have h : ∀ d : Nat, (Op.equalIn (d + 1) 44 (.slice none 0 0) (.slice none 0 0)).run Ybad.prog w = .ok true w := fun d => by simp [Op.equalIn, run_underlying Ybad.underlying44]
  simp only [binOp]
  simp [Op.equal, Op.maxDepth, h 9999]

set_option maxRecDepth 8000 in
set_option maxHeartbeats 1000000 in
theorem law_walk (I : Inp) (ok : I.Ok) (ar al : Option Addr) (cr cl : Nat) (LT : Nat → ByteArray) (LS : Nat → Bool) (te : TypeId) (ea : Nat → Addr) (w : World) (h4 : 4 < w.heap.size) (hP : PartsAre w.heap.size w ar I) (hNm : NamesAre w.heap.size w al I.m I.LN LT LS) (hG : ErrsAre w te ea)
    (heq : ∀ (a : Addr) (w : World), (binOp .eql 60 (.iface te (.pointer (some a))) (.iface te (.pointer (some a)))).run Ybad.prog w = .ok (.bool true) w)
    (hCT : ∀ i, I.CT i = if LS i = true then (match I.at i with | none => LT i | some j => I.T j) else LT i) :
    Calls Ybad.prog 3 #[.slice ar I.n cr, .slice al I.m cl] w fun e w' => e = .returned (.bool true) ∧ Below w.heap.size w w' := by
  have hn := ok.hn
  have hm := ok.hm
  have hmm := @run_makeMap Ybad.prog
  have hmk := run_make_row' (P := Ybad.prog) 44 45 (.pointer none) 8 Ybad.underlying44 info45 rfl .i64 .i64 I.n (by omega) (by omega)
  have hd1 : decide (1024 < (I.n : Int)) = false := by simp; omega
  have hd2 : decide (1024 < (I.m : Int)) = false := by simp; omega
  go_enter Ybad.func3, Ybad.ntmps3
  go_wp2
  go_loopw [7] (fun p wr => ∃ (k : Nat) (blk : Nat → Nat), k ≤ I.n ∧ p = .int .i64 k ∧ L1 I w blk k wr) (fun p _ => I.n - (intOf p).toNat)
  case atStart =>
    refine ⟨0, fun _ => 0, Nat.zero_le _, rfl, ((MapIs.made w I.N _).of_block ?_), ?_, ⟨fun _ => .pointer none, ?_, fun j h => absurd h (Nat.not_lt_zero _)⟩, fun j h => absurd h (Nat.not_lt_zero _), (((Below.refl _ _).alloc (Nat.le_refl _) _).alloc (by simp) _).alloc (by simp; omega) _⟩
    · rw [Below.heap_alloc _ _ _ (by simp; omega), Below.heap_alloc _ _ _ (by simp)]
    · rw [World.cell?_alloc_lt _ _ _ (by simp), World.cell?_alloc_at _ _ _ _ (by simp)]; rfl
    · simpa using World.rowIs_made ((w.alloc (Obj.map #[] 0)).alloc _) (.pointer none) I.n 45
  case round =>
    clear hmk hmm
    obtain ⟨k, blk, hk, rfl, inv⟩ := hrel
    by_cases hlt : k < I.n
    · obtain ⟨b, off, rfl, hb, p0, p1, p2⟩ := hP.later inv.below (Nat.le_refl _) k hlt
      have hSk := ok.hS k
      have hNk := ok.hN k
      have iu := inv.u
      obtain ⟨f, hf, _⟩ := inv.row
      have r0 := hf.cell hlt
      have r1 := hf.frozen k
      have rl := hf.lt
      have hbl : b < wr.heap.size := by have := inv.below.size; omega
      have l1 : w.heap.size + 1 < wr.heap.size := by omega
      have iu2 : (wr.setCell ⟨w.heap.size + 1 + 1, k, none⟩ (.pointer (some ⟨wr.heap.size, 0, none⟩))).cell? ⟨w.heap.size + 1, 9, none⟩ = some (.map (some w.heap.size)) := by
        rw [World.cell?_setCell_other _ _ _ _ (by intro e; have := congrArg Addr.block e; simp at this)]; exact iu
      obtain ⟨w3, blk', hrun, inv3⟩ := inv.step ok hlt (.int .u64 0) (.int .i64 0) (.pointer none) (.int .i64 0)
      clear hf
      go_wp2_with fail
      go_region
      go_wp2_with fail
      go_region
      go_wp2_with fail
      go_roundw
      case rel => exact ⟨k + 1, blk', by omega, by go_num, inv3⟩
      case measure => simp [intOf]; omega
    · obtain rfl : k = I.n := by omega
      obtain ⟨M, hM, hmc⟩ := makeCl I.m hm
      obtain ⟨w1, rfl⟩ : ∃ w1 : World, w1 = wr := ⟨_, rfl⟩
      go_wp2
      go_loopw [10] (fun p wr => ∃ k : Nat, k ≤ I.m ∧ p = .int .i64 k ∧ L2 I w1 k wr) (fun p _ => I.m - (intOf p).toNat)
      case atStart =>
        refine ⟨0, Nat.zero_le _, rfl, ⟨fun j => (M[j]?).getD (.bool false), ?_, fun j h => absurd h (Nat.not_lt_zero _)⟩, (Below.refl _ _).alloc (Nat.le_refl _) _⟩
        have e := World.rowIs_alloc w1 M 58 (fun j => (M[j]?).getD (.bool false)) (fun i hi => by simp [hi])
        rw [hM] at e
        exact e
      case round =>
        clear hmc
        obtain ⟨k, hk, rfl, inv2⟩ := hrel
        have hs1 := inv.below.size
        have bel : Below w.heap.size w wr := inv.below.trans (inv2.below.mono hs1)
        by_cases hlt : k < I.m
        · obtain ⟨b, off, rfl, hb, q0, q1, q2⟩ := hNm.later bel (Nat.le_refl _) k hlt
          obtain ⟨f, hf, _⟩ := inv2.row
          have r0 := hf.cell (i := k * 2) (by omega)
          have r1 := hf.cell (i := k * 2 + 1) (by omega)
          have z0 := hf.frozen (k * 2)
          have z1 := hf.frozen (k * 2 + 1)
          have hct := hCT k
          have hPr := hP.later bel (Nat.le_refl _)
          have hfn := find_any w.heap.size ar cr I ok (I.LN k) wr hPr
          have HF : Hid _ := hfn
          clear hfn hf
          cases hls : LS k with
          | false =>
            rw [hls] at q2
            have HC : Hid (LT k = I.CT k) := by unfold Hid; rw [hct, hls]; rfl
            clear hct hls hPr hCT
            go_wp2_with fail
            go_roundw
            case rel => exact ⟨k + 1, by omega, by go_num, inv2.set HC.out⟩
            case measure => simp [intOf]; omega
          | true =>
            rw [hls] at q2
            cases hat : I.at k with
            | none =>
              have hat' : findL I.N I.n (I.LN k) = none := hat
              have hi0 : idx none = -1 := rfl
              have HC : Hid (LT k = I.CT k) := by unfold Hid; rw [hct, hls, hat]; rfl
              clear hct hls hPr hCT hat
              go_wp2_with (go_at_call 5; refine (Calls.mono HF.out ?_); rintro e w' ⟨rfl, rfl⟩; rw [hat'])
              go_roundw
              case rel => exact ⟨k + 1, by omega, by go_num, inv2.set HC.out⟩
              case measure => simp [intOf]; omega
            | some j =>
              have hat' : findL I.N I.n (I.LN k) = some j := hat
              have hj := Inp.at_lt hat
              have hi0 : idx (some j) = j := rfl
              obtain ⟨b', off', rfl, _, p0, p1, p2⟩ := hPr j hj
              have HC : Hid (I.T j = I.CT k) := by unfold Hid; rw [hct, hls, hat]; rfl
              clear hct hls hPr hCT hat
              go_wp2_with (go_at_call 5; refine (Calls.mono HF.out ?_); rintro e w' ⟨rfl, rfl⟩; rw [hat'])
              go_roundw
              case rel => exact ⟨k + 1, by omega, by go_num, inv2.set HC.out⟩
              case measure => simp [intOf]; omega
        · obtain rfl : k = I.m := by omega
          obtain ⟨f, hf, hv⟩ := inv2.row
          have hwr := inv2.below.size
          obtain ⟨f', hf', hfv⟩ := inv.row
          have hrl := hf'.lt
          have hCl : ClAre wr w1.heap.size I := fun i hi => by
            rw [hf.cell (by omega), hf.cell (by omega), (hv i hi).1, (hv i hi).2]; exact ⟨rfl, rfl⟩
          have hpk := pick_any (w.heap.size + 1) w1.heap.size w.heap.size I ok blk te ea wr (by omega) hf.lt (by omega)
            (by rw [inv2.below.cell (p := ⟨w.heap.size + 1, 9, none⟩) (by show w.heap.size + 1 < _; omega)]; exact inv.u)
            (inv.map.of_block (inv2.below.block _ inv.map.lt))
            (fun j hj => by
              obtain ⟨_, h2, c0, c1, c2⟩ := inv.files j hj
              have c : ∀ o, wr.cell? ⟨blk j, o, none⟩ = w1.cell? ⟨blk j, o, none⟩ := fun o => inv2.below.cell (p := ⟨blk j, o, none⟩) h2
              exact ⟨by omega, by rw [c]; exact c0, by rw [c]; exact c1, by rw [c]; exact c2⟩)
            hCl (hG.later bel h4)
          have HP : Hid _ := hpk
          clear hpk
          have hcl := hf.lt
          clear hf hv
          go_wp2_with fail
          refine (Calls.mono HP.out ?_)
          rintro e w2 ⟨gv, rfl, b2, hbad, hgood⟩
          have hs2 := b2.size
          have bel2 : Below w.heap.size w w2 := bel.trans (b2.mono (by omega))
          have hmo := model_any w.heap.size w1.heap.size ar cr I ok te ea w2 (by omega) (by omega) (by omega) (hP.later bel2 (Nat.le_refl _)) (hCl.later b2 (by omega)) (hG.later bel2 h4)
          have HM : Hid _ := hmo
          clear hmo HP
          by_cases hcode : I.code = 0
          · obtain ⟨G, rfl, hgc⟩ := hgood hcode
            have hev : errV te ea I.code = .nilIface := by rw [hcode]; rfl
            rw [hev]
            have hq := neqNilNil
            go_wp2_with fail
            refine (Calls.mono HM.out ?_)
            rintro e w3 ⟨rfl, b3⟩
            rw [hev]
            have hfine := (Inp.code_ok hcode).2
            have hgot : ∀ wx : World, Below w2.heap.size w2 wx → ∀ i, i < I.m → ∃ j, I.at i = some j ∧ j < I.n ∧ wx.cell? ⟨w1.heap.size, i * 2, none⟩ = some (.int .i64 (I.LN i)) ∧ wx.cell? ⟨G, i, none⟩ = some (.pointer (some ⟨blk j, 0, none⟩)) ∧ wx.cell? ⟨w.heap.size + 1 + 1, j, none⟩ = some (.pointer (some ⟨blk j, 0, none⟩)) := fun wx hx i hi => by
              obtain ⟨j, hj⟩ := Inp.chk_fine (Inp.bad_fine hfine i hi)
              have hjn := Inp.at_lt hj
              have hg := hgc i hi
              rw [hj] at hg
              have hGl : G < w2.heap.size := World.block_lt_of_cell? w2 ⟨G, i, none⟩ hg
              refine ⟨j, hj, hjn, ?_, ?_, ?_⟩
              · rw [hx.cell (p := ⟨w1.heap.size, i * 2, none⟩) (by show w1.heap.size < _; omega)]; exact ((hCl.later b2 (by omega)) i hi).1
              · rw [hx.cell (p := ⟨G, i, none⟩) hGl]; exact hg
              · rw [hx.cell (p := ⟨w.heap.size + 1 + 1, j, none⟩) (by show w.heap.size + 1 + 1 < _; omega), b2.cell (p := ⟨w.heap.size + 1 + 1, j, none⟩) (by show w.heap.size + 1 + 1 < _; omega), inv2.below.cell (p := ⟨w.heap.size + 1 + 1, j, none⟩) (by show w.heap.size + 1 + 1 < _; omega), hf'.cell hjn, hfv j hjn]
            have HGot : Hid _ := hgot
            clear hgot hgc hgood hbad hev hcode
            go_wp2_with fail
            go_loopw [16] (fun p wx => ∃ k : Nat, k ≤ I.m ∧ p = .int .i64 k ∧ Below w2.heap.size w2 wx) (fun p _ => I.m - (intOf p).toNat)
            case atStart => exact ⟨0, Nat.zero_le _, rfl, b3⟩
            case round =>
              obtain ⟨i, hi, rfl, b4⟩ := hrel
              by_cases hlt : i < I.m
              · obtain ⟨j, hat, hj, c0, c1, c2⟩ := HGot.out wr b4 i hlt
                have hat' : findL I.N I.n (I.LN i) = some j := hat
                have hi0 : idx (some j) = j := rfl
                have hd : decide ((j : Int) < 0) = false := by simp
                have hfn := find_any w.heap.size ar cr I ok (I.LN i) wr (hP.later (bel2.trans (b4.mono (by omega))) (Nat.le_refl _))
                have HF : Hid _ := hfn
                have hqf := neqFile ⟨blk j, 0, none⟩
                clear hfn hat
                go_wp2_with (go_at_call 5; refine (Calls.mono HF.out ?_); rintro e w' ⟨rfl, rfl⟩; rw [hat'])
                go_quiet (fail)
                go_wp2
                go_roundw
                case rel => exact ⟨i + 1, by omega, by go_num, Below.drewN b4 nq⟩
                case measure => simp [intOf]; omega
              · obtain rfl : i = I.m := by omega
                go_wp2_with fail
                go_ret
                exact ⟨rfl, bel2.trans (b4.mono (by omega))⟩
          · obtain rfl := hbad hcode
            have hev : errV te ea I.code = .iface te (.pointer (some (ea I.code))) := by rw [errV, if_neg hcode]
            rw [hev]
            have hq := neqErrNil te (.pointer (some (ea I.code)))
            have hq2 := heq (ea I.code)
            have hq3 := eqGotNil
            clear hcode hgood hbad heq
            go_wp2_with fail
            refine (Calls.mono HM.out ?_)
            rintro e w3 ⟨rfl, b3⟩
            rw [hev]
            clear hev
            go_wp2_with fail
            go_ret
            exact ⟨rfl, bel2.trans (b3.mono (by omega))⟩

set_option maxRecDepth 8000 in
set_option maxHeartbeats 400000 in
theorem law_long (n m : Nat) (ar al : Option Addr) (cr cl : Nat) (w : World) (h : 1024 < n ∨ (n ≤ 1024 ∧ 1024 < m)) (hn : n ≤ 9223372036854775807) (hm : m ≤ 9223372036854775807) :
    Calls Ybad.prog 3 #[.slice ar n cr, .slice al m cl] w fun e w' => e = .returned (.bool true) ∧ Below w.heap.size w w' := by
  rcases h with h | ⟨h, h'⟩
  · have hd1 : decide (1024 < (n : Int)) = true := by simp; omega
    go_enter Ybad.func3, Ybad.ntmps3
    go_wp2
    go_ret
    exact ⟨rfl, Below.refl _ _⟩
  · have hd1 : decide (1024 < (n : Int)) = false := by simp; omega
    have hd2 : decide (1024 < (m : Int)) = true := by simp; omega
    go_enter Ybad.func3, Ybad.ntmps3
    go_wp2
    go_ret
    exact ⟨rfl, Below.refl _ _⟩
end Go.Proofs.YbulkdcngDoor
