/-
  The walk of LawS5190BFirstIsHead.
-/
import Derived.Test.YbulkdclqAdd
import Derived.LaidEqlPtr
import Derived.Lib.Builder
import Derived.Deep.OwnRows
import Derived.Deep.QuietTactic
import Derived.BigQuiet
namespace Go.Proofs.Ybulkdclq
open Go.RowKit Go.Deep
set_option linter.unusedVariables false

theorem info42 : (Yba.prog.info? 42).map (fun i => (i.zero, i.size, i.bytes)) = some (some .nilIface, 1, 16) := by kernel_rfl
theorem info26 : (Yba.prog.info? 26).map (fun i => (i.zero, i.size, i.bytes)) = some (some (.pointer none), 1, 8) := by kernel_rfl

/-- An entry of the schedule: the interface value over the item at block b. -/
def itemV (b : Nat) : Value := .iface 26 (.pointer (some ⟨b, 0, none⟩))

/-- What the first loop keeps: k entries scheduled and noted, their blocks ps. -/
structure SInv (w : World) (n : Nat) (ps : List Nat) (v : Value) (wr : World) : Prop where
  own : wr.ownsRow (w.heap.size + 1) 42 1 v ps.length (ps.map itemV)
  row : wr.rowIs w.heap.size 26 n (fun j => .pointer (ps[j]?.map fun b => ⟨b, 0, none⟩))
  below : Below w.heap.size w wr

theorem owns_keep {w w' : World} {base : Nat} {e : TypeId} {size : Nat} {v : Value} {n : Nat} {xs : List Value} (h : w.ownsRow base e size v n xs) (hk : ∀ g, base ≤ g → g < w.heap.size → w'.heap[g]? = w.heap[g]?) : w'.ownsRow base e size v n xs := by
  obtain ⟨h1, h2⟩ := h
  refine ⟨h1, ?_⟩
  rcases h2 with h2 | ⟨g, cap, cur, hv, hg, hh, r⟩
  · exact Or.inl h2
  · have hl : g < w.heap.size := by
      apply Nat.lt_of_not_le; intro hc; rw [Array.getElem?_eq_none hc] at hh; cases hh
    exact Or.inr ⟨g, cap, cur, hv, hg, by rw [hk g hg hl]; exact hh, r⟩

/-- A round up to the append: a new item at block wr.heap.size, its time stored, the item noted at index k. -/
theorem SInv.step {w : World} {n : Nat} {ps : List Nat} {v : Value} {wr w1 : World} {o : Obj} {x0 x1 x2 : Value} (h : SInv w n ps v wr) (hb : Below (wr.alloc o).heap.size (wr.alloc o) w1) :
    let W := (((w1.setCell ⟨wr.heap.size, 0, none⟩ x0).setCell ⟨wr.heap.size, 1, none⟩ x1).setCell ⟨wr.heap.size, 2, none⟩ x2).setCell ⟨w.heap.size, ps.length, none⟩ (.pointer (some ⟨wr.heap.size, 0, none⟩))
    W.ownsRow (w.heap.size + 1) 42 1 v ps.length (ps.map itemV) ∧ W.rowIs w.heap.size 26 n (fun j => .pointer ((ps ++ [wr.heap.size])[j]?.map fun b => ⟨b, 0, none⟩)) ∧ Below w.heap.size w W ∧ w.heap.size < W.heap.size := by
  intro W
  have hlt := h.row.lt
  have hs := hb.size
  simp at hs
  have kb : ∀ g, g < wr.heap.size → w1.heap[g]? = wr.heap[g]? := fun g hg => by rw [hb.block g (by simp; omega)]; exact Below.heap_alloc _ _ _ hg
  have r1 : w1.rowIs w.heap.size 26 n (fun j => .pointer (ps[j]?.map fun b => ⟨b, 0, none⟩)) := h.row.of_block (kb _ hlt)
  have r2 := ((((r1.setOther (a := ⟨wr.heap.size, 0, none⟩) (by simp; omega) x0).setOther (a := ⟨wr.heap.size, 1, none⟩) (by simp; omega) x1).setOther (a := ⟨wr.heap.size, 2, none⟩) (by simp; omega) x2).set ps.length (.pointer (some ⟨wr.heap.size, 0, none⟩)))
  refine ⟨owns_keep h.own fun g h1 h2 => ?_, r2.congr fun i hi => ?_, ((((h.below.trans ?_).setCell (by simp; omega) _).setCell (by simp; omega) _).setCell (by simp; omega) _).setCell (by simp) _, ?_⟩
  · show (World.setCell _ _ _).heap[g]? = _
    rw [Below.heap_setCell _ _ _ _ (by simp; omega), Below.heap_setCell _ _ _ _ (by simp; omega), Below.heap_setCell _ _ _ _ (by simp; omega), Below.heap_setCell _ _ _ _ (by simp; omega)]
    exact kb g h2
  · by_cases e : i = ps.length
    · subst e; simp
    · rw [if_neg e]
      by_cases e2 : i < ps.length
      · rw [List.getElem?_append_left e2]
      · rw [List.getElem?_eq_none (by omega), List.getElem?_eq_none (by simp; omega)]
  · exact ⟨hb.os, hb.tape, hb.output, by simp at *; omega, fun g hg => kb g (by omega)⟩
  · simp [W, World.setCell]; omega

theorem SInv.close {w : World} {n b : Nat} {ps : List Nat} {v v' : Value} {W w2 : World} {o : Obj}
    (h : W.ownsRow (w.heap.size + 1) 42 1 v ps.length (ps.map itemV) ∧ W.rowIs w.heap.size 26 n (fun j => .pointer ((ps ++ [b])[j]?.map fun b => ⟨b, 0, none⟩)) ∧ Below w.heap.size w W ∧ w.heap.size < W.heap.size)
    (hown : w2.ownsRow (w.heap.size + 1) 42 1 v' (ps.length + 1) (ps.map itemV ++ [itemV b])) (hg : (W.alloc o).grownBy w2 v.ownBlock) : SInv w n (ps ++ [b]) v' w2 := by
  obtain ⟨h1, h2, h3, h4⟩ := h
  refine ⟨by simpa using hown, (h2.alloc o).of_block (hg.block _ (by simp; omega) ?_), (h3.alloc (by omega) o).grown hg (by simp; omega) ?_⟩
  · intro e
    have := h1.lt _ e.symm
    omega
  · intro k e
    have := h1.lt k e
    omega

theorem comp26 : (Yba.prog.info? 26).map (·.comparable) = some true := by kernel_rfl
theorem info34 : (Yba.prog.info? 34).isSome = true := by kernel_rfl
theorem eqItem (a : Addr) (w : World) : (binOp .eql 26 (.pointer (some a)) (.pointer (some a))).run Yba.prog w = .ok (.bool true) w := by
  obtain ⟨j, hj⟩ := Option.isSome_iff_exists.1 info34
  exact run_eql_ptr_same w a Yba.underlying26 hj
theorem neqSched (a : Addr) (w : World) : (binOp .neq 42 (.iface 26 (.pointer (some a))) (.iface 26 (.pointer (some a)))).run Yba.prog w = .ok (.bool false) w := by
  obtain ⟨j, hj⟩ := Option.isSome_iff_exists.1 info34
  obtain ⟨i, hi, hc⟩ := Option.map_eq_some_iff.1 comp26
  simp only [binOp]
  simp [Op.equal, Op.maxDepth, run_equalIn_iface_ptr_same w 9998 a Yba.underlying42 Yba.underlying26 hi hc hj]

theorem assertItem (v : Value) (w : World) : (Instr.typeAssert (.iface 26 v) 42 26 true).run Yba.prog w = .ok (.tuple #[v, .bool true]) w := by
  simp [Instr.typeAssert, run_underlying Yba.underlying26, go_sem, Result.andThen]

/-- What the law's tail knows: the table at block T holds the schedule; the schedule's and the items' cells. -/
structure UInv (w : World) (n g cap T : Nat) (pf : Nat → Nat) (wx : World) : Prop where
  tc : wx.cell? ⟨T, 4, none⟩ = some (.slice (some ⟨g, 0, none⟩) n cap)
  sc : ∀ j, j < n → wx.cell? ⟨g, j, none⟩ = some (.iface 26 (.pointer (some ⟨pf j, 0, none⟩)))
  ic : ∀ j, j < n → wx.cell? ⟨w.heap.size, j, none⟩ = some (.pointer (some ⟨pf j, 0, none⟩))
  below : Below w.heap.size w wx
theorem UInv.drewN {w : World} {n g cap T : Nat} {pf : Nat → Nat} {wx : World} (h : UInv w n g cap T pf wx) (m : Nat) : UInv w n g cap T pf (wx.drewN m) :=
  ⟨h.tc, h.sc, h.ic, ⟨h.below.os, h.below.tape, h.below.output, h.below.size, h.below.block⟩⟩

theorem SInv.tail {w : World} {ps : List Nat} {v : Value} {wr : World} (h : SInv w ps.length ps v wr) (h0 : 0 < ps.length) :
    ∃ g cap pf, v = .slice (some ⟨g, 0, none⟩) ps.length cap ∧ g < wr.heap.size ∧ w.heap.size < wr.heap.size ∧
      ∀ (c : Array Value), c[4]? = some v → UInv w ps.length g cap wr.heap.size pf (wr.alloc (.cells c 40)) := by
  have hown := h.own
  have hsz := h.row.lt
  obtain ⟨hl, h2⟩ := hown
  rcases h2 with ⟨_, e⟩ | ⟨g, cap, cur, hv, hg, hh, r⟩
  · omega
  have hgl : g < wr.heap.size := by
    apply Nat.lt_of_not_le; intro hc; rw [Array.getElem?_eq_none hc] at hh; cases hh
  have hcell : ∀ j, j < ps.length → wr.cell? ⟨g, j, none⟩ = some (.iface 26 (.pointer (some ⟨ps.getD j 0, 0, none⟩))) := fun j hj => by
    have ho := h.own
    rw [hv] at ho
    rw [ho.cellAt j (by omega)]
    simp [itemV, hj]
  refine ⟨g, cap, fun j => ps.getD j 0, hv, hgl, hsz, fun c hc => ⟨?_, fun j hj => ?_, fun j hj => ?_, h.below.alloc (by omega) _⟩⟩
  · rw [World.cell?_alloc_new, hc, hv]
  · rw [World.cell?_alloc_lt _ _ _ hgl]; exact hcell j hj
  · rw [World.cell?_alloc_lt _ _ _ hsz, h.row.cell hj]
    simp [hj]

set_option maxHeartbeats 400000 in
theorem first_any (T g n cap : Nat) (a : Addr) (w : World) (h0 : 0 < n) (hn : n ≤ 1024) (ht : w.cell? ⟨T, 4, none⟩ = some (.slice (some ⟨g, 0, none⟩) n cap)) (hc : w.cell? ⟨g, 0, none⟩ = some (.iface 26 (.pointer (some a)))) :
    Calls Yba.prog 8 #[.pointer (some ⟨T, 0, none⟩)] w fun e w' => e = .returned (.iface 26 (.pointer (some a))) ∧ w = w' := by
  have hb0 : ((n : Int) == 0) = false := by simp; omega
  go_enter Yba.func8, Yba.ntmps8
  go_wp2
  go_ret
  exact ⟨rfl, rfl⟩

set_option maxRecDepth 8000 in
set_option maxHeartbeats 1000000 in
theorem law_walk (n : Nat) (ar : Option Addr) (cr : Nat) (em : Bool) (D : Nat → Int) (w : World) (h0 : 0 < n) (hn : n ≤ 1024) (hD : ∀ i, -9223372036854775808 ≤ D i ∧ D i ≤ 9223372036854775807)
    (hr : ∀ i, i < n → ∃ b off, ar = some ⟨b, off, none⟩ ∧ b < w.heap.size ∧ w.cell? ⟨b, off + i, none⟩ = some (.int .i64 (D i))) :
    Calls Yba.prog 3 #[.slice ar n cr, .bool em] w fun e w' => e = .returned (.bool true) ∧ Below w.heap.size w w' := by
  have hmk := run_make_row' (P := Yba.prog) 25 26 (.pointer none) 8 Yba.underlying25 info26 rfl .i64 .i64 n (by omega) (by omega)
  have hb0 : ((n : Int) == 0) = false := by simp; omega
  go_enter Yba.func3, Yba.ntmps3
  go_wp2
  go_loopw [5, 7] (fun v p wr => ∃ ps : List Nat, ps.length ≤ n ∧ p = .int .i64 ps.length ∧ SInv w n ps v wr) (fun _ p _ => n - (intOf p).toNat)
  case atStart =>
    refine ⟨[], Nat.zero_le _, rfl, World.ownsRow_nil _ _ _ _, ?_, (Below.refl _ _).alloc (Nat.le_refl _) _⟩
    simpa using World.rowIs_made w (.pointer none) n 26
  case round =>
    obtain ⟨ps, hk, rfl, inv⟩ := hrel
    obtain ⟨k, hkk⟩ : ∃ k, k = ps.length := ⟨_, rfl⟩
    by_cases hlt : ps.length < n
    · obtain ⟨b, off, rfl, hb, hc⟩ := hr ps.length hlt
      have hRk := hD ps.length
      have hc1 : wr.cell? ⟨b, off + ps.length, none⟩ = some (.int .i64 (D ps.length)) := by rw [inv.below.cell (p := ⟨b, off + ps.length, none⟩) hb]; exact hc
      have hbl : b < wr.heap.size := by have := inv.below.size; omega
      have hwl := inv.row.lt
      clear hc hr hmk
      go_wp2_with fail
      refine (add_any (D ps.length) hRk.1 hRk.2 _).mono ?_
      rintro e w1 ⟨x, y, rfl, hb1⟩
      have st := inv.step (x0 := .int .u64 x) (x1 := .int .i64 y) (x2 := .pointer none) hb1
      have cN : ∀ j v, (wr.alloc (Obj.cells #[Value.int IntKind.u64 0, Value.int IntKind.i64 0, Value.pointer none, Value.int IntKind.i64 0] 34)).cell? ⟨wr.heap.size, j, none⟩ = some v → w1.cell? ⟨wr.heap.size, j, none⟩ = some v := fun j v h => by
        rw [hb1.cell (p := ⟨wr.heap.size, j, none⟩) (by simp)]; exact h
      have n0 := cN 0 (.int .u64 0) (by simp)
      have n1 := cN 1 (.int .i64 0) (by simp)
      have n2 := cN 2 (.pointer none) (by simp)
      have fN : ∀ j, w1.frozen? ⟨wr.heap.size, j, none⟩ = false := fun j => by rw [hb1.frozen (p := ⟨wr.heap.size, j, none⟩) (by simp)]; simp
      have r1 : w1.rowIs w.heap.size 26 n (fun j => .pointer (ps[j]?.map fun b => ⟨b, 0, none⟩)) := (inv.row.alloc _).of_block (hb1.block _ (by simp; omega))
      have m0 := r1.cell hlt
      have m1 := r1.frozen ps.length
      have hne : ¬ wr.heap.size = w.heap.size := by omega
      have ST : Hid _ := st
      have hs1 : w.heap.size < w1.heap.size := r1.lt
      obtain ⟨i0, hi, hz0, hz1, hz2⟩ := info_parts info42
      clear st cN r1 hb1 hkk k
      go_wp2_with (at_builtin; refine wpList_append_own _ rfl (.tmp 49) (.tmp 52) 24 rfl (w.heap.size + 1) 42 i0 .nilIface 1 16 Yba.underlying24 hi hz0 hz1 hz2 rfl (by decide) _ _ _ rfl (ST.out.1.alloc _) ⟨w1.heap.size, 0, none⟩ 1 1 [itemV wr.heap.size] rfl rfl ?c1 ?c2 ?c3 ?c4 ?c5 ?_)
      case c1 =>
        intro j u hj
        match j, hj with
        | 0, hj =>
          simp at hj
          subst hj
          rw [show (⟨w1.heap.size, 0, none⟩ : Addr).add 0 = ⟨w1.heap.size, 0, none⟩ from rfl, World.cell?_alloc_at _ _ _ _ (by simp [World.setCell])]
          rfl
      case c2 => intro u hu; simp at hu; subst hu; rfl
      case c3 => unfold maxLen; omega
      case c4 => omega
      case c5 => have := ST.out.2.2.2; simp at this ⊢; omega
      intro v' w2 hown' hgrow _
      have inv2 : SInv w n (ps ++ [wr.heap.size]) v' w2 := SInv.close ST.out hown' hgrow
      clear hown' hgrow ST inv n0 n1 n2 m0 m1 hne hs1 hc1
      go_wp2
      go_roundw
      case rel => exact ⟨ps ++ [wr.heap.size], by simp; omega, by simp, inv2⟩
      case measure => simp [intOf]; omega
    · obtain rfl : n = ps.length := by omega
      obtain ⟨g, cap, pf, hv, hgl, hwl, hU⟩ := inv.tail h0
      have HU : Hid _ := hU
      have hq := eqItem ⟨pf 0, 0, none⟩
      have hta := assertItem (.pointer (some ⟨pf 0, 0, none⟩))
      clear hmk hr inv hU
      subst hv
      have hd : decide (1024 < (ps.length : Int)) = false := by simp; omega
      go_wp2_with fail
      have U0 := HU.out #[.map none, .map none, .int .i64 0, .map none, .slice (some ⟨g, 0, none⟩) ps.length cap] rfl
      refine (first_any wr.heap.size g ps.length cap ⟨pf 0, 0, none⟩ _ h0 hn U0.tc (U0.sc 0 h0)).mono ?_
      rintro e wt ⟨rfl, hw⟩
      have U : UInv w ps.length g cap wr.heap.size pf wt := hw ▸ U0
      clear hw U0 HU
      have u1 := U.tc
      go_wp2_with fail
      go_loopw [13] (fun p wx => ∃ i : Nat, i ≤ ps.length ∧ p = .int .i64 i ∧ UInv w ps.length g cap wr.heap.size pf wx) (fun p _ => ps.length - (intOf p).toNat)
      case atStart => exact ⟨0, Nat.zero_le _, rfl, U⟩
      case round =>
        obtain ⟨i, hi, rfl, inv⟩ := hrel
        have v1 := inv.tc
        have v2 := inv.ic 0 h0
        by_cases hil : i < ps.length
        · have v3 := inv.sc i hil
          have v4 := inv.ic i hil
          have hqi := neqSched ⟨pf i, 0, none⟩
          clear v2 hq u1
          go_wp2_with fail
          go_quiet (fail)
          go_wp2_with fail
          go_roundw
          case rel => exact ⟨i + 1, by omega, by go_num, inv.drewN nq⟩
          case measure => simp [intOf]; omega
        · obtain rfl : i = ps.length := by omega
          go_wp2_with fail
          go_ret
          exact ⟨rfl, inv.below⟩

set_option maxRecDepth 8000 in
set_option maxHeartbeats 400000 in
theorem law_long (n : Nat) (ar : Option Addr) (cr : Nat) (em : Bool) (w : World) (hn : 1024 < n) (hm : n ≤ 9223372036854775807) :
    Calls Yba.prog 3 #[.slice ar n cr, .bool em] w fun e w' => e = .returned (.bool true) ∧ Below w.heap.size w w' := by
  go_enter Yba.func3, Yba.ntmps3
  go_wp2
  go_ret
  exact ⟨rfl, Below.refl _ _⟩

set_option maxRecDepth 8000 in
set_option maxHeartbeats 800000 in
theorem law_none (ar : Option Addr) (cr : Nat) (em : Bool) (w : World) :
    Calls Yba.prog 3 #[.slice ar 0 cr, .bool em] w fun e w' => e = .returned (.bool true) ∧ Below w.heap.size w w' := by
  have hmk : ∀ w, (Instr.makeSlice 25 (.int .i64 0) (.int .i64 0)).run Yba.prog w = .ok (.slice (some ⟨w.heap.size, 0, none⟩) 0 0) (w.alloc (.cells #[] 26)) := fun _ => by kernel_rfl
  have hnil : ∀ w, (binOp .eql 42 .nilIface .nilIface).run Yba.prog w = .ok (.bool true) w := fun _ => by kernel_rfl
  cases em
  · go_enter Yba.func3, Yba.ntmps3
    go_wp2
    refine wp_loop_rounds 1 ?_
    rw [rounds_succ]
    go_wp2
    go_ret
    exact ⟨rfl, ((Below.refl _ _).alloc (Nat.le_refl _) _).alloc (by simp) _⟩
  · go_enter Yba.func3, Yba.ntmps3
    go_wp2
    refine wp_loop_rounds 1 ?_
    rw [rounds_succ]
    go_wp2
    go_ret
    exact ⟨rfl, (((Below.refl _ _).alloc (Nat.le_refl _) _).alloc (by simp) _).alloc (by simp; omega) _⟩
end Go.Proofs.Ybulkdclq
