/-
  The walk of LawS5190AModel.
-/
import Derived.Test.YbulkdclqDoorConn
import Derived.Deep.OwnRows
import Derived.Laws.EntriesVeiled
import Derived.Deep.RegionWith
namespace Go.Proofs.YbulkdclqDoor
open Go.RowKit Go.Deep
set_option linter.unusedVariables false

theorem infoC : (Ybad.prog.info? 40).map (fun i => (i.size, i.bytes)) = some (20, 224) := by kernel_rfl
theorem zeroC : ((Ybad.prog.info? 40).bind (·.zero)).isSome = true := by kernel_rfl
theorem makeConns (n : Nat) (hn : n ≤ 1024) : ∃ M : Array Value, M.size = n * 20 ∧ ∀ w, (Instr.makeSlice 24 (.int .i64 n) (.int .i64 n)).run Ybad.prog w = .ok (.slice (some ⟨w.heap.size, 0, none⟩) n n) (w.alloc (.cells M 40)) := by
  obtain ⟨i, hi⟩ := Option.isSome_iff_exists.1 info40
  have h1 := infoC
  have h2 := zeroC
  rw [hi] at h1 h2
  simp at h1 h2
  obtain ⟨zz, hzz⟩ := Option.isSome_iff_exists.1 h2
  refine ⟨madeCells zz.cells (n * i.size), by rw [size_madeCells, h1.1], fun w => ?_⟩
  have := run_make (P := Ybad.prog) w 24 40 i zz Ybad.underlying24 hi hzz .i64 .i64 n n (by omega) (by omega) (by rw [h1.2]; omega) (by omega)
  simpa using this

/-- What the law's first loop keeps: k connections have their Remote. -/
structure LInv (w : World) (n : Nat) (af : Option Addr) (lf cf : Nat) (z : Addr) (R : Nat → Int) (k : Nat) (wr : World) : Prop where
  box : wr.cell? ⟨w.heap.size, 0, none⟩ = some (.slice af lf cf)
  nn : wr.cell? ⟨w.heap.size + 1, 0, none⟩ = some (.int .i64 n)
  cv : wr.cell? ⟨w.heap.size + 1 + 1 + 1, 0, none⟩ = some (.slice (some ⟨w.heap.size + 1 + 1, 0, none⟩) n n)
  row : ∃ f, wr.rowIs (w.heap.size + 1 + 1) 40 (n * 20) f ∧ ∀ j, j < k → f (j * 20 + 3) = .int .u64 0 ∧ f (j * 20 + 3 + 1) = .int .u64 (lo (R j % 4)) ∧ f (j * 20 + 3 + 2) = .pointer (zp z (R j % 4))
  below : Below w.heap.size w wr
  sz : w.heap.size + 3 < wr.heap.size
theorem LInv.drew {w : World} {n : Nat} {af : Option Addr} {lf cf : Nat} {z : Addr} {R : Nat → Int} {k : Nat} {wr : World} (h : LInv w n af lf cf z R k wr) : LInv w n af lf cf z R k wr.drew :=
  ⟨h.box, h.nn, h.cv, h.row, h.below.drew, h.sz⟩
theorem LInv.later {w : World} {n : Nat} {af : Option Addr} {lf cf : Nat} {z : Addr} {R : Nat → Int} {k : Nat} {wr w1 : World} (h : LInv w n af lf cf z R k wr) (hb : Below wr.heap.size wr w1) : LInv w n af lf cf z R k w1 := by
  have hs := h.sz
  have c : ∀ b j, b < wr.heap.size → w1.cell? ⟨b, j, none⟩ = wr.cell? ⟨b, j, none⟩ := fun b j hl => hb.cell (p := ⟨b, j, none⟩) hl
  obtain ⟨f, hf, hv⟩ := h.row
  exact ⟨by rw [c _ _ (by omega)]; exact h.box, by rw [c _ _ (by omega)]; exact h.nn, by rw [c _ _ (by omega)]; exact h.cv, ⟨f, hf.of_block (hb.block _ (by omega)), hv⟩, h.below.trans (hb.mono (by omega)), by have := hb.size; omega⟩
theorem LInv.set {w : World} {n : Nat} {af : Option Addr} {lf cf : Nat} {z : Addr} {R : Nat → Int} {k : Nat} {wr : World} (h : LInv w n af lf cf z R k wr) :
    LInv w n af lf cf z R (k + 1) (((wr.setCell ⟨w.heap.size + 1 + 1, k * 20 + 3, none⟩ (.int .u64 0)).setCell ⟨w.heap.size + 1 + 1, k * 20 + 3 + 1, none⟩ (.int .u64 (lo (R k % 4)))).setCell ⟨w.heap.size + 1 + 1, k * 20 + 3 + 2, none⟩ (.pointer (zp z (R k % 4)))) := by
  have hs := h.sz
  have c : ∀ (wx : World) b j o v, b ≠ w.heap.size + 1 + 1 → (wx.setCell ⟨w.heap.size + 1 + 1, o, none⟩ v).cell? ⟨b, j, none⟩ = wx.cell? ⟨b, j, none⟩ := fun wx b j o v hl => World.cell?_setCell_other _ _ _ _ (by intro e; have := congrArg Addr.block e; simp at this; omega)
  obtain ⟨f, hf, hv⟩ := h.row
  refine ⟨by rw [c _ _ _ _ _ (by omega), c _ _ _ _ _ (by omega), c _ _ _ _ _ (by omega)]; exact h.box, by rw [c _ _ _ _ _ (by omega), c _ _ _ _ _ (by omega), c _ _ _ _ _ (by omega)]; exact h.nn, by rw [c _ _ _ _ _ (by omega), c _ _ _ _ _ (by omega), c _ _ _ _ _ (by omega)]; exact h.cv,
    ⟨_, ((hf.set _ _).set _ _).set _ _, fun j hj => ?_⟩, ((h.below.setCell (by simp; omega) _).setCell (by simp; omega) _).setCell (by simp; omega) _, by simp [World.setCell]; omega⟩
  by_cases e : j = k
  · subst e
    refine ⟨?_, ?_, ?_⟩
    · simp
    · simp
    · simp
  · have hj' := hv j (by omega)
    refine ⟨?_, ?_, ?_⟩
    · rw [if_neg (by omega), if_neg (by omega), if_neg (by omega)]; exact hj'.1
    · rw [if_neg (by omega), if_neg (by omega), if_neg (by omega)]; exact hj'.2.1
    · rw [if_neg (by omega), if_neg (by omega), if_neg (by omega)]; exact hj'.2.2

/-- -1 or the index. -/
def anyInt (o : Option Nat) : Int := match o with | none => -1 | some j => j
theorem anyOf_lt {F : Nat → Bool} {R : Nat → Int} : ∀ {i j : Nat}, anyOf F R i = some j → j < i
  | i + 1, j, h => by
    rw [anyOf] at h
    cases ha : anyOf F R i with
    | some j' => rw [ha] at h; have := anyOf_lt ha; simp at h; omega
    | none => rw [ha] at h; simp at h; omega

/-- What the law's tail knows of the world behind the call of connection. -/
structure TInv (w : World) (n : Nat) (af : Option Addr) (lf cf bFit K kk : Nat) (wt : World) : Prop where
  box : wt.cell? ⟨w.heap.size, 0, none⟩ = some (.slice af lf cf)
  nn : wt.cell? ⟨w.heap.size + 1, 0, none⟩ = some (.int .i64 n)
  cv : wt.cell? ⟨w.heap.size + 1 + 1 + 1, 0, none⟩ = some (.slice (some ⟨w.heap.size + 1 + 1, 0, none⟩) n n)
  fit : wt.cell? ⟨bFit, 0, none⟩ = some (.func (.func 5) #[] #[.pointer (some ⟨w.heap.size, 0, none⟩)])
  kc : wt.cell? ⟨K, 0, none⟩ = some (.int .i64 kk)
  io : wt.cell? ⟨K + 1, 0, none⟩ = some (.bool true)
  below : Below w.heap.size w wt

theorem conn_at (n E : Nat) (af : Option Addr) (lf cf : Nat) (F : Nat → Bool) (R : Nat → Int) (z : Addr) (at_ : Int) (w w2 : World) (hn : n ≤ 1024) (hR : ∀ i, 0 ≤ R i) (hat : 0 ≤ at_)
    (hF : FitIs w.heap.size w af lf F) (hz0 : w.cell? ⟨1, 0, none⟩ = some (.pointer none)) (h1 : 1 < w.heap.size) (inv2 : LInv w n af lf cf z R n w2)
    (hE : w2.cell? ⟨E, 0, none⟩ = some (.slice (some ⟨w.heap.size + 1 + 1, 0, none⟩) n n)) (hE2 : E < w2.heap.size) :
    Calls Ybad.prog 6 #[.pointer (some ⟨E, 0, none⟩), .agg #[.int .u64 0, .int .u64 (lo (at_ % 4)), .pointer (zp z (at_ % 4))],
        .func (.func 7) #[] #[.pointer (some ⟨w2.heap.size + 1 + 1, 0, none⟩), .pointer (some ⟨w.heap.size + 1, 0, none⟩), .pointer (some ⟨w.heap.size + 1 + 1 + 1, 0, none⟩), .pointer (some ⟨w2.heap.size + 1 + 1 + 1, 0, none⟩), .pointer (some ⟨w2.heap.size + 1, 0, none⟩)]]
      ((((w2.alloc (.cells #[.int .u64 0, .int .u64 (lo (at_ % 4)), .pointer (zp z (at_ % 4))] 32)).alloc (.cells #[.func (.func 5) #[] #[.pointer (some ⟨w.heap.size, 0, none⟩)]] 56)).alloc (.cells #[.int .i64 0] 3)).alloc (.cells #[.bool true] 4))
      fun e w' => ∃ k : Nat, TInv w n af lf cf (w2.heap.size + 1) (w2.heap.size + 1 + 1) k w' ∧
        ((∃ i, i < n ∧ F i = true ∧ R i % 4 = at_ % 4 ∧ (∀ j, j < i → ¬ (F j = true ∧ R j % 4 = at_ % 4)) ∧ k = i + 1 ∧ e = .returned (.pointer (some ⟨w.heap.size + 1 + 1, i * 20, none⟩))) ∨
         ((∀ j, j < n → ¬ (F j = true ∧ R j % 4 = at_ % 4)) ∧ k = n ∧ e = .returned (.pointer ((anyOf F R n).map fun j => ⟨w.heap.size + 1 + 1, j * 20, none⟩)))) := by
  have hs := inv2.sz
  obtain ⟨W4, hW4⟩ : ∃ W4, ((((w2.alloc (.cells #[.int .u64 0, .int .u64 (lo (at_ % 4)), .pointer (zp z (at_ % 4))] 32)).alloc (.cells #[.func (.func 5) #[] #[.pointer (some ⟨w.heap.size, 0, none⟩)]] 56)).alloc (.cells #[.int .i64 0] 3)).alloc (.cells #[.bool true] 4)) = W4 := ⟨_, rfl⟩
  have b4 : Below w2.heap.size w2 W4 := by rw [← hW4]; exact ((((Below.refl _ _).alloc (Nat.le_refl _) _).alloc (by simp) _).alloc (by simp; omega) _).alloc (by simp; omega) _
  have s4 : W4.heap.size = w2.heap.size + 4 := by rw [← hW4]; simp
  have c4 : ∀ b j, b < w2.heap.size → W4.cell? ⟨b, j, none⟩ = w2.cell? ⟨b, j, none⟩ := fun b j hl => b4.cell (p := ⟨b, j, none⟩) hl
  have cF : W4.cell? ⟨w2.heap.size + 1, 0, none⟩ = some (.func (.func 5) #[] #[.pointer (some ⟨w.heap.size, 0, none⟩)]) := by
    rw [← hW4, World.cell?_alloc_lt _ _ _ (by simp), World.cell?_alloc_lt _ _ _ (by simp), World.cell?_alloc_at _ _ _ _ (by simp)]; rfl
  have cK : W4.cell? ⟨w2.heap.size + 1 + 1, 0, none⟩ = some (.int .i64 0) := by
    rw [← hW4, World.cell?_alloc_lt _ _ _ (by simp), World.cell?_alloc_at _ _ _ _ (by simp)]; rfl
  have cI : W4.cell? ⟨w2.heap.size + 1 + 1 + 1, 0, none⟩ = some (.bool true) := by
    rw [← hW4, World.cell?_alloc_at _ _ _ _ (by simp)]; rfl
  have fK : W4.frozen? ⟨w2.heap.size + 1 + 1, 0, none⟩ = false := by
    rw [← hW4, World.frozen?_alloc_past _ _ _ (by simp), World.frozen?_alloc_at _ _ _ _ (by simp)]
  rw [hW4]
  clear hW4
  have bl : Below w.heap.size w W4 := inv2.below.trans (b4.mono (by omega))
  obtain ⟨f, hf, hv⟩ := inv2.row
  refine (conn_any w.heap.size n (w.heap.size + 1 + 1) E w.heap.size (w2.heap.size + 1 + 1) (w.heap.size + 1) (w.heap.size + 1 + 1 + 1) (w2.heap.size + 1) af lf cf F R z at_ W4 hn hR hat (by omega) (by omega) (by omega) (by omega) (by omega) (by omega) (by omega) (by omega) (by omega)
    (by rw [c4 _ _ hE2]; exact hE) ?_ (by rw [bl.cell (p := ⟨1, 0, none⟩) h1]; exact hz0) (by rw [c4 _ _ (by omega)]; exact inv2.box) (hF.later bl (Nat.le_refl _)) cK fK cI (by rw [c4 _ _ (by omega)]; exact inv2.nn) (by rw [c4 _ _ (by omega)]; exact inv2.cv) cF).mono ?_
  · intro i hi
    have r := hv i hi
    rw [c4 _ _ (by omega), c4 _ _ (by omega), c4 _ _ (by omega), hf.cell (by omega), hf.cell (by omega), hf.cell (by omega), r.1, r.2.1, r.2.2]
    exact ⟨rfl, rfl, rfl⟩
  · rintro e w' ⟨k, hb, hk, hi, hd⟩
    have c5 : ∀ b j, b < w2.heap.size → w'.cell? ⟨b, j, none⟩ = w2.cell? ⟨b, j, none⟩ := fun b j hl => by rw [hb.cell (p := ⟨b, j, none⟩) (by show b < _; omega), c4 _ _ hl]
    exact ⟨k, ⟨by rw [c5 _ _ (by omega)]; exact inv2.box, by rw [c5 _ _ (by omega)]; exact inv2.nn, by rw [c5 _ _ (by omega)]; exact inv2.cv, by rw [hb.cell (p := ⟨w2.heap.size + 1, 0, none⟩) (by show w2.heap.size + 1 < w2.heap.size + 1 + 1; omega)]; exact cF, hk, hi, bl.trans (hb.mono (by omega))⟩, hd⟩

set_option maxRecDepth 8000 in
set_option maxHeartbeats 1000000 in
theorem law_walk (n : Nat) (ar : Option Addr) (cr : Nat) (af : Option Addr) (lf cf : Nat) (F : Nat → Bool) (R : Nat → Int) (z : Addr) (at_ : Int) (w : World) (hn : n ≤ 1024) (hR : ∀ i, 0 ≤ R i ∧ R i ≤ 255) (hat : 0 ≤ at_) (hat' : at_ ≤ 255)
    (hr : ∀ i, i < n → ∃ b off, ar = some ⟨b, off, none⟩ ∧ b < w.heap.size ∧ w.cell? ⟨b, off + i, none⟩ = some (.int .u8 (R i))) (hF : FitIs w.heap.size w af lf F)
    (hz : w.cell? ⟨0, 0, none⟩ = some (.pointer (some z))) (hz0 : w.cell? ⟨1, 0, none⟩ = some (.pointer none)) (h1 : 1 < w.heap.size) :
    Calls Ybad.prog 3 #[.slice ar n cr, .slice af lf cf, .int .u8 at_] w fun e w' => e = .returned (.bool true) ∧ Below w.heap.size w w' := by
  obtain ⟨M, hM, hmk⟩ := makeConns n hn
  go_enter Ybad.func3, Ybad.ntmps3
  go_wp2
  go_loopw [9] (fun p wr => ∃ k : Nat, k ≤ n ∧ p = .int .i64 k ∧ LInv w n af lf cf z R k wr) (fun p _ => n - (intOf p).toNat)
  case atStart =>
    have c : ∀ (wx : World) (o : Obj) b j, b < wx.heap.size → (wx.alloc o).cell? ⟨b, j, none⟩ = wx.cell? ⟨b, j, none⟩ := fun wx o b j hb => World.cell?_alloc_lt _ _ _ hb
    refine ⟨0, Nat.zero_le _, rfl, ?_, ?_, ?_, ⟨fun j => (M[j]?).getD (.bool false), ?_, fun j h => absurd h (Nat.not_lt_zero _)⟩, ((((Below.refl _ _).alloc (Nat.le_refl _) _).alloc (by simp) _).alloc (by simp; omega) _).alloc (by simp; omega) _, by simp⟩
    · rw [c _ _ _ _ (by simp; omega), c _ _ _ _ (by simp; omega), c _ _ _ _ (by simp), World.cell?_alloc_new]; rfl
    · rw [c _ _ _ _ (by simp), c _ _ _ _ (by simp), World.cell?_alloc_at _ _ _ _ (by simp)]; rfl
    · rw [World.cell?_alloc_at _ _ _ _ (by simp)]; rfl
    · have e := World.rowIs_alloc ((w.alloc (Obj.cells #[Value.slice af lf cf] 23)).alloc (Obj.cells #[Value.int IntKind.i64 ↑n] 3)) M 40 (fun j => (M[j]?).getD (.bool false)) (fun i hi => by simp [hi])
      rw [hM] at e
      simpa using e.alloc (Obj.cells #[Value.slice (some { block := w.heap.size + 1 + 1, off := 0 }) n n] 24)
  case round =>
    obtain ⟨k, hk, rfl, inv⟩ := hrel
    by_cases hlt : k < n
    · obtain ⟨b, off, rfl, hb, hc⟩ := hr k hlt
      have hRk := hR k
      have hc1 : wr.cell? ⟨b, off + k, none⟩ = some (.int .u8 (R k)) := by rw [inv.below.cell (p := ⟨b, off + k, none⟩) hb]; exact hc
      have i1 := inv.nn
      have i2 := inv.cv
      have ha : Hid (∀ wx : World, Below w.heap.size w wx → Calls Ybad.prog 4 #[.int .u8 (R k)] wx fun e w' => e = .returned (.agg #[.int .u64 0, .int .u64 (lo (R k % 4)), .pointer (zp z (R k % 4))]) ∧ Below wx.heap.size wx w') := fun wx hx => addr_any (R k) hRk.1 hRk.2 z wx (by rw [hx.cell (p := ⟨0, 0, none⟩) (by show 0 < _; omega)]; exact hz) (by have := hx.size; omega)
      go_wp2_with fail
      go_region_with (go_at_call 4; refine (ha.out _ inv.below.drew).mono ?_; rintro e w1 ⟨rfl, hb1⟩; have invL := inv.drew.later hb1; obtain ⟨f, hf, hfx⟩ := invL.row; have g0 := hf.cell (i := k * 20 + 3) (by omega); have g1 := hf.cell (i := k * 20 + 3 + 1) (by omega); have g2 := hf.cell (i := k * 20 + 3 + 2) (by omega); have z0 := hf.frozen (k * 20 + 3); have z1 := hf.frozen (k * 20 + 3 + 1); have z2 := hf.frozen (k * 20 + 3 + 2); have i3 := invL.cv; clear hfx)
      all_goals go_wp2
      all_goals
        go_roundw
        case rel => exact ⟨k + 1, by omega, by go_num, invL.set⟩
        case measure => simp [intOf]; omega
    · obtain rfl : k = n := by omega
      have i1 := inv.nn
      have i2 := inv.cv
      have isz := inv.sz
      go_wp2_with fail
      refine (addr_any at_ hat hat' z _ (by rw [World.cell?_alloc_lt _ _ _ (by show 0 < _; omega), inv.below.cell (p := ⟨0, 0, none⟩) (by show 0 < _; omega)]; exact hz) (by simp)).mono ?_
      rintro e w2 ⟨rfl, hb2⟩
      have inv2 : LInv w k af lf cf z R k w2 := inv.later (((Below.refl _ _).alloc (Nat.le_refl _) _).trans (hb2.mono (by simp)))
      have hE : w2.cell? ⟨wr.heap.size, 0, none⟩ = some (.slice (some ⟨w.heap.size + 1 + 1, 0, none⟩) k k) := by
        rw [hb2.cell (p := ⟨wr.heap.size, 0, none⟩) (by simp), World.cell?_alloc_new]; rfl
      have hE2 : wr.heap.size < w2.heap.size := by have := hb2.size; simp at this; omega
      clear hb2 i1 i2 inv
      go_wp2_with fail
      refine (conn_at k wr.heap.size af lf cf F R z at_ w w2 hn (fun i => (hR i).1) hat hF hz0 h1 inv2 hE hE2).mono ?_
      rintro e wt ⟨kk, tinv, hd⟩
      have t1 := tinv.box
      have t2 := tinv.nn
      have t3 := tinv.cv
      have t4 := tinv.fit
      have t5 := tinv.kc
      have t6 := tinv.io
      have hFt := hF.later tinv.below (Nat.le_refl _)
      have HT : Hid (Below w.heap.size w wt) := tinv.below
      have hrt : ∀ i, i < k → ∃ b off, ar = some ⟨b, off, none⟩ ∧ wt.cell? ⟨b, off + i, none⟩ = some (.int .u8 (R i)) := fun i hi => by
        obtain ⟨b, off, e, hb, hc⟩ := hr i hi
        exact ⟨b, off, e, by rw [tinv.below.cell (p := ⟨b, off + i, none⟩) hb]; exact hc⟩
      clear tinv inv2 hE hE2 hz hz0 hF hr isz hM hlt hk
      have hd' : ∃ (M : Nat) (pp : Option Addr), M ≤ k ∧ e = .returned (.pointer pp) ∧ (∀ j, j < M → ¬ (F j = true ∧ R j % 4 = at_ % 4)) ∧
          ((M < k ∧ F M = true ∧ R M % 4 = at_ % 4 ∧ kk = M + 1 ∧ pp = some ⟨w.heap.size + 1 + 1, M * 20, none⟩) ∨ (M = k ∧ kk = k ∧ pp = (anyOf F R k).map fun j => ⟨w.heap.size + 1 + 1, j * 20, none⟩)) := by
        rcases hd with ⟨m, hm, hfm, hmm, hno, hk, he⟩ | ⟨hno, hk, he⟩
        · exact ⟨m, _, by omega, he, hno, Or.inl ⟨hm, hfm, hmm, hk, rfl⟩⟩
        · exact ⟨k, _, Nat.le_refl _, he, hno, Or.inr ⟨rfl, hk, rfl⟩⟩
      obtain ⟨M, pp, hM, rfl, hno, hend⟩ := hd'
      clear hd
      go_wp2_with fail
      go_loop [16, 17, 18, 19] (fun wnt an cl p => ∃ i : Nat, i ≤ M ∧ p = .int .i64 i ∧ wnt = .int .i64 (-1) ∧ an = .int .i64 (anyInt (anyOf F R i)) ∧ cl = .int .i64 k) (fun _ _ _ p => k - (intOf p).toNat)
      case atStart => exact ⟨0, Nat.zero_le _, rfl, rfl, rfl, rfl⟩
      case round =>
        obtain ⟨i, hi, rfl, rfl, rfl, rfl⟩ := hrel
        by_cases hiM : i < M
        · have hik : i < k := by omega
          have hnm := hno i hiM
          obtain ⟨b, off, rfl, hc⟩ := hrt i hik
          have hRi := hR i
          clear hno hend hrt hR
          have hcl := fit_any w.heap.size i w.heap.size af lf cf F wt (by omega) t1 hFt
          have HC : Hid _ := hcl
          clear hcl
          by_cases hf : F i = true
          · have hnm' : (R i % 4 == at_ % 4) = false := by
              have : ¬ R i % 4 = at_ % 4 := fun e => hnm ⟨hf, e⟩
              simpa using this
            by_cases h0 : R i % 4 = 0
            · have hb0 : (R i % 4 == 0) = true := by simpa using h0
              cases ha : anyOf F R i with
              | none =>
                have HA : Hid (anyOf F R (i + 1) = some i) := anyOf_new hf h0 ha
                have hn0 : anyInt none = -1 := rfl
                clear h0 ha hnm
                go_wp2_with (go_at_call 5; refine (Calls.mono HC.out ?_); rintro e w' ⟨rfl, rfl⟩)
                go_round
                case rel => exact ⟨i + 1, by omega, by go_num, rfl, by rw [HA.out]; rfl, rfl⟩
                case measure => simp [intOf]; omega
              | some j =>
                have HA : Hid (anyOf F R (i + 1) = some j) := by unfold Hid; rw [anyOf_same (Or.inr (Or.inr (by simp [ha]))), ha]
                have hj0 : anyInt (some j) = j := rfl
                clear h0 ha hnm
                go_wp2_with (go_at_call 5; refine (Calls.mono HC.out ?_); rintro e w' ⟨rfl, rfl⟩)
                go_round
                case rel => exact ⟨i + 1, by omega, by go_num, rfl, by rw [HA.out]; rfl, rfl⟩
                case measure => simp [intOf]; omega
            · have hb0 : (R i % 4 == 0) = false := by simpa using h0
              have HA : Hid (anyOf F R (i + 1) = anyOf F R i) := anyOf_same (Or.inr (Or.inl h0))
              clear h0 hnm
              go_wp2_with (go_at_call 5; refine (Calls.mono HC.out ?_); rintro e w' ⟨rfl, rfl⟩)
              go_round
              case rel => exact ⟨i + 1, by omega, by go_num, rfl, by rw [HA.out], rfl⟩
              case measure => simp [intOf]; omega
          · have hf' : F i = false := by simpa using hf
            have HA : Hid (anyOf F R (i + 1) = anyOf F R i) := anyOf_same (Or.inl hf')
            clear hf hnm
            go_wp2_with (go_at_call 5; refine (Calls.mono HC.out ?_); rintro e w' ⟨rfl, rfl⟩)
            go_round
            case rel => exact ⟨i + 1, by omega, by go_num, rfl, by rw [HA.out], rfl⟩
            case measure => simp [intOf]; omega
        · obtain rfl : i = M := by omega
          clear hno
          rcases hend with ⟨hik, hf, hmm, rfl, rfl⟩ | ⟨rfl, rfl, rfl⟩
          · obtain ⟨b, off, rfl, hc⟩ := hrt i hik
            have hRi := hR i
            have hcl := fit_any w.heap.size i w.heap.size af lf cf F wt (by omega) t1 hFt
            have HC : Hid _ := hcl
            have hb : (R i % 4 == at_ % 4) = true := by simpa using hmm
            have hq := eqConn ⟨w.heap.size + 1 + 1, i * 20, none⟩
            have t5' : wt.cell? ⟨w2.heap.size + 1 + 1, 0, none⟩ = some (.int .i64 ((i : Int) + 1)) := by simpa using t5
            clear hcl hrt hR hmm t5
            go_wp2_with (go_at_call 5; refine (Calls.mono HC.out ?_); rintro e w' ⟨rfl, rfl⟩)
            go_ret
            exact ⟨rfl, HT.out⟩
          · clear hrt hR
            cases ha : anyOf F R kk with
            | none =>
              have hn0 : anyInt none = -1 := rfl
              have hm0 : Option.map (fun j => (⟨w.heap.size + 1 + 1, j * 20, none⟩ : Addr)) none = none := rfl
              clear ha
              go_wp2_with fail
              go_ret
              exact ⟨rfl, HT.out⟩
            | some j =>
              have hj := anyOf_lt ha
              have hj0 : anyInt (some j) = j := rfl
              have hq := eqConn ⟨w.heap.size + 1 + 1, j * 20, none⟩
              clear ha
              go_wp2_with fail
              go_ret
              exact ⟨rfl, HT.out⟩

set_option maxRecDepth 8000 in
set_option maxHeartbeats 400000 in
theorem law_long (n : Nat) (ar : Option Addr) (cr : Nat) (af : Option Addr) (lf cf : Nat) (at_ : Int) (w : World) (hn : 1024 < n) (hm : n ≤ 9223372036854775807) :
    Calls Ybad.prog 3 #[.slice ar n cr, .slice af lf cf, .int .u8 at_] w fun e w' => e = .returned (.bool true) ∧ Below w.heap.size w w' := by
  go_enter Ybad.func3, Ybad.ntmps3
  go_wp2
  go_ret
  exact ⟨rfl, (Below.refl _ _).alloc (Nat.le_refl _) _⟩
end Go.Proofs.YbulkdclqDoor
