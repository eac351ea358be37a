/-
  The walk of (*upload).pick.
-/
import Derived.Test.YbulkdcngDoorMap
namespace Go.Proofs.YbulkdcngDoor
open Go.RowKit Go.Deep
set_option linter.unusedVariables false

theorem info45 : (Ybad.prog.info? 45).map (fun i => (i.zero, i.size, i.bytes)) = some (some (.pointer none), 1, 8) := by kernel_rfl

/-- The parts' files: three cells of each. -/
def FilesAre (B : Nat) (w : World) (I : Inp) (blk : Nat → Nat) : Prop :=
  ∀ j, j < I.n → blk j < B ∧ w.cell? ⟨blk j, 0, none⟩ = some (.int .i64 (I.N j)) ∧ w.cell? ⟨blk j, 1, none⟩ = some (.string (I.T j)) ∧ w.cell? ⟨blk j, 2, none⟩ = some (.int .i64 (I.S j * 1048576))
theorem FilesAre.later {B K : Nat} {w w' : World} {I : Inp} {blk : Nat → Nat} (h : FilesAre B w I blk) (hb : Below K w w') (hK : B ≤ K) : FilesAre B w' I blk := fun j hj => by
  obtain ⟨hl, c0, c1, c2⟩ := h j hj
  have c : ∀ o, w'.cell? ⟨blk j, o, none⟩ = w.cell? ⟨blk j, o, none⟩ := fun o => hb.cell (p := ⟨blk j, o, none⟩) (by show blk j < K; omega)
  exact ⟨hl, by rw [c]; exact c0, by rw [c]; exact c1, by rw [c]; exact c2⟩

/-- What pick answers. -/
def Picked (I : Inp) (blk : Nat → Nat) (te : TypeId) (ea : Nat → Addr) (w : World) (e : Ending) (w' : World) : Prop :=
  ∃ gv, e = .returned (.tuple #[gv, errV te ea I.code]) ∧ Below w.heap.size w w' ∧ (I.code ≠ 0 → gv = .slice none 0 0) ∧
    (I.code = 0 → ∃ G, gv = .slice (some ⟨G, 0, none⟩) I.m I.m ∧ ∀ j, j < I.m → w'.cell? ⟨G, j, none⟩ = some (.pointer ((I.at j).map fun j => ⟨blk j, 0, none⟩)))
theorem Picked.bad {I : Inp} {blk : Nat → Nat} {te : TypeId} {ea : Nat → Addr} {w w' : World} {c : Nat} (hc : I.code = c) (h0 : c ≠ 0) (hb : Below w.heap.size w w') :
    Picked I blk te ea w (.returned (.tuple #[.slice none 0 0, .iface te (.pointer (some (ea c)))])) w' := by
  refine ⟨_, ?_, hb, fun _ => rfl, fun h => absurd (hc.symm.trans h) h0⟩
  rw [hc, errV, if_neg h0]

/-- What pick's second loop keeps: k parts are laid in the row at block G. -/
structure KInv (I : Inp) (blk : Nat → Nat) (w : World) (G k : Nat) (wr : World) : Prop where
  row : ∃ f, wr.rowIs G 45 I.m f ∧ ∀ j, j < k → f j = .pointer ((I.at j).map fun j => ⟨blk j, 0, none⟩)
  below : Below w.heap.size w wr
  gt : w.heap.size ≤ G
theorem KInv.set {I : Inp} {blk : Nat → Nat} {w : World} {G k : Nat} {wr : World} (h : KInv I blk w G k wr) {v : Value} (hv : v = .pointer ((I.at k).map fun j => ⟨blk j, 0, none⟩)) : KInv I blk w G (k + 1) (wr.setCell ⟨G, k, none⟩ v) := by
  obtain ⟨f, hf, hv'⟩ := h.row
  refine ⟨⟨_, hf.set k v, fun j hj => ?_⟩, h.below.setCell h.gt _, h.gt⟩
  by_cases e : j = k
  · subst e; rw [if_pos rfl]; exact hv
  · rw [if_neg e]; exact hv' j (by omega)
theorem KInv.alloc {I : Inp} {blk : Nat → Nat} {w : World} {G k : Nat} {wr : World} (h : KInv I blk w G k wr) (o : Obj) : KInv I blk w G k (wr.alloc o) := by
  obtain ⟨f, hf, hv'⟩ := h.row
  exact ⟨⟨f, hf.alloc o, hv'⟩, h.below.alloc h.below.size o, h.gt⟩
theorem KInv.drewN {I : Inp} {blk : Nat → Nat} {w : World} {G k : Nat} {wr : World} (h : KInv I blk w G k wr) (n : Nat) : KInv I blk w G k (wr.drewN n) :=
  ⟨h.row, Below.drewN h.below n, h.gt⟩

set_option maxRecDepth 8000 in
set_option maxHeartbeats 1000000 in
theorem pick_any (U C Mb : Nat) (I : Inp) (ok : I.Ok) (blk : Nat → Nat) (te : TypeId) (ea : Nat → Addr) (w : World) (hU : U < w.heap.size) (hC : C < w.heap.size) (h4 : 4 < w.heap.size)
    (hu : w.cell? ⟨U, 9, none⟩ = some (.map (some Mb))) (hM : MapIs w Mb I.N I.n blk) (hF : FilesAre w.heap.size w I blk) (hL : ClAre w C I) (hG : ErrsAre w te ea) :
    Calls Ybad.prog 6 #[.pointer (some ⟨U, 0, none⟩), .slice (some ⟨C, 0, none⟩) I.m I.m] w fun e w' => Picked I blk te ea w e w' := by
  have hn := ok.hn
  have hm := ok.hm
  have g1 := hG 1 (by omega) (by omega)
  by_cases hm0 : I.m = 0
  · have H : Hid (I.code = 1) := Inp.code_empty hm0
    have hb0 : ((I.m : Int) == 0) = true := by simp; omega
    clear hm0
    go_enter Ybad.func6, Ybad.ntmps6
    go_wp2
    go_quiet (fail)
    go_wp2
    go_ret2
    exact Picked.bad H.out (by omega) (Below.drewN (Below.refl _ _) nq)
  · have hb0 : ((I.m : Int) == 0) = false := by simp; omega
    go_enter Ybad.func6, Ybad.ntmps6
    go_wp2
    go_loopw [6] (fun p wr => ∃ k : Nat, k + 1 ≤ I.m ∧ p = .int .i64 ((k : Int) + 1) ∧ I.down k = false ∧ Below w.heap.size w wr) (fun p _ => I.m - (intOf p).toNat)
    case atStart => exact ⟨0, by omega, rfl, rfl, Below.refl _ _⟩
    case round =>
      obtain ⟨k, hk, rfl, hdn, bel⟩ := hrel
      have hLr := hL.later bel hC
      by_cases hlt : k + 1 < I.m
      · obtain ⟨c0, _⟩ := hLr k (by omega)
        obtain ⟨d0, _⟩ := hLr (k + 1) hlt
        have g2 : wr.cell? ⟨2, 0, none⟩ = _ := (hG.later bel h4) 2 (by omega) (by omega)
        by_cases hup : I.LN k < I.LN (k + 1)
        · have H : Hid (I.down (k + 1) = false) := Inp.down_go hdn hup
          have hdu : decide (I.LN (k + 1) ≤ I.LN k) = false := by simp; omega
          clear hdn hLr
          go_wp2_with fail
          go_quiet (fail)
          go_wp2
          go_roundw
          case rel => exact ⟨k + 1, by omega, by go_num, H.out, Below.drewN bel nq⟩
          case measure => simp [intOf]; omega
        · have H : Hid (I.code = 2) := Inp.code_down hm0 (Inp.down_hit hup hlt)
          have hdu : decide (I.LN (k + 1) ≤ I.LN k) = true := by simp; omega
          clear hdn hLr hup
          go_wp2_with fail
          go_quiet (fail)
          go_wp2
          go_quiet (fail)
          go_wp2
          go_ret2
          exact Picked.bad H.out (by omega) (Below.drewN (Below.drewN bel _) _)
      · have hkm : k = I.m - 1 := by omega
        have HD : Hid (I.down (I.m - 1) = false) := hkm ▸ hdn
        have hdc : decide ((k : Int) + 1 < (I.m : Int)) = false := by simp; omega
        have hmk := run_make_row' (P := Ybad.prog) 44 45 (.pointer none) 8 Ybad.underlying44 info45 rfl .i64 .i64 I.m (by omega) (by omega)
        clear hkm hdn hLr
        obtain ⟨wo, rfl⟩ : ∃ wo : World, wo = wr := ⟨_, rfl⟩
        go_wp2
        go_loopw [8, 40] (fun s p wr => ∃ k : Nat, k ≤ I.m ∧ p = .int .i64 k ∧ s = .int .i64 (I.sum k) ∧ I.bad k = 0 ∧ KInv I blk w wo.heap.size k wr) (fun _ p _ => I.m - (intOf p).toNat)
        case atStart =>
          exact ⟨0, Nat.zero_le _, rfl, rfl, rfl, ⟨_, World.rowIs_made wo (.pointer none) I.m 45, fun j h => absurd h (Nat.not_lt_zero _)⟩, bel.alloc bel.size _, bel.size⟩
        case round =>
          clear hmk
          obtain ⟨k, hk, rfl, rfl, hbad, inv⟩ := hrel
          have hsum := Inp.sum_small ok hk
          have hGr := hG.later inv.below h4
          have g1 := hGr 1 (by omega) (by omega)
          have g3 := hGr 3 (by omega) (by omega)
          have g4 := hGr 4 (by omega) (by omega)
          by_cases hlt : k < I.m
          · obtain ⟨c0, c1⟩ := hL.later inv.below hC k hlt
            have hur : wr.cell? ⟨U, 9, none⟩ = some (.map (some Mb)) := by rw [inv.below.cell (p := ⟨U, 9, none⟩) hU]; exact hu
            have hMr : MapIs wr Mb I.N I.n blk := hM.of_block (inv.below.block _ hM.lt)
            have hFr := hF.later inv.below (Nat.le_refl _)
            have hLk := ok.hL k
            have hadd := Inp.add_bd ok k
            have hz := inv.below.size
            have hlook : ∀ (o : Obj) (q : Nat), (Instr.lookup 25 (.map (some Mb)) (.int .i64 (I.LN k)) false).run Ybad.prog ((wr.alloc o).drewN q) = .ok (.pointer ((I.at k).map fun j => ⟨blk j, 0, none⟩)) ((wr.alloc o).drewN q) := fun o q =>
              MapIs.look (hMr.of_block (show ((wr.alloc o).drewN q).heap[Mb]? = _ from Below.heap_alloc _ _ _ hMr.lt)) hLk.1 hLk.2
            have lU : U < wr.heap.size := by omega
            have l1 : 1 < wr.heap.size := by omega
            have l3 : 3 < wr.heap.size := by omega
            have l4 : 4 < wr.heap.size := by omega
            have lC : C < wr.heap.size := by omega
            clear hMr hGr
            cases hat : I.at k with
            | none =>
              have H : Hid (I.code = 1) := Inp.code_bad hm0 HD.out (Inp.bad_hit hbad (c := 1) (by simp [Inp.chk, hat]) (by omega) hlt) (by omega)
              rw [hat] at hlook
              have hl' : ∀ (o : Obj) (q : Nat), (Instr.lookup 25 (.map (some Mb)) (.int .i64 (I.LN k)) false).run Ybad.prog ((wr.alloc o).drewN q) = .ok (.pointer none) ((wr.alloc o).drewN q) := hlook
              clear hat hbad hlook
              go_wp2_with fail
              go_quiet (fail)
              go_wp2_with fail
              go_quiet (fail)
              go_wp2_with fail
              go_quiet (fail)
              go_wp2
              go_ret2
              exact Picked.bad H.out (by omega) (Below.drewN (Below.drewN (Below.drewN (inv.below.alloc hz _) _) _) _)
            | some j =>
              have hj := Inp.at_lt hat
              obtain ⟨hl, f0, f1, f2⟩ := hFr j hj
              have lb : blk j < wr.heap.size := by omega
              have hSj := ok.hS j
              have hl' : ∀ (o : Obj) (q : Nat), (Instr.lookup 25 (.map (some Mb)) (.int .i64 (I.LN k)) false).run Ybad.prog ((wr.alloc o).drewN q) = .ok (.pointer (some ⟨blk j, 0, none⟩)) ((wr.alloc o).drewN q) := fun o q => by rw [hlook o q, hat]; rfl
              have HA : Hid (I.add k = I.S j * 1048576) := by unfold Hid; simp [Inp.add, hat]
              have HS : Hid (I.sum (k + 1) = I.sum k + I.add k) := rfl
              have HV : Hid (Value.pointer (some ⟨blk j, 0, none⟩) = .pointer ((I.at k).map fun j => ⟨blk j, 0, none⟩)) := by unfold Hid; rw [hat]; rfl
              obtain ⟨f, hf, _⟩ := inv.row
              have r0 := hf.cell hlt
              have r1 := hf.frozen k
              have lG := hf.lt
              have hnG : ¬ wo.heap.size = blk j := by have := inv.gt; omega
              clear hlook hFr hadd hf
              by_cases ht : ((I.T j).toList == (I.CT k).toList) = true
              · by_cases hsm : k + 1 < I.m ∧ I.S j * 1048576 < 5242880
                · have H : Hid (I.code = 3) := Inp.code_bad hm0 HD.out (Inp.bad_hit hbad (c := 3) (by simp [Inp.chk, hat, ht, hsm]) (by omega) hlt) (by omega)
                  obtain ⟨hs1, hs2⟩ := hsm
                  have hne : decide ((k : Int) < (I.m : Int) - 1) = true := by simp; omega
                  clear hat hbad
                  go_wp2_with fail
                  go_quiet (fail)
                  go_wp2_with fail
                  go_quiet (fail)
                  go_wp2_with fail
                  go_quiet (fail)
                  go_wp2
                  go_ret2
                  exact Picked.bad H.out (by omega) (Below.drewN (Below.drewN (inv.below.alloc hz _) _) _)
                · have HB : Hid (I.bad (k + 1) = 0) := Inp.bad_go hbad (by simp [Inp.chk, hat, ht, hsm])
                  by_cases hs1 : k + 1 < I.m
                  · have hs2 : ¬ I.S j * 1048576 < 5242880 := fun e => hsm ⟨hs1, e⟩
                    have hs3 : decide (I.S j * 1048576 < 5242880) = false := by simpa using hs2
                    have hne : decide ((k : Int) < (I.m : Int) - 1) = true := by simp; omega
                    clear hat hbad hsm hs2
                    go_wp2_with fail
                    go_quiet (fail)
                    go_wp2_with fail
                    go_quiet (fail)
                    go_wp2_with fail
                    go_roundw
                    case rel => exact ⟨k + 1, by omega, by go_num, by rw [HS.out, HA.out], HB.out, ((inv.alloc _).drewN _).set HV.out⟩
                    case measure => simp [intOf]; omega
                  · have hne : decide ((k : Int) < (I.m : Int) - 1) = false := by simp; omega
                    clear hat hbad hsm
                    go_wp2_with fail
                    go_quiet (fail)
                    go_wp2_with fail
                    go_quiet (fail)
                    go_wp2_with fail
                    go_roundw
                    case rel => exact ⟨k + 1, by omega, by go_num, by rw [HS.out, HA.out], HB.out, ((inv.alloc _).drewN _).set HV.out⟩
                    case measure => simp [intOf]; omega
              · have ht' : ((I.T j).toList == (I.CT k).toList) = false := by simpa using ht
                have H : Hid (I.code = 1) := Inp.code_bad hm0 HD.out (Inp.bad_hit hbad (c := 1) (by simp [Inp.chk, hat, ht']) (by omega) hlt) (by omega)
                clear hat hbad ht
                go_wp2_with fail
                go_quiet (fail)
                go_wp2_with fail
                go_quiet (fail)
                go_wp2_with fail
                go_quiet (fail)
                go_wp2
                go_ret2
                exact Picked.bad H.out (by omega) (Below.drewN (Below.drewN (Below.drewN (inv.below.alloc hz _) _) _) _)
          · obtain rfl : k = I.m := by omega
            by_cases hbig : 5497558138880 < I.sum I.m
            · have H : Hid (I.code = 4) := Inp.code_big hm0 HD.out hbad hbig
              clear hbad
              go_wp2_with fail
              go_quiet (fail)
              go_wp2
              go_ret2
              exact Picked.bad H.out (by omega) (Below.drewN inv.below _)
            · have H : Hid (I.code = 0) := Inp.code_fine hm0 HD.out hbad hbig
              have hbg : decide (5497558138880 < I.sum I.m) = false := by simpa using hbig
              clear hbad hbig
              go_wp2_with fail
              go_ret2
              obtain ⟨f, hf, hv⟩ := inv.row
              refine ⟨_, ?_, inv.below, fun h => absurd H.out h, fun _ => ⟨wo.heap.size, rfl, fun j hj => ?_⟩⟩
              · rw [H.out]; rfl
              · rw [hf.cell hj, hv j hj]
end Go.Proofs.YbulkdcngDoor
