/-
  The walks of zzs5193afind and zzs5193amodel.
-/
import Derived.Test.YbulkdcngDoorRows
import Derived.Test.YbulkdcngDoorPlain
import Derived.WalkKit
import Derived.WalkSpells
import Derived.WalkLawsBesides
import Derived.Deep.QuietTactic
import Derived.BigQuiet
namespace Go.Proofs.YbulkdcngDoor
open Go.RowKit
set_option linter.unusedVariables false

/-- The parts as they came in: three cells each. -/
def PartsAre (B : Nat) (w : World) (ar : Option Addr) (I : Inp) : Prop :=
  ∀ i, i < I.n → ∃ b off, ar = some ⟨b, off, none⟩ ∧ b < B ∧ w.cell? ⟨b, off + i * 3, none⟩ = some (.int .i64 (I.N i)) ∧ w.cell? ⟨b, off + i * 3 + 1, none⟩ = some (.string (I.T i)) ∧ w.cell? ⟨b, off + i * 3 + 2, none⟩ = some (.int .i32 (I.S i))
theorem PartsAre.later {B K : Nat} {w w' : World} {ar : Option Addr} {I : Inp} (h : PartsAre B w ar I) (hb : Below K w w') (hK : B ≤ K) : PartsAre B w' ar I := fun i hi => by
  obtain ⟨b, off, e, hl, c0, c1, c2⟩ := h i hi
  have c : ∀ o, w'.cell? ⟨b, o, none⟩ = w.cell? ⟨b, o, none⟩ := fun o => hb.cell (p := ⟨b, o, none⟩) (by show b < K; omega)
  exact ⟨b, off, e, hl, by rw [c]; exact c0, by rw [c]; exact c1, by rw [c]; exact c2⟩

set_option maxRecDepth 4000 in
set_option maxHeartbeats 400000 in
theorem find_any (B : Nat) (ar : Option Addr) (cr : Nat) (I : Inp) (ok : I.Ok) (x : Int) (w : World) (hP : PartsAre B w ar I) :
    Calls Ybad.prog 5 #[.slice ar I.n cr, .int .i64 x] w fun e w' => e = .returned (.int .i64 (idx (findL I.N I.n x))) ∧ w = w' := by
  have hn := ok.hn
  go_enter Ybad.func5, Ybad.ntmps5
  go_wp2
  go_loop [5, 6] (fun j p => ∃ k : Nat, k ≤ I.n ∧ p = .int .i64 k ∧ j = .int .i64 (idx (findL I.N k x))) (fun _ p => I.n - (intOf p).toNat)
  case atStart => exact ⟨0, Nat.zero_le _, rfl, rfl⟩
  case round =>
    obtain ⟨k, hk, rfl, rfl⟩ := hrel
    by_cases hlt : k < I.n
    · obtain ⟨b, off, rfl, _, c0, _, _⟩ := hP k hlt
      clear hP
      by_cases e : I.N k = x
      · have hb : (I.N k == x) = true := by simpa using e
        have H : Hid (findL I.N (k + 1) x = some k) := findL_hit e
        clear e
        go_wp2
        go_round
        case rel => exact ⟨k + 1, by omega, by go_num, by rw [H.out]; rfl⟩
        case measure => simp [intOf]; omega
      · have hb : (I.N k == x) = false := by simpa using e
        have H : Hid (findL I.N (k + 1) x = findL I.N k x) := findL_miss e
        clear e
        go_wp2
        go_round
        case rel => exact ⟨k + 1, by omega, by go_num, by rw [H.out]⟩
        case measure => simp [intOf]; omega
    · obtain rfl : k = I.n := by omega
      go_wp2
      go_ret
      exact ⟨rfl, rfl⟩

/-- The list as the law has built it: two cells each, at block C. -/
def ClAre (w : World) (C : Nat) (I : Inp) : Prop :=
  ∀ i, i < I.m → w.cell? ⟨C, i * 2, none⟩ = some (.int .i64 (I.LN i)) ∧ w.cell? ⟨C, i * 2 + 1, none⟩ = some (.string (I.CT i))
theorem ClAre.later {C K : Nat} {w w' : World} {I : Inp} (h : ClAre w C I) (hb : Below K w w') (hK : C < K) : ClAre w' C I := fun i hi => by
  obtain ⟨c0, c1⟩ := h i hi
  have c : ∀ o, w'.cell? ⟨C, o, none⟩ = w.cell? ⟨C, o, none⟩ := fun o => hb.cell (p := ⟨C, o, none⟩) hK
  exact ⟨by rw [c]; exact c0, by rw [c]; exact c1⟩
/-- The four sentinels. -/
def ErrsAre (w : World) (te : TypeId) (ea : Nat → Addr) : Prop := ∀ c, 1 ≤ c → c ≤ 4 → w.cell? ⟨c, 0, none⟩ = some (.iface te (.pointer (some (ea c))))
theorem ErrsAre.later {K : Nat} {w w' : World} {te : TypeId} {ea : Nat → Addr} (h : ErrsAre w te ea) (hb : Below K w w') (hK : 4 < K) : ErrsAre w' te ea := fun c h1 h2 => by
  rw [hb.cell (p := ⟨c, 0, none⟩) (by show c < K; omega)]; exact h c h1 h2
def errV (te : TypeId) (ea : Nat → Addr) (c : Nat) : Value := if c = 0 then .nilIface else .iface te (.pointer (some (ea c)))
theorem Below.drewN {B : Nat} {a w : World} (h : Below B a w) (n : Nat) : Below B a (w.drewN n) := ⟨h.os, h.tape, h.output, h.size, h.block⟩

set_option maxRecDepth 8000 in
set_option maxHeartbeats 800000 in
theorem model_any (B C : Nat) (ar : Option Addr) (cr : Nat) (I : Inp) (ok : I.Ok) (te : TypeId) (ea : Nat → Addr) (w : World) (hB : B ≤ w.heap.size) (hC : C < w.heap.size) (h4 : 4 < w.heap.size) (hP : PartsAre B w ar I) (hL : ClAre w C I) (hG : ErrsAre w te ea) :
    Calls Ybad.prog 7 #[.slice ar I.n cr, .slice (some ⟨C, 0, none⟩) I.m I.m] w fun e w' => e = .returned (errV te ea I.code) ∧ Below w.heap.size w w' := by
  have hn := ok.hn
  have hm := ok.hm
  have g1 := hG 1 (by omega) (by omega)
  by_cases hm0 : I.m = 0
  · have H : Hid (errV te ea I.code = .iface te (.pointer (some (ea 1)))) := by unfold Hid; rw [Inp.code_empty hm0]; rfl
    have hb0 : ((I.m : Int) == 0) = true := by simp; omega
    clear hm0
    go_enter Ybad.func7, Ybad.ntmps7
    go_wp2
    go_ret
    exact ⟨by rw [H.out]; rfl, Below.refl _ _⟩
  · have hb0 : ((I.m : Int) == 0) = false := by simp; omega
    go_enter Ybad.func7, Ybad.ntmps7
    go_wp2
    go_loopw [5] (fun p wr => ∃ k : Nat, k + 1 ≤ I.m ∧ p = .int .i64 k ∧ I.down k = false ∧ Below w.heap.size w wr) (fun p _ => I.m - (intOf p).toNat)
    case atStart => exact ⟨0, by omega, rfl, rfl, Below.refl _ _⟩
    case round =>
      obtain ⟨k, hk, rfl, hdn, bel⟩ := hrel
      have hLr := hL.later bel hC
      by_cases hlt : k + 1 < I.m
      · obtain ⟨c0, _⟩ := hLr k (by omega)
        obtain ⟨d0, _⟩ := hLr (k + 1) hlt
        have g2 : wr.cell? ⟨2, 0, none⟩ = _ := (hG.later bel h4) 2 (by omega) (by omega)
        by_cases hup : I.LN k < I.LN (k + 1)
        · have H : Hid (I.down (k + 1) = false) := Inp.down_go hdn hup
          clear hdn hLr
          go_wp2_with fail
          go_quiet (fail)
          go_wp2
          go_roundw
          case rel => exact ⟨k + 1, by omega, by go_num, H.out, Below.drewN bel nq⟩
          case measure => simp [intOf]; omega
        · have H : Hid (errV te ea I.code = .iface te (.pointer (some (ea 2)))) := by unfold Hid; rw [Inp.code_down hm0 (Inp.down_hit hup hlt)]; rfl
          have hdu : decide (I.LN k < I.LN (k + 1)) = false := by simpa using hup
          clear hdn hLr hup
          go_wp2_with fail
          go_quiet (fail)
          go_wp2
          go_ret
          exact ⟨by rw [H.out]; rfl, Below.drewN bel nq⟩
      · have hkm : k = I.m - 1 := by omega
        have HD : Hid (I.down (I.m - 1) = false) := hkm ▸ hdn
        have hdc : decide ((k : Int) + 1 < (I.m : Int)) = false := by simp; omega
        clear hkm hdn hLr
        obtain ⟨wo, rfl⟩ : ∃ wo : World, wo = wr := ⟨_, rfl⟩
        go_wp2
        go_loopw [6, 7] (fun s p wr => ∃ k : Nat, k ≤ I.m ∧ p = .int .i64 k ∧ s = .int .i64 (I.sum k) ∧ I.bad k = 0 ∧ Below w.heap.size w wr) (fun _ p _ => I.m - (intOf p).toNat)
        case atStart => exact ⟨0, Nat.zero_le _, rfl, rfl, rfl, bel⟩
        case round =>
          obtain ⟨k, hk, rfl, rfl, hbad, bel⟩ := hrel
          have hsum := Inp.sum_small ok hk
          have hGr := hG.later bel h4
          have g1 := hGr 1 (by omega) (by omega)
          have g3 := hGr 3 (by omega) (by omega)
          have g4 := hGr 4 (by omega) (by omega)
          by_cases hlt : k < I.m
          · obtain ⟨c0, c1⟩ := hL.later bel hC k hlt
            have hPr := hP.later bel hB
            have hf := find_any B ar cr I ok (I.LN k) wr hPr
            have HF : Hid _ := hf
            clear hf
            have hadd := Inp.add_bd ok k
            cases hat : I.at k with
            | none =>
              have hat' : findL I.N I.n (I.LN k) = none := hat
              have hi0 : idx none = -1 := rfl
              have H : Hid (errV te ea I.code = .iface te (.pointer (some (ea 1)))) := by
                unfold Hid
                rw [Inp.code_bad hm0 HD.out (Inp.bad_hit hbad (c := 1) (by simp [Inp.chk, hat]) (by omega) hlt) (by omega)]; rfl
              clear hat hbad
              go_wp2_with (go_at_call 5; refine (Calls.mono HF.out ?_); rintro e w' ⟨rfl, rfl⟩; rw [hat'])
              go_quiet (fail)
              go_wp2
              go_ret
              exact ⟨by rw [H.out]; rfl, Below.drewN bel nq⟩
            | some j =>
              have hat' : findL I.N I.n (I.LN k) = some j := hat
              have hj := Inp.at_lt hat
              have hi0 : idx (some j) = j := rfl
              obtain ⟨b, off, rfl, _, p0, p1, p2⟩ := hPr j hj
              have hSj := ok.hS j
              have hd : decide ((j : Int) < 0) = false := by simp
              have HA : Hid (I.add k = I.S j * 1048576) := by unfold Hid; simp [Inp.add, hat]
              have HS : Hid (I.sum (k + 1) = I.sum k + I.add k) := rfl
              clear hPr hGr hadd
              by_cases ht : ((I.T j).toList == (I.CT k).toList) = true
              · by_cases hsm : k + 1 < I.m ∧ I.S j * 1048576 < 5242880
                · have H : Hid (errV te ea I.code = .iface te (.pointer (some (ea 3)))) := by
                    unfold Hid
                    rw [Inp.code_bad hm0 HD.out (Inp.bad_hit hbad (c := 3) (by simp [Inp.chk, hat, ht, hsm]) (by omega) hlt) (by omega)]; rfl
                  obtain ⟨hs1, hs2⟩ := hsm
                  have hne : ((k : Int) == (I.m : Int) - 1) = false := by simp; omega
                  clear hat hbad
                  go_wp2_with (go_at_call 5; refine (Calls.mono HF.out ?_); rintro e w' ⟨rfl, rfl⟩)
                  go_quiet (fail)
                  go_wp2
                  go_ret
                  exact ⟨by rw [H.out]; rfl, Below.drewN bel nq⟩
                · have HB : Hid (I.bad (k + 1) = 0) := Inp.bad_go hbad (by simp [Inp.chk, hat, ht, hsm])
                  by_cases hs1 : k + 1 < I.m
                  · have hs2 : ¬ I.S j * 1048576 < 5242880 := fun e => hsm ⟨hs1, e⟩
                    have hs3 : decide (I.S j * 1048576 < 5242880) = false := by simpa using hs2
                    have hne : ((k : Int) == (I.m : Int) - 1) = false := by simp; omega
                    clear hat hbad hsm hs2
                    go_wp2_with (go_at_call 5; refine (Calls.mono HF.out ?_); rintro e w' ⟨rfl, rfl⟩)
                    go_quiet (fail)
                    go_wp2
                    go_roundw
                    case rel => exact ⟨k + 1, by omega, by go_num, by rw [HS.out, HA.out], HB.out, Below.drewN bel nq⟩
                    case measure => simp [intOf]; omega
                  · have hne : ((k : Int) == (I.m : Int) - 1) = true := by simp; omega
                    clear hat hbad hsm
                    go_wp2_with (go_at_call 5; refine (Calls.mono HF.out ?_); rintro e w' ⟨rfl, rfl⟩)
                    go_quiet (fail)
                    go_wp2
                    go_roundw
                    case rel => exact ⟨k + 1, by omega, by go_num, by rw [HS.out, HA.out], HB.out, Below.drewN bel nq⟩
                    case measure => simp [intOf]; omega
              · have ht' : ((I.T j).toList == (I.CT k).toList) = false := by simpa using ht
                have H : Hid (errV te ea I.code = .iface te (.pointer (some (ea 1)))) := by
                  unfold Hid
                  rw [Inp.code_bad hm0 HD.out (Inp.bad_hit hbad (c := 1) (by simp [Inp.chk, hat, ht']) (by omega) hlt) (by omega)]; rfl
                clear hat hbad ht
                go_wp2_with (go_at_call 5; refine (Calls.mono HF.out ?_); rintro e w' ⟨rfl, rfl⟩)
                go_quiet (fail)
                go_wp2
                go_ret
                exact ⟨by rw [H.out]; rfl, Below.drewN bel nq⟩
          · obtain rfl : k = I.m := by omega
            by_cases hbig : 5497558138880 < I.sum I.m
            · have H : Hid (errV te ea I.code = .iface te (.pointer (some (ea 4)))) := by
                unfold Hid
                rw [Inp.code_big hm0 HD.out hbad hbig]; rfl
              clear hbad
              go_wp2
              go_ret
              exact ⟨by rw [H.out]; rfl, bel⟩
            · have H : Hid (errV te ea I.code = .nilIface) := by
                unfold Hid
                rw [Inp.code_fine hm0 HD.out hbad hbig]; rfl
              clear hbad
              go_wp2
              go_ret
              exact ⟨by rw [H.out]; rfl, bel⟩
end Go.Proofs.YbulkdcngDoor
