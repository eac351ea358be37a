/-
  The walks of math/bits.OnesCount64, count and common; LawS5194BCommon.
-/
import Derived.Test.YbulkdcnuSets
import Derived.Test.YbulkdcnuOnes
namespace Go.Proofs.Ybulkdcnu
open Go.RowKit
set_option linter.unusedVariables false

set_option maxRecDepth 4000 in
set_option maxHeartbeats 400000 in
theorem ones_any (x : Int) (h0 : 0 ≤ x) (h1 : x ≤ 18446744073709551615) (w : World) :
    Calls Yba.prog 20 #[.int .u64 x] w fun e w' => e = .returned (.int .i64 (ones x)) ∧ w = w' := by
  go_enter Yba.func20, Yba.ntmps20
  go_wp2
  go_ret
  exact ⟨rfl, rfl⟩

/-- The bits of the first k words. -/
def cntTo (X : Nat → Int) : Nat → Int
  | 0 => 0
  | k + 1 => cntTo X k + ones (X k)
theorem cntTo_bd (X : Nat → Int) : ∀ k : Nat, 0 ≤ cntTo X k ∧ cntTo X k ≤ 127 * (k : Int)
  | 0 => by simp [cntTo]
  | k + 1 => by
    have a := cntTo_bd X k
    have b := ones_bd (X k)
    rw [cntTo]
    omega
theorem cntTo_mono (X : Nat → Int) {i : Nat} : ∀ {k : Nat}, i ≤ k → cntTo X i ≤ cntTo X k
  | 0, h => by obtain rfl : i = 0 := by omega
               exact Int.le_refl _
  | k + 1, h => by
    by_cases e : i = k + 1
    · subst e; exact Int.le_refl _
    · have a := cntTo_mono X (i := i) (k := k) (by omega)
      have b := ones_bd (X k)
      rw [cntTo]
      omega
theorem cntTo_pos (X : Nat → Int) {l i : Nat} (h : i < l) (hx : 0 ≤ X i) (hx' : X i ≤ 18446744073709551615) (hne : X i ≠ 0) : 0 < cntTo X l := by
  have a := cntTo_mono X (i := i + 1) (k := l) h
  have b := cntTo_bd X i
  have c := ones_bd (X i)
  have d : ones (X i) ≠ 0 := fun e => hne (ones_zero _ hx hx' e)
  rw [cntTo] at a
  omega

set_option maxRecDepth 4000 in
set_option maxHeartbeats 400000 in
theorem count_any (B : Nat) (a : Option Addr) (l ca : Nat) (X : Nat → Int) (w : World) (hl : l ≤ 1024) (hX : SetIs B w a l X) (bX : ∀ i, 0 ≤ X i ∧ X i ≤ 18446744073709551615) :
    Calls Yba.prog 11 #[.slice a l ca] w fun e w' => e = .returned (.int .i64 (cntTo X l)) ∧ w = w' := by
  go_enter Yba.func11, Yba.ntmps11
  go_wp2
  go_loop [3, 8] (fun s p => ∃ k : Nat, k ≤ l ∧ p = .int .i64 k ∧ s = .int .i64 (cntTo X k)) (fun _ p => l - (intOf p).toNat)
  case atStart => exact ⟨0, Nat.zero_le _, rfl, rfl⟩
  case round =>
    obtain ⟨k, hk, rfl, rfl⟩ := hrel
    have hc := cntTo_bd X k
    by_cases hlt : k < l
    · obtain ⟨b, off, rfl, _, c0⟩ := hX k hlt
      have bx := bX k
      have hb := ones_bd (X k)
      have H : Hid (cntTo X (k + 1) = cntTo X k + ones (X k)) := rfl
      have hf := ones_any (X k) bx.1 bx.2 w
      have HF : Hid _ := hf
      clear hf hX bX
      go_wp2_with (go_at_call 20; refine (Calls.mono HF.out ?_); rintro e w' ⟨rfl, rfl⟩)
      go_round
      case rel => exact ⟨k + 1, by omega, by go_num, by rw [H.out]⟩
      case measure => simp [intOf]; omega
    · obtain rfl : k = l := by omega
      go_wp2
      go_ret
      exact ⟨rfl, rfl⟩

/-- The words in common of the first k, up to the last that is not nought. -/
def comm (X Y : Nat → Int) : Nat → List Int
  | 0 => []
  | k + 1 => if (bits .and .u64 (X k) (Y k) != 0) = true then comm X Y k ++ List.replicate (k - (comm X Y k).length) 0 ++ [bits .and .u64 (X k) (Y k)] else comm X Y k
theorem comm_len (X Y : Nat → Int) : ∀ k, (comm X Y k).length ≤ k
  | 0 => by simp [comm]
  | k + 1 => by
    have := comm_len X Y k
    rw [comm]
    split
    · simp; omega
    · omega
theorem comm_hit {X Y : Nat → Int} {k : Nat} (h : (bits .and .u64 (X k) (Y k) != 0) = true) : comm X Y (k + 1) = comm X Y k ++ List.replicate (k - (comm X Y k).length) 0 ++ [bits .and .u64 (X k) (Y k)] := by rw [comm, if_pos h]
theorem comm_miss {X Y : Nat → Int} {k : Nat} (h : (bits .and .u64 (X k) (Y k) != 0) = false) : comm X Y (k + 1) = comm X Y k := by rw [comm, if_neg (by rw [h]; simp)]
theorem comm_meets (X Y : Nat → Int) : ∀ k, (meetsTo X Y k = true ↔ (comm X Y k).length ≠ 0)
  | 0 => by simp [comm, meetsTo]
  | k + 1 => by
    have ih := comm_meets X Y k
    rw [meetsTo]
    cases h : (bits BinOp.and .u64 (X k) (Y k) != 0) with
    | true => rw [comm_hit h]; simp
    | false => rw [comm_miss h]; simpa using ih
theorem comm_last (X Y : Nat → Int) : ∀ k, (comm X Y k).length ≠ 0 → ∃ i, i < (comm X Y k).length ∧ (comm X Y k).getD i 0 ≠ 0
  | 0, h => by simp [comm] at h
  | k + 1, h => by
    cases hb : (bits BinOp.and .u64 (X k) (Y k) != 0) with
    | true =>
      rw [comm_hit hb]
      have hne : bits BinOp.and .u64 (X k) (Y k) ≠ 0 := by simpa using hb
      refine ⟨(comm X Y k ++ List.replicate (k - (comm X Y k).length) 0).length, by simp, ?_⟩
      rw [List.getD_eq_getElem?_getD, List.getElem?_append_right (Nat.le_refl _)]
      simpa using hne
    | false =>
      rw [comm_miss hb] at h ⊢
      exact comm_last X Y k h
theorem comm_bd {X Y : Nat → Int} (bX : ∀ i, 0 ≤ X i ∧ X i ≤ 18446744073709551615) (bY : ∀ i, 0 ≤ Y i ∧ Y i ≤ 18446744073709551615) : ∀ k, ∀ z ∈ comm X Y k, 0 ≤ z ∧ z ≤ 18446744073709551615
  | 0, z, h => by simp [comm] at h
  | k + 1, z, h => by
    cases hb : (bits BinOp.and .u64 (X k) (Y k) != 0) with
    | true =>
      rw [comm_hit hb] at h
      simp only [List.mem_append, List.mem_replicate, List.mem_singleton] at h
      rcases h with (h | h) | h
      · exact comm_bd bX bY k z h
      · rw [h.2]; omega
      · have x := bX k
        have y := bY k
        rw [h, u64_and _ _ x.1 (by omega) y.1 (by omega)]
        have : (X k).toNat &&& (Y k).toNat ≤ (X k).toNat := Nat.and_le_left
        omega
    | false =>
      rw [comm_miss hb] at h
      exact comm_bd bX bY k z h
theorem set_last {L : List Int} {k : Nat} (h : L.length ≤ k) (v : Int) : (L ++ List.replicate (k + 1 - L.length) 0).set k v = L ++ List.replicate (k - L.length) 0 ++ [v] := by
  have e : k + 1 - L.length = (k - L.length) + 1 := by omega
  rw [e, List.replicate_succ', ← List.append_assoc]
  have hl : (L ++ List.replicate (k - L.length) 0).length = k := by simp; omega
  rw [List.set_append_right _ _ (by omega), hl]
  simp

theorem info26 : (Yba.prog.info? 26).map (fun i => (i.zero, i.size, i.bytes)) = some (some (.int .u64 0), 1, 8) := by kernel_rfl
def lenOf : Value → Nat | .slice _ n _ => n | _ => 0
/-- The shape of a slice that the call owns. -/
theorem owns_shape {w : World} {base : Nat} {e : TypeId} {v : Value} {n : Nat} {xs : List Value} (h : w.ownsRow base e 1 v n xs) : ∃ ao cap, v = .slice ao n cap ∧ (0 < n → ∃ g, ao = some ⟨g, 0, none⟩ ∧ base ≤ g ∧ g < w.heap.size) := by
  have hlt := h.lt
  obtain ⟨_, h2 | ⟨g, cap, cur, hv, hg, hh, _⟩⟩ := h
  · obtain ⟨rfl, rfl⟩ := h2
    exact ⟨none, 0, rfl, fun h => absurd h (Nat.lt_irrefl _)⟩
  · refine ⟨_, cap, hv, fun _ => ⟨g, rfl, hg, ?_⟩⟩
    exact (hlt g (by rw [hv]; rfl)).2

set_option maxRecDepth 8000 in
set_option maxHeartbeats 1000000 in
theorem common_any (B : Nat) (a b : Option Addr) (la lb ca cb : Nat) (X Y : Nat → Int) (w : World) (hB : B ≤ w.heap.size) (hla : la ≤ 1024) (hlb : lb ≤ 1024) (hX : SetIs B w a la X) (hY : SetIs B w b lb Y) :
    Calls Yba.prog 10 #[.slice a la ca, .slice b lb cb] w fun e w' => ∃ ao cap, e = .returned (.slice ao (comm X Y (min la lb)).length cap) ∧ w'.ownsRow w.heap.size 26 1 (.slice ao (comm X Y (min la lb)).length cap) (comm X Y (min la lb)).length ((comm X Y (min la lb)).map (Value.int .u64)) ∧ Below w.heap.size w w' := by
  have KEY : Hid (∀ {k : Nat} {wr : World}, k < min la lb → Below w.heap.size w wr → ∃ b0 o0 b1 o1, a = some ⟨b0, o0, none⟩ ∧ b = some ⟨b1, o1, none⟩ ∧ wr.cell? ⟨b0, o0 + k, none⟩ = some (.int .u64 (X k)) ∧ wr.cell? ⟨b1, o1 + k, none⟩ = some (.int .u64 (Y k))) := fun {k wr} hk hb => by
    obtain ⟨b0, o0, e0, _, c0⟩ := hX.later hb hB k (by omega)
    obtain ⟨b1, o1, e1, _, c1⟩ := hY.later hb hB k (by omega)
    exact ⟨b0, o0, b1, o1, e0, e1, c0, c1⟩
  obtain ⟨i0, hi, hz0, hz1, hz2⟩ := info_parts info26
  clear hX hY hB
  by_cases h : lb < la
  all_goals
    go_enter Yba.func10, Yba.ntmps10
    go_wp2
    go_loopw [5, 13] (fun v p wr => ∃ k : Nat, k ≤ min la lb ∧ p = .int .i64 k ∧ (∃ ao cap, v = .slice ao (comm X Y k).length cap) ∧ wr.ownsRow w.heap.size 26 1 v (comm X Y k).length ((comm X Y k).map (Value.int .u64)) ∧ Below w.heap.size w wr) (fun _ p _ => min la lb - (intOf p).toNat)
    case atStart => exact ⟨0, Nat.zero_le _, rfl, ⟨none, 0, rfl⟩, World.ownsRow_nil _ _ _ _, Below.refl _ _⟩
    case round =>
      obtain ⟨k, hk, rfl, ⟨ao, cap, rfl⟩, hown, bel⟩ := hrel
      have hlen := comm_len X Y k
      by_cases hlt : k < min la lb
      · obtain ⟨b0, o0, b1, o1, rfl, rfl, c0, c1⟩ := KEY.out hlt bel
        have hk1 : k < la := by omega
        have hk2 : k < lb := by omega
        by_cases hm : (bits BinOp.and .u64 (X k) (Y k) != 0) = true
        · have H : Hid (comm X Y (k + 1) = comm X Y k ++ List.replicate (k - (comm X Y k).length) 0 ++ [bits .and .u64 (X k) (Y k)]) := comm_hit hm
          clear KEY
          obtain ⟨wo, rfl⟩ : ∃ wo : World, wo = wr := ⟨_, rfl⟩
          go_wp2_with fail
          go_quiet (fail)
          go_wp2_with fail
          go_loopw [5] (fun v wr => ∃ q : Nat, (comm X Y k).length ≤ q ∧ q ≤ k + 1 ∧ (∃ ao cap, v = .slice ao q cap) ∧ wr.ownsRow w.heap.size 26 1 v q ((comm X Y k ++ List.replicate (q - (comm X Y k).length) 0).map (Value.int .u64)) ∧ Below w.heap.size w wr) (fun v _ => k + 1 - lenOf v)
          case atStart => exact ⟨(comm X Y k).length, Nat.le_refl _, by omega, ⟨ao, cap, rfl⟩, by simpa using (show (wo.drewN nq).ownsRow w.heap.size 26 1 (.slice ao (comm X Y k).length cap) (comm X Y k).length ((comm X Y k).map (Value.int .u64)) from hown), Below.drewN bel nq⟩
          case round =>
            obtain ⟨q, hq1, hq2, ⟨ao2, cap2, rfl⟩, hown2, bel2⟩ := hrel
            have hsz := bel2.size
            by_cases hqk : q ≤ k
            · clear hown c0 c1
              go_wp2_with (at_builtin; refine wpList_append_own _ rfl (.tmp 31) (.tmp 32) 34 rfl w.heap.size 26 i0 (.int .u64 0) 1 8 Yba.underlying34 hi hz0 hz1 hz2 rfl (by decide) _ _ _ rfl (hown2.alloc _) ⟨wr.heap.size, 0, none⟩ 1 1 [.int .u64 0] rfl rfl (cell_one_new _ _ _) (ints_oneCell .u64 [0]) (by unfold maxLen; omega) (by omega) (by simp; omega) ?_; intro v' w1 hown' hgrow _hn)
              have hsh := owns_shape hown'
              obtain ⟨ao3, cap3, hv3, _⟩ := hsh
              have bel3 : Below w.heap.size w w1 := (bel2.alloc hsz _).grown hgrow (by simp; omega) (fun j e => (hown2.lt j e).1)
              have hl3 : w1.ownsRow w.heap.size 26 1 v' (q + 1) ((comm X Y k ++ List.replicate (q + 1 - (comm X Y k).length) 0).map (Value.int .u64)) := by
                have e : q + 1 - (comm X Y k).length = (q - (comm X Y k).length) + 1 := by omega
                rw [e, List.replicate_succ', ← List.append_assoc, List.map_append]
                exact hown'
              clear hown' hgrow hown2
              go_wp2_with fail
              go_roundw
              case rel => exact ⟨q + 1, by omega, by omega, ⟨ao3, cap3, hv3⟩, hl3, bel3⟩
              case measure => rw [hv3]; simp [lenOf]; omega
            · obtain rfl : q = k + 1 := by omega
              obtain ⟨ao4, cap4, hv4, hs4⟩ := owns_shape hown2
              obtain ⟨g, hg, hgb, hgl⟩ := hs4 (by omega)
              obtain ⟨rfl, rfl⟩ : ao2 = ao4 ∧ cap2 = cap4 := by simp at hv4; exact hv4
              subst hg
              have r0 := hown2.cellAt k (by omega)
              have r1 := hown2.frozenAt k
              have st := hown2.stored k (.int .u64 (bits .and .u64 (X k) (Y k)))
              have hset : ((comm X Y k ++ List.replicate (k + 1 - (comm X Y k).length) 0).map (Value.int .u64)).set k (.int .u64 (bits .and .u64 (X k) (Y k))) = (comm X Y (k + 1)).map (Value.int .u64) := by
                rw [H.out, ← set_last hlen, List.map_set]
              have hln : (comm X Y (k + 1)).length = k + 1 := by rw [H.out]; simp; omega
              have r2 : ∃ u, wr.cell? ⟨g, k, none⟩ = some u := by
                rw [r0]; exact ⟨_, List.getElem?_eq_getElem (by simp; omega)⟩
              obtain ⟨u, r3⟩ := r2
              have ST : Hid ((wr.setCell ⟨g, k, none⟩ (.int .u64 (bits .and .u64 (X k) (Y k)))).ownsRow w.heap.size 26 1 (.slice (some ⟨g, 0, none⟩) (k + 1) cap2) (comm X Y (k + 1)).length ((comm X Y (k + 1)).map (Value.int .u64))) := by
                unfold Hid; rw [hln, ← hset]; exact st.1
              have HL : Hid ((comm X Y (k + 1)).length = k + 1) := hln
              clear st hset hln r0 hown2 hown hv4
              go_wp2_with fail
              go_roundw
              case rel => exact ⟨k + 1, by omega, by go_num, ⟨some ⟨g, 0, none⟩, cap2, by rw [HL.out]⟩, ST.out, bel2.setCell hgb _⟩
              case measure => simp [intOf]; omega
        · have hm' : (bits BinOp.and .u64 (X k) (Y k) != 0) = false := by simpa using hm
          have H : Hid (comm X Y (k + 1) = comm X Y k) := comm_miss hm'
          clear KEY hm
          go_wp2_with fail
          go_quiet (fail)
          go_wp2_with fail
          go_roundw
          case rel => exact ⟨k + 1, by omega, by go_num, by rw [H.out]; exact ⟨ao, cap, rfl⟩, by rw [H.out]; exact hown, Below.drewN bel nq⟩
          case measure => simp [intOf]; omega
      · obtain rfl : k = min la lb := by omega
        first | (have hx : lb ≤ min la lb := by omega) | (have hx : la ≤ min la lb := by omega)
        clear KEY
        go_wp2
        go_ret
        exact ⟨ao, cap, rfl, hown, bel⟩

set_option maxRecDepth 4000 in
set_option maxHeartbeats 400000 in
theorem law_common (a b : Option Addr) (la lb ca cb : Nat) (X Y : Nat → Int) (w : World) (hla : la ≤ 9223372036854775807) (hlb : lb ≤ 9223372036854775807) (hX : SetIs w.heap.size w a la X) (hY : SetIs w.heap.size w b lb Y)
    (bX : ∀ i, 0 ≤ X i ∧ X i ≤ 18446744073709551615) (bY : ∀ i, 0 ≤ Y i ∧ Y i ≤ 18446744073709551615) :
    Calls Yba.prog 5 #[.slice a la ca, .slice b lb cb] w fun e w' => e = .returned (.bool true) ∧ Below w.heap.size w w' := by
  by_cases h1 : 1024 < la
  · have hd1 : decide (1024 < (la : Int)) = true := by simp; omega
    go_enter Yba.func5, Yba.ntmps5
    go_wp2
    go_ret
    exact ⟨rfl, Below.refl _ _⟩
  · have hd1 : decide (1024 < (la : Int)) = false := by simp; omega
    by_cases h2 : 1024 < lb
    · have hd2 : decide (1024 < (lb : Int)) = true := by simp; omega
      go_enter Yba.func5, Yba.ntmps5
      go_wp2
      go_ret
      exact ⟨rfl, Below.refl _ _⟩
    · have hd2 : decide (1024 < (lb : Int)) = false := by simp; omega
      have hcm := comm_meets X Y (min la lb)
      have hcl := comm_last X Y (min la lb)
      have hbd := comm_bd bX bY (min la lb)
      have hlen := comm_len X Y (min la lb)
      obtain ⟨C, hC⟩ : ∃ C, C = comm X Y (min la lb) := ⟨_, rfl⟩
      rw [← hC] at hcm hcl hbd hlen
      have bC : ∀ i, 0 ≤ C.getD i 0 ∧ C.getD i 0 ≤ 18446744073709551615 := fun i => by
        by_cases hi : i < C.length
        · exact hbd _ (by simp [List.getD, hi])
        · have h00 : C.getD i 0 = 0 := by simp [List.getD, Nat.not_lt.1 hi]
          rw [h00]; omega
      obtain ⟨F, hF⟩ : ∃ F : Nat → Int, F = fun i => C.getD i 0 := ⟨_, rfl⟩
      have hcb := cntTo_bd F C.length
      have hcp : C.length ≠ 0 → 0 < cntTo F C.length := fun hz => by
        obtain ⟨i, hi, hne⟩ := hcl hz
        rw [hF]
        exact cntTo_pos (fun i => C.getD i 0) hi (bC i).1 (bC i).2 hne
      have bF : ∀ i, 0 ≤ F i ∧ F i ≤ 18446744073709551615 := by rw [hF]; exact bC
      have HT : Hid (∀ (w1 w2 : World) (ao : Option Addr) (cap : Nat), Below w1.heap.size w1 w2 → w2.ownsRow w1.heap.size 26 1 (.slice ao C.length cap) C.length (C.map (Value.int .u64)) →
          Calls Yba.prog 11 #[.slice ao C.length cap] w2 fun e w' => e = .returned (.int .i64 (cntTo F C.length)) ∧ w2 = w') := fun w1 w2 ao cap _ hown => by
        refine count_any w2.heap.size ao C.length cap F w2 (by omega) (fun i hi => ?_) bF
        obtain ⟨ao', cap', hv, hs⟩ := owns_shape hown
        obtain ⟨g, rfl, _, hgl⟩ := hs (by omega)
        simp at hv
        obtain ⟨rfl, rfl⟩ := hv
        refine ⟨g, 0, rfl, hgl, ?_⟩
        rw [Nat.zero_add, hown.cellAt i (by omega), hF]
        simp [hi]
      have HC : Hid (C = comm X Y (min la lb)) := hC
      obtain ⟨n, hn⟩ : ∃ n, C.length = n := ⟨_, rfl⟩
      rw [hn] at hcp hcb HT
      have HN : Hid (C.length = n) := hn
      have HCM : Hid (meetsTo X Y (min la lb) = true ↔ n ≠ 0) := by unfold Hid; rw [← hn]; exact hcm
      have hn1 : n ≤ 1024 := by omega
      obtain ⟨c, hc⟩ : ∃ c, cntTo F n = c := ⟨_, rfl⟩
      rw [hc] at hcp hcb HT
      clear hn hC hcm hcl hbd hc bF hF bC hlen
      by_cases hz : n = 0
      · subst hz
        have HM : Hid (meetsTo X Y (min la lb) = false) := by
          unfold Hid
          rw [← Bool.not_eq_true, HCM.out]; simp
        have hc0 : c = 0 := by omega
        subst hc0
        clear hcp hcb HCM
        go_enter Yba.func5, Yba.ntmps5
        go_wp2_with fail
        refine (meets_any w.heap.size a b la lb ca cb X Y _ (Nat.le_refl _) (by omega) (by omega) hX hY).mono ?_
        rintro e w1 ⟨rfl, bel⟩
        rw [HM.out]
        go_wp2_with fail
        refine (common_any w.heap.size a b la lb ca cb X Y _ bel.size (by omega) (by omega) (hX.later bel (Nat.le_refl _)) (hY.later bel (Nat.le_refl _))).mono ?_
        rintro e w2 ⟨ao, cap, rfl, hown, bel2⟩
        rw [← HC.out, HN.out] at hown ⊢
        have hbelow : Below w.heap.size w w2 := bel.trans (bel2.mono bel.size)
        have hct := HT.out w1 w2 ao cap bel2 hown
        have HCT : Hid _ := hct
        clear hown bel2 hX hY bX bY hct
        go_wp2_with fail
        refine (Calls.mono HCT.out ?_)
        rintro e w3 ⟨rfl, rfl⟩
        go_wp2_with fail
        go_ret
        exact ⟨rfl, hbelow⟩
      · have HM : Hid (meetsTo X Y (min la lb) = true) := HCM.out.2 hz
        have hc0 : 0 < c := hcp hz
        have hnz : ((n : Int) == 0) = false := by simp; omega
        have hnz2 : ((n : Int) != 0) = true := by simp; omega
        have hcz : decide (0 < c) = true := by simpa using hc0
        clear hcp HCM
        go_enter Yba.func5, Yba.ntmps5
        go_wp2_with fail
        refine (meets_any w.heap.size a b la lb ca cb X Y _ (Nat.le_refl _) (by omega) (by omega) hX hY).mono ?_
        rintro e w1 ⟨rfl, bel⟩
        rw [HM.out]
        go_wp2_with fail
        refine (common_any w.heap.size a b la lb ca cb X Y _ bel.size (by omega) (by omega) (hX.later bel (Nat.le_refl _)) (hY.later bel (Nat.le_refl _))).mono ?_
        rintro e w2 ⟨ao, cap, rfl, hown, bel2⟩
        rw [← HC.out, HN.out] at hown ⊢
        have hbelow : Below w.heap.size w w2 := bel.trans (bel2.mono bel.size)
        have hct := HT.out w1 w2 ao cap bel2 hown
        have HCT : Hid _ := hct
        clear hown bel2 hX hY bX bY hct
        go_wp2_with fail
        refine (Calls.mono HCT.out ?_)
        rintro e w3 ⟨rfl, rfl⟩
        go_wp2_with fail
        go_ret
        exact ⟨rfl, hbelow⟩
end Go.Proofs.Ybulkdcnu
