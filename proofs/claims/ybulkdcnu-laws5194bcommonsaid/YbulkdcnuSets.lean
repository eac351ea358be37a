/-
  Sets of words: meets and zzs5194bmodel walked; that the two say the same.
-/
import Derived.Test.YbulkdcnuRows
import Derived.WalkKit
import Derived.WalkSpells
import Derived.WalkLawsBesides
import Derived.Laws.BitsAllLaws
import Derived.Deep.QuietTactic
import Derived.BigQuiet
import Derived.OpenShut
namespace Go.Proofs.Ybulkdcnu
open Go.RowKit
set_option linter.unusedVariables false

/-- Bit q of the word x, as the Go text asks it. -/
def bitOf (x : Int) (q : Nat) : Bool := bits .and .u64 (x / 2 ^ q) 1 == 1
def bothTo (x y : Int) : Nat → Bool
  | 0 => false
  | q + 1 => bothTo x y q || (bitOf x q && bitOf y q)
theorem bitOf_test (x : Int) (q : Nat) (h0 : 0 ≤ x) (h1 : x ≤ 18446744073709551615) : bitOf x q = x.toNat.testBit q := by
  obtain ⟨n, rfl⟩ : ∃ n : Nat, x = n := ⟨x.toNat, by omega⟩
  have e : ((n : Int) / 2 ^ q) = ((n / 2 ^ q : Nat) : Int) := by
    rw [Int.natCast_ediv, Int.natCast_pow]; rfl
  have hl : n / 2 ^ q < 18446744073709551616 := Nat.lt_of_le_of_lt (Nat.div_le_self _ _) (by omega)
  unfold bitOf
  rw [e, show (1 : Int) = ((1 : Nat) : Int) from rfl, u64_and_nat _ _ hl (by omega), nat_mask1, Nat.testBit_eq_decide_div_mod_eq, Int.toNat_natCast]
  rw [Bool.eq_iff_iff]; simp; omega
theorem bothTo_iff (x y : Int) (hx : 0 ≤ x) (hx' : x ≤ 18446744073709551615) (hy : 0 ≤ y) (hy' : y ≤ 18446744073709551615) : ∀ n : Nat, bothTo x y n = true ↔ ∃ q, q < n ∧ (x.toNat &&& y.toNat).testBit q = true
  | 0 => by simp [bothTo]
  | n + 1 => by
    rw [bothTo, Bool.or_eq_true, bothTo_iff x y hx hx' hy hy' n, bitOf_test x n hx hx', bitOf_test y n hy hy', ← Nat.testBit_and]
    constructor
    · rintro (⟨q, h1, h2⟩ | h)
      · exact ⟨q, by omega, h2⟩
      · exact ⟨n, by omega, h⟩
    · rintro ⟨q, h1, h2⟩
      by_cases e : q = n
      · subst e; exact Or.inr h2
      · exact Or.inl ⟨q, by omega, h2⟩
theorem both64 (x y : Int) (hx : 0 ≤ x) (hx' : x ≤ 18446744073709551615) (hy : 0 ≤ y) (hy' : y ≤ 18446744073709551615) : bothTo x y 64 = (bits .and .u64 x y != 0) := by
  rw [u64_and x y hx (by omega) hy (by omega), Bool.eq_iff_iff, bothTo_iff x y hx hx' hy hy']
  have e : ((((x.toNat &&& y.toNat : Nat) : Int) != 0) = true) ↔ (x.toNat &&& y.toNat) ≠ 0 := by simp
  rw [e]
  constructor
  · rintro ⟨q, _, h⟩ h0
    rw [h0] at h; simp at h
  · intro h
    obtain ⟨q, hq⟩ := Nat.exists_testBit_of_ne_zero h
    refine ⟨q, ?_, hq⟩
    apply Nat.lt_of_not_le
    intro h64
    rw [Nat.testBit_and, Bool.and_eq_true] at hq
    have : x.toNat.testBit q = false := Nat.testBit_lt_two_pow (Nat.lt_of_lt_of_le (show x.toNat < 2 ^ 64 by omega) (Nat.pow_le_pow_right (by omega) h64))
    rw [this] at hq
    simp at hq
/-- A set as it came in: l words. -/
def SetIs (B : Nat) (w : World) (a : Option Addr) (l : Nat) (A : Nat → Int) : Prop :=
  ∀ i, i < l → ∃ b off, a = some ⟨b, off, none⟩ ∧ b < B ∧ w.cell? ⟨b, off + i, none⟩ = some (.int .u64 (A i))
theorem SetIs.later {B K l : Nat} {w w' : World} {a : Option Addr} {A : Nat → Int} (h : SetIs B w a l A) (hb : Below K w w') (hK : B ≤ K) : SetIs B w' a l A := fun i hi => by
  obtain ⟨b, off, e, hl, c⟩ := h i hi
  exact ⟨b, off, e, hl, by rw [hb.cell (p := ⟨b, off + i, none⟩) (by show b < K; omega)]; exact c⟩
theorem Below.drewN {B : Nat} {a w : World} (h : Below B a w) (n : Nat) : Below B a (w.drewN n) := ⟨h.os, h.tape, h.output, h.size, h.block⟩

/-- Some of the first k words of both meet. -/
def meetsTo (A B : Nat → Int) : Nat → Bool
  | 0 => false
  | k + 1 => meetsTo A B k || (bits .and .u64 (A k) (B k) != 0)
theorem meetsTo_mono {A B : Nat → Int} {i : Nat} (h : meetsTo A B i = true) : ∀ {k : Nat}, i ≤ k → meetsTo A B k = true
  | 0, hk => by obtain rfl : i = 0 := by omega
                exact h
  | k + 1, hk => by
    by_cases e : i = k + 1
    · subst e; exact h
    · rw [meetsTo, meetsTo_mono h (k := k) (by omega)]; rfl

set_option maxRecDepth 4000 in
set_option maxHeartbeats 400000 in
theorem meets_any (B : Nat) (a b : Option Addr) (la lb ca cb : Nat) (X Y : Nat → Int) (w : World) (hB : B ≤ w.heap.size) (hla : la ≤ 1024) (hlb : lb ≤ 1024) (hX : SetIs B w a la X) (hY : SetIs B w b lb Y) :
    Calls Yba.prog 8 #[.slice a la ca, .slice b lb cb] w fun e w' => e = .returned (.bool (meetsTo X Y (min la lb))) ∧ Below w.heap.size w w' := by
  have key : ∀ {k : Nat} {wr : World}, k < min la lb → Below w.heap.size w wr → ∃ b0 o0 b1 o1, a = some ⟨b0, o0, none⟩ ∧ b = some ⟨b1, o1, none⟩ ∧ wr.cell? ⟨b0, o0 + k, none⟩ = some (.int .u64 (X k)) ∧ wr.cell? ⟨b1, o1 + k, none⟩ = some (.int .u64 (Y k)) := fun {k wr} hk hb => by
    obtain ⟨b0, o0, e0, _, c0⟩ := hX.later hb hB k (by omega)
    obtain ⟨b1, o1, e1, _, c1⟩ := hY.later hb hB k (by omega)
    exact ⟨b0, o0, b1, o1, e0, e1, c0, c1⟩
  have KEY : Hid (∀ {k : Nat} {wr : World}, k < min la lb → Below w.heap.size w wr → ∃ b0 o0 b1 o1, a = some ⟨b0, o0, none⟩ ∧ b = some ⟨b1, o1, none⟩ ∧ wr.cell? ⟨b0, o0 + k, none⟩ = some (.int .u64 (X k)) ∧ wr.cell? ⟨b1, o1 + k, none⟩ = some (.int .u64 (Y k))) := key
  clear key hX hY hB
  by_cases h : lb < la
  all_goals
    go_enter Yba.func8, Yba.ntmps8
    go_wp2
    go_loopw [11] (fun p wr => ∃ k : Nat, k ≤ min la lb ∧ p = .int .i64 k ∧ meetsTo X Y k = false ∧ Below w.heap.size w wr) (fun p _ => min la lb - (intOf p).toNat)
    case atStart => exact ⟨0, Nat.zero_le _, rfl, rfl, Below.refl _ _⟩
    case round =>
      obtain ⟨k, hk, rfl, hno, bel⟩ := hrel
      by_cases hlt : k < min la lb
      · obtain ⟨b0, o0, b1, o1, rfl, rfl, c0, c1⟩ := KEY.out hlt bel
        have hk1 : k < la := by omega
        have hk2 : k < lb := by omega
        by_cases hm : (bits BinOp.and .u64 (X k) (Y k) != 0) = true
        · have H : Hid (meetsTo X Y (min la lb) = true) := meetsTo_mono (i := k + 1) (by rw [meetsTo, hno, hm]; rfl) (by omega)
          clear hno KEY
          go_wp2_with fail
          go_quiet (fail)
          go_wp2
          go_ret
          exact ⟨by rw [H.out]; rfl, Below.drewN bel nq⟩
        · have hm' : (bits BinOp.and .u64 (X k) (Y k) != 0) = false := by simpa using hm
          have H : Hid (meetsTo X Y (k + 1) = false) := by unfold Hid; rw [meetsTo, hno, hm']; rfl
          clear hno KEY hm
          go_wp2_with fail
          go_quiet (fail)
          go_wp2
          go_roundw
          case rel => exact ⟨k + 1, by omega, by go_num, H.out, Below.drewN bel nq⟩
          case measure => simp [intOf]; omega
      · have H : Hid (meetsTo X Y (min la lb) = false) := by
          have e : k = min la lb := by omega
          exact e ▸ hno
        first | (have hx : lb ≤ k := by omega) | (have hx : la ≤ k := by omega)
        clear hno KEY
        go_wp2
        go_ret
        exact ⟨by rw [H.out]; rfl, bel⟩

set_option maxRecDepth 4000 in
set_option maxHeartbeats 800000 in
theorem model_any (B : Nat) (a b : Option Addr) (la lb ca cb : Nat) (X Y : Nat → Int) (w : World) (hB : B ≤ w.heap.size) (hla : la ≤ 1024) (hlb : lb ≤ 1024) (hX : SetIs B w a la X) (hY : SetIs B w b lb Y)
    (bX : ∀ i, 0 ≤ X i ∧ X i ≤ 18446744073709551615) (bY : ∀ i, 0 ≤ Y i ∧ Y i ≤ 18446744073709551615) :
    Calls Yba.prog 9 #[.slice a la ca, .slice b lb cb] w fun e w' => e = .returned (.bool (meetsTo X Y (min la lb))) ∧ w = w' := by
  go_enter Yba.func9, Yba.ntmps9
  go_wp2
  go_loop [5, 6] (fun f p => ∃ k : Nat, k ≤ min la lb ∧ p = .int .i64 k ∧ f = .bool (meetsTo X Y k)) (fun _ p => min la lb - (intOf p).toNat)
  case atStart => exact ⟨0, Nat.zero_le _, rfl, rfl⟩
  case round =>
    obtain ⟨k, hk, rfl, rfl⟩ := hrel
    by_cases hlt : k < min la lb
    · obtain ⟨b0, o0, rfl, _, c0⟩ := hX k (by omega)
      obtain ⟨b1, o1, rfl, _, c1⟩ := hY k (by omega)
      have hk1 : k < la := by omega
      have hk2 : k < lb := by omega
      have x1 := bX k
      have y1 := bY k
      clear hX hY bX bY
      go_wp2
      go_loop [5, 7] (fun f p => ∃ q : Nat, q ≤ 64 ∧ p = .int .u64 q ∧ f = .bool (meetsTo X Y k || bothTo (X k) (Y k) q)) (fun _ p => 64 - (intOf p).toNat)
      case atStart => exact ⟨0, Nat.zero_le _, rfl, by simp [bothTo]⟩
      case round =>
        obtain ⟨q, hq, rfl, rfl⟩ := hrel
        by_cases hq64 : q < 64
        · by_cases hx : bitOf (X k) q = true
          · have hx' : bits BinOp.and IntKind.u64 (X k / 2 ^ q) 1 = 1 := by simpa [bitOf] using hx
            have hx2 : (bits BinOp.and IntKind.u64 (X k / 2 ^ q) 1 == 1) = true := hx
            by_cases hy : bitOf (Y k) q = true
            · have hy2 : (bits BinOp.and IntKind.u64 (Y k / 2 ^ q) 1 == 1) = true := hy
              have H : Hid ((meetsTo X Y k || bothTo (X k) (Y k) (q + 1)) = true) := by unfold Hid; rw [bothTo, hx, hy]; simp
              clear hx hy hx'
              go_wp2
              go_round
              case rel => exact ⟨q + 1, by omega, by go_num, by rw [H.out]⟩
              case measure => simp [intOf]; omega
            · have hy2 : (bits BinOp.and IntKind.u64 (Y k / 2 ^ q) 1 == 1) = false := by simpa [bitOf] using hy
              have H : Hid ((meetsTo X Y k || bothTo (X k) (Y k) (q + 1)) = (meetsTo X Y k || bothTo (X k) (Y k) q)) := by
                have hy3 : bitOf (Y k) q = false := by simpa using hy
                unfold Hid; rw [bothTo, hx, hy3]; simp
              clear hx hy hx'
              go_wp2
              go_round
              case rel => exact ⟨q + 1, by omega, by go_num, by rw [H.out]⟩
              case measure => simp [intOf]; omega
          · have hx2 : (bits BinOp.and IntKind.u64 (X k / 2 ^ q) 1 == 1) = false := by simpa [bitOf] using hx
            have H : Hid ((meetsTo X Y k || bothTo (X k) (Y k) (q + 1)) = (meetsTo X Y k || bothTo (X k) (Y k) q)) := by
              have hx3 : bitOf (X k) q = false := by simpa using hx
              unfold Hid; rw [bothTo, hx3]; simp
            clear hx
            go_wp2
            go_round
            case rel => exact ⟨q + 1, by omega, by go_num, by rw [H.out]⟩
            case measure => simp [intOf]; omega
        · obtain rfl : q = 64 := by omega
          have H : Hid (meetsTo X Y (k + 1) = (meetsTo X Y k || bothTo (X k) (Y k) 64)) := by
            unfold Hid; rw [meetsTo, both64 _ _ x1.1 x1.2 y1.1 y1.2]
          go_wp2
          go_round
          case rel => exact ⟨k + 1, by omega, by go_num, by rw [H.out]⟩
          case measure => simp [intOf]; omega
    · obtain rfl : k = min la lb := by omega
      by_cases h : min la lb < la
      · have hx : ¬ min la lb < lb := by omega
        go_wp2
        go_ret
        exact ⟨rfl, rfl⟩
      · go_wp2
        go_ret
        exact ⟨rfl, rfl⟩

theorem meetsTo_comm {X Y : Nat → Int} (bX : ∀ i, 0 ≤ X i ∧ X i ≤ 18446744073709551615) (bY : ∀ i, 0 ≤ Y i ∧ Y i ≤ 18446744073709551615) : ∀ k, meetsTo Y X k = meetsTo X Y k
  | 0 => rfl
  | k + 1 => by
    have x := bX k
    have y := bY k
    rw [meetsTo, meetsTo, meetsTo_comm bX bY k, u64_and _ _ x.1 (by omega) y.1 (by omega), u64_and _ _ y.1 (by omega) x.1 (by omega), Nat.and_comm]
theorem neqBool (c : Bool) (w : World) : (binOp .neq 4 (.bool c) (.bool c)).run Yba.prog w = .ok (.bool false) w := by cases c <;> kernel_rfl
theorem eqBool (c : Bool) (w : World) : (binOp .eql 4 (.bool c) (.bool c)).run Yba.prog w = .ok (.bool true) w := by cases c <;> kernel_rfl

set_option maxRecDepth 4000 in
set_option maxHeartbeats 400000 in
theorem law_model (a b : Option Addr) (la lb ca cb : Nat) (X Y : Nat → Int) (w : World) (hla : la ≤ 9223372036854775807) (hlb : lb ≤ 9223372036854775807) (hX : SetIs w.heap.size w a la X) (hY : SetIs w.heap.size w b lb Y)
    (bX : ∀ i, 0 ≤ X i ∧ X i ≤ 18446744073709551615) (bY : ∀ i, 0 ≤ Y i ∧ Y i ≤ 18446744073709551615) :
    Calls Yba.prog 4 #[.slice a la ca, .slice b lb cb] w fun e w' => e = .returned (.bool true) ∧ Below w.heap.size w w' := by
  by_cases h1 : 1024 < la
  · have hd1 : decide (1024 < (la : Int)) = true := by simp; omega
    go_enter Yba.func4, Yba.ntmps4
    go_wp2
    go_ret
    exact ⟨rfl, Below.refl _ _⟩
  · have hd1 : decide (1024 < (la : Int)) = false := by simp; omega
    by_cases h2 : 1024 < lb
    · have hd2 : decide (1024 < (lb : Int)) = true := by simp; omega
      go_enter Yba.func4, Yba.ntmps4
      go_wp2
      go_ret
      exact ⟨rfl, Below.refl _ _⟩
    · have hd2 : decide (1024 < (lb : Int)) = false := by simp; omega
      have hq1 := neqBool (meetsTo X Y (min la lb))
      have hq2 := eqBool (meetsTo X Y (min la lb))
      go_enter Yba.func4, Yba.ntmps4
      go_wp2_with fail
      refine (meets_any w.heap.size a b la lb ca cb X Y _ (Nat.le_refl _) (by omega) (by omega) hX hY).mono ?_
      rintro e w1 ⟨rfl, bel⟩
      go_wp2_with fail
      refine (model_any w.heap.size a b la lb ca cb X Y _ bel.size (by omega) (by omega) (hX.later bel (Nat.le_refl _)) (hY.later bel (Nat.le_refl _)) bX bY).mono ?_
      rintro e w2 ⟨rfl, rfl⟩
      go_wp2_with fail
      refine (meets_any w.heap.size b a lb la cb ca Y X _ bel.size (by omega) (by omega) (hY.later bel (Nat.le_refl _)) (hX.later bel (Nat.le_refl _))).mono ?_
      rintro e w2 ⟨rfl, bel2⟩
      rw [meetsTo_comm bX bY, Nat.min_comm lb la]
      go_wp2_with fail
      go_ret
      exact ⟨rfl, bel.trans (bel2.mono bel.size)⟩

/-- The cells behind an address that came in: the address is a plain one. -/
theorem cells_at {W : World} {x : Addr} {n : Nat} {f : Nat → Value} (h : ∀ i, i < n → W.cell? (x.add i) = some (f i)) (hn : 0 < n) :
    ∃ b off, x = ⟨b, off, none⟩ ∧ b < W.heap.size ∧ ∀ i, i < n → W.cell? ⟨b, off + i, none⟩ = some (f i) := by
  obtain ⟨b, off, spot⟩ := x
  have h0 := h 0 hn
  have hs : spot = none := by simpa [Addr.add] using World.cell?_spot h0
  subst hs
  refine ⟨b, off, rfl, by simpa [Addr.add] using World.block_lt_of_cell? _ _ h0, fun i hi => ?_⟩
  have := h i hi
  by_cases e : i = 0
  · subst e; simpa [Addr.add] using this
  · simpa [Addr.add, e] using this

/-- A slice of words that came in, in the form that the walks ask. -/
theorem setIs_of {W : World} {a : Option Addr} {len cap : Nat} {zs : List Int}
    (h : (a = none ∧ len = 0 ∧ cap = 0 ∧ zs = []) ∨ ∃ x, a = some x ∧ len ≤ cap ∧ cap ≤ maxLen ∧ zs.length = cap ∧ (∀ i, i < zs.length → W.cell? (x.add i) = some (.int .u64 (zs.getD i 0))) ∧ ∀ n ∈ zs, (Lit.int .u64 n).wf = true) :
    SetIs W.heap.size W a len (fun i => zs.getD i 0) ∧ (∀ i, 0 ≤ zs.getD i 0 ∧ zs.getD i 0 ≤ 18446744073709551615) ∧ len ≤ 9223372036854775807 := by
  rcases h with ⟨rfl, rfl, rfl, rfl⟩ | ⟨x, rfl, hl, hm, hz, hcell, hwz⟩
  · exact ⟨fun i hi => absurd hi (Nat.not_lt_zero _), fun i => by simp, by omega⟩
  · refine ⟨fun i hi => ?_, fun i => ?_, by unfold maxLen at hm; omega⟩
    · obtain ⟨b, off, rfl, hb, hc⟩ := cells_at (f := fun i => .int .u64 (zs.getD i 0)) hcell (by omega)
      exact ⟨b, off, rfl, hb, hc i (by omega)⟩
    · by_cases hi : i < zs.length
      · have hmem : zs.getD i 0 ∈ zs := by simp [List.getD, hi]
        exact bounds_u64 (hwz _ hmem)
      · have h00 : zs.getD i 0 = 0 := by simp [List.getD, Nat.not_lt.1 hi]
        rw [h00]; omega
end Go.Proofs.Ybulkdcnu
