/-
  The walk of (*Engine).connection over the law's own closure.
-/
import Derived.Test.YbulkdclqDoorAddr
import Derived.Deep.QuietTactic
import Derived.BigQuiet
namespace Go.Proofs.YbulkdclqDoor
open Go.RowKit
set_option linter.unusedVariables false

/-- The first index below i that fits and accepts any peer. -/
def anyOf (F : Nat → Bool) (R : Nat → Int) : Nat → Option Nat
  | 0 => none
  | i + 1 => match anyOf F R i with
    | some j => some j
    | none => if F i = true ∧ R i % 4 = 0 then some i else none
theorem anyOf_same {F : Nat → Bool} {R : Nat → Int} {i : Nat} (h : F i = false ∨ ¬ R i % 4 = 0 ∨ (anyOf F R i).isSome = true) : anyOf F R (i + 1) = anyOf F R i := by
  rw [anyOf]
  cases ha : anyOf F R i with
  | some j => rfl
  | none =>
    rcases h with h | h | h
    · simp [h]
    · simp [h]
    · simp [ha] at h
theorem anyOf_new {F : Nat → Bool} {R : Nat → Int} {i : Nat} (h1 : F i = true) (h2 : R i % 4 = 0) (h3 : anyOf F R i = none) : anyOf F R (i + 1) = some i := by
  rw [anyOf, h3]; simp [h1, h2]

/-- What connection keeps through its rounds: the count of calls (block K), 'inOrder' (block K + 1), its own copy of addr (block S); all below K as it was. -/
structure CInv (w0 : World) (K S : Nat) (z : Addr) (m : Int) (i : Nat) (wr : World) : Prop where
  kc : wr.cell? ⟨K, 0, none⟩ = some (.int .i64 i)
  kf : wr.frozen? ⟨K, 0, none⟩ = false
  io : wr.cell? ⟨K + 1, 0, none⟩ = some (.bool true)
  a0 : wr.cell? ⟨S, 0, none⟩ = some (.int .u64 0)
  a1 : wr.cell? ⟨S, 1, none⟩ = some (.int .u64 (lo m))
  a2 : wr.cell? ⟨S, 2, none⟩ = some (.pointer (zp z m))
  lt : K + 1 < S
  sz : S < wr.heap.size
  below : Below K w0 wr
theorem CInv.drew {w0 : World} {K S : Nat} {z : Addr} {m : Int} {i : Nat} {wr : World} (h : CInv w0 K S z m i wr) : CInv w0 K S z m i wr.drew :=
  ⟨h.kc, h.kf, h.io, h.a0, h.a1, h.a2, h.lt, h.sz, h.below.drew⟩
theorem CInv.drewN {w0 : World} {K S : Nat} {z : Addr} {m : Int} {i : Nat} (n : Nat) {wr : World} (h : CInv w0 K S z m i wr) : CInv w0 K S z m i (wr.drewN n) :=
  ⟨h.kc, h.kf, h.io, h.a0, h.a1, h.a2, h.lt, h.sz, ⟨h.below.os, h.below.tape, h.below.output, h.below.size, h.below.block⟩⟩
theorem CInv.alloc {w0 : World} {K S : Nat} {z : Addr} {m : Int} {i : Nat} {wr : World} (h : CInv w0 K S z m i wr) (o : Obj) : CInv w0 K S z m i (wr.alloc o) := by
  have h1 := h.lt
  have h2 := h.sz
  have c : ∀ b j, b < wr.heap.size → (wr.alloc o).cell? ⟨b, j, none⟩ = wr.cell? ⟨b, j, none⟩ := fun b j hb => World.cell?_alloc_lt _ _ _ hb
  exact ⟨by rw [c _ _ (by omega)]; exact h.kc, by rw [World.frozen?_alloc_past _ _ _ (by omega)]; exact h.kf, by rw [c _ _ (by omega)]; exact h.io, by rw [c _ _ (by omega)]; exact h.a0, by rw [c _ _ (by omega)]; exact h.a1, by rw [c _ _ (by omega)]; exact h.a2, h1, by simp; omega, h.below.alloc (by omega) _⟩
theorem CInv.set {w0 : World} {K S : Nat} {z : Addr} {m : Int} {i : Nat} {wr : World} (h : CInv w0 K S z m i wr) : CInv w0 K S z m (i + 1) (wr.setCell ⟨K, 0, none⟩ (.int .i64 ((i : Int) + 1))) := by
  have h1 := h.lt
  have h2 := h.sz
  have c : ∀ b j, K < b → (wr.setCell ⟨K, 0, none⟩ (.int .i64 ((i : Int) + 1))).cell? ⟨b, j, none⟩ = wr.cell? ⟨b, j, none⟩ := fun b j hb => World.cell?_setCell_other _ _ _ _ (by intro e; have := congrArg Addr.block e; simp at this; omega)
  exact ⟨by rw [World.cell?_setCell_same _ _ _ h.kc]; simp, by rw [World.frozen?_setCell]; exact h.kf, by rw [c _ _ (by omega)]; exact h.io, by rw [c _ _ (by omega)]; exact h.a0, by rw [c _ _ (by omega)]; exact h.a1, by rw [c _ _ (by omega)]; exact h.a2, h1, by simp [World.setCell]; omega, h.below.setCell (Nat.le_refl _) _⟩

/-- The row of connections: element i's Remote is the address of kind R i % 4. -/
def ConnsAre (w : World) (C n : Nat) (z : Addr) (R : Nat → Int) : Prop :=
  ∀ i, i < n → w.cell? ⟨C, i * 20 + 3, none⟩ = some (.int .u64 0) ∧ w.cell? ⟨C, i * 20 + 3 + 1, none⟩ = some (.int .u64 (lo (R i % 4))) ∧ w.cell? ⟨C, i * 20 + 3 + 2, none⟩ = some (.pointer (zp z (R i % 4)))

set_option maxRecDepth 4000 in
set_option maxHeartbeats 400000 in
theorem valid_any (l m : Int) (z : Addr) (w : World) (h1 : 1 < w.heap.size) (hz0 : w.cell? ⟨1, 0, none⟩ = some (.pointer none)) :
    Calls Ybad.prog 9 #[.agg #[.int .u64 0, .int .u64 l, .pointer (zp z m)]] w fun e w' => e = .returned (.bool (!(m == 0))) ∧ w.alloc (.cells #[.int .u64 0, .int .u64 l, .pointer (zp z m)] 32) = w' := by
  have hq := fun w => neqZone (z := z) (m := m) w
  have hn : (1 : Nat) ≠ w.heap.size := by omega
  go_enter Ybad.func9, Ybad.ntmps9
  go_wp2
  go_ret
  exact ⟨rfl, rfl⟩

set_option maxRecDepth 8000 in
set_option maxHeartbeats 1000000 in
theorem conn_any (B n C E bF K bN bC bFit : Nat) (ao : Option Addr) (lf cf : Nat) (F : Nat → Bool) (R : Nat → Int) (z : Addr) (at_ : Int) (w : World) (hn : n ≤ 1024) (hR : ∀ i, 0 ≤ R i) (hat : 0 ≤ at_)
    (hB : B ≤ K) (lC : C < K) (lE : E < K) (lbF : bF < K) (lbN : bN < K) (lbC : bC < K) (lbFit : bFit < K) (l1 : 1 < K) (hsz : K + 1 < w.heap.size)
    (hE : w.cell? ⟨E, 0, none⟩ = some (.slice (some ⟨C, 0, none⟩) n n)) (hrow : ConnsAre w C n z R) (hz0 : w.cell? ⟨1, 0, none⟩ = some (.pointer none))
    (hbox : w.cell? ⟨bF, 0, none⟩ = some (.slice ao lf cf)) (hF : FitIs B w ao lf F)
    (hK : w.cell? ⟨K, 0, none⟩ = some (.int .i64 0)) (hKf : w.frozen? ⟨K, 0, none⟩ = false) (hI : w.cell? ⟨K + 1, 0, none⟩ = some (.bool true))
    (hN : w.cell? ⟨bN, 0, none⟩ = some (.int .i64 n)) (hC : w.cell? ⟨bC, 0, none⟩ = some (.slice (some ⟨C, 0, none⟩) n n)) (hFit : w.cell? ⟨bFit, 0, none⟩ = some (.func (.func 5) #[] #[.pointer (some ⟨bF, 0, none⟩)])) :
    Calls Ybad.prog 6 #[.pointer (some ⟨E, 0, none⟩), .agg #[.int .u64 0, .int .u64 (lo (at_ % 4)), .pointer (zp z (at_ % 4))],
        .func (.func 7) #[] #[.pointer (some ⟨K, 0, none⟩), .pointer (some ⟨bN, 0, none⟩), .pointer (some ⟨bC, 0, none⟩), .pointer (some ⟨K + 1, 0, none⟩), .pointer (some ⟨bFit, 0, none⟩)]] w
      fun e w' => ∃ k : Nat, Below K w w' ∧ w'.cell? ⟨K, 0, none⟩ = some (.int .i64 k) ∧ w'.cell? ⟨K + 1, 0, none⟩ = some (.bool true) ∧
        ((∃ i, i < n ∧ F i = true ∧ R i % 4 = at_ % 4 ∧ (∀ j, j < i → ¬ (F j = true ∧ R j % 4 = at_ % 4)) ∧ k = i + 1 ∧ e = .returned (.pointer (some ⟨C, i * 20, none⟩))) ∨
         ((∀ j, j < n → ¬ (F j = true ∧ R j % 4 = at_ % 4)) ∧ k = n ∧ e = .returned (.pointer ((anyOf F R n).map fun j => ⟨C, j * 20, none⟩)))) := by
  have gE : E < w.heap.size := by omega
  go_enter Ybad.func6, Ybad.ntmps6
  go_wp2
  go_loopw [7, 15] (fun a p wr => ∃ i : Nat, i ≤ n ∧ p = .int .i64 i ∧ a = .pointer ((anyOf F R i).map fun j => ⟨C, j * 20, none⟩) ∧ (∀ j, j < i → ¬ (F j = true ∧ R j % 4 = at_ % 4)) ∧ CInv w K w.heap.size z (at_ % 4) i wr)
    (fun _ p _ => n - (intOf p).toNat)
  case atStart =>
    have c : ∀ (o : Obj) b j, b < w.heap.size → (w.alloc o).cell? ⟨b, j, none⟩ = w.cell? ⟨b, j, none⟩ := fun o b j hb => World.cell?_alloc_lt _ _ _ hb
    exact ⟨0, Nat.zero_le _, rfl, rfl, fun j h => absurd h (Nat.not_lt_zero _), by rw [c _ _ _ (by omega)]; exact hK, by rw [World.frozen?_alloc_past _ _ _ (by omega)]; exact hKf, by rw [c _ _ _ (by omega)]; exact hI,
      by rw [World.cell?_alloc_new]; rfl, by rw [World.cell?_alloc_new]; rfl, by rw [World.cell?_alloc_new]; rfl, hsz, by simp, (Below.refl _ _).alloc (by omega) _⟩
  case round =>
    obtain ⟨i, hi, rfl, rfl, hno, inv⟩ := hrel
    by_cases hlt : i < n
    · have hE1 : wr.cell? ⟨E, 0, none⟩ = some (.slice (some ⟨C, 0, none⟩) n n) := by rw [inv.below.cell (p := ⟨E, 0, none⟩) lE]; exact hE
      have cl := clos_any B i n C bF K bN bC (K + 1) bFit ao lf cf F wr hlt hn (by rw [inv.below.cell (p := ⟨bF, 0, none⟩) lbF]; exact hbox) (hF.later inv.below hB) inv.kc inv.kf
        (by rw [inv.below.cell (p := ⟨bN, 0, none⟩) lbN]; exact hN) (by rw [inv.below.cell (p := ⟨bC, 0, none⟩) lbC]; exact hC) (by rw [inv.below.cell (p := ⟨bFit, 0, none⟩) lbFit]; exact hFit)
      have HC : Hid _ := cl
      have HW : Hid (∀ w1, CInv w K w.heap.size z (at_ % 4) (i + 1) w1 → (w1.cell? ⟨C, i * 20 + 3, none⟩ = some (.int .u64 0) ∧ w1.cell? ⟨C, i * 20 + 3 + 1, none⟩ = some (.int .u64 (lo (R i % 4))) ∧ w1.cell? ⟨C, i * 20 + 3 + 2, none⟩ = some (.pointer (zp z (R i % 4)))) ∧ w1.cell? ⟨1, 0, none⟩ = some (.pointer none)) := fun w1 h1 => by
        have r := hrow i hlt
        have b1 : ∀ o, w1.cell? ⟨C, o, none⟩ = w.cell? ⟨C, o, none⟩ := fun o => h1.below.cell (p := ⟨C, o, none⟩) lC
        have b2 : w1.cell? ⟨1, 0, none⟩ = w.cell? ⟨1, 0, none⟩ := h1.below.cell (p := ⟨1, 0, none⟩) l1
        rw [b1, b1, b1, b2]
        exact ⟨r, hz0⟩
      clear cl hE hrow hz0 hbox hF hK hKf hI hN hC hFit
      by_cases hf : F i = true
      · have hRi := hR i
        have hq := fun w => eqAddr (z := z) (m := R i % 4) (m' := at_ % 4) (by omega) (by omega) w
        by_cases hm : R i % 4 = at_ % 4
        · have hb : (R i % 4 == at_ % 4) = true := by simpa using hm
          have HM : Hid (R i % 4 = at_ % 4) := hm
          rw [hb] at hq
          clear hm hb
          go_wp2_with (go_at_call 7; refine (Calls.mono HC.out ?_); rintro e w1 ⟨rfl, hw1⟩; have inv1 : CInv w K w.heap.size z (at_ % 4) (i + 1) w1 := hw1 ▸ inv.set; clear hw1; obtain ⟨⟨r0, r1, r2⟩, z0⟩ := HW.out w1 inv1; have a0 := inv1.a0; have a1 := inv1.a1; have a2 := inv1.a2)
          go_quiet (fail)
          go_wp2
          go_ret
          exact ⟨_, (inv1.drewN nq).below, (inv1.drewN nq).kc, (inv1.drewN nq).io, Or.inl ⟨i, hlt, hf, HM.out, hno, rfl, rfl⟩⟩
        · have hb : (R i % 4 == at_ % 4) = false := by simpa using hm
          have HN : Hid (∀ j, j < i + 1 → ¬ (F j = true ∧ R j % 4 = at_ % 4)) := fun j hj => by
            by_cases e : j = i
            · subst e; exact fun h => hm h.2
            · exact hno j (by omega)
          rw [hb] at hq
          clear hm hb hno
          by_cases h0 : R i % 4 = 0
          · have hb0 : (R i % 4 == 0) = true := by simpa using h0
            cases ha : anyOf F R i with
            | none =>
              have HA : Hid (anyOf F R (i + 1) = some i) := anyOf_new hf h0 ha
              clear h0 ha
              go_wp2_with (go_at_call 7; refine (Calls.mono HC.out ?_); rintro e w1 ⟨rfl, hw1⟩; have inv1 : CInv w K w.heap.size z (at_ % 4) (i + 1) w1 := hw1 ▸ inv.set; clear hw1; obtain ⟨⟨r0, r1, r2⟩, z0⟩ := HW.out w1 inv1; have a0 := inv1.a0; have a1 := inv1.a1; have a2 := inv1.a2)
              go_quiet (fail)
              go_wp2_with (go_at_call 9; refine (valid_any _ _ z _ (by have := inv1.sz; have := inv1.lt; simp; omega) (by simpa using z0)).mono ?_; rintro e w2 ⟨rfl, rfl⟩)
              go_roundw
              case rel => exact ⟨i + 1, by omega, by go_num, by rw [HA.out]; rfl, HN.out, (inv1.drewN nq).alloc _⟩
              case measure => simp [intOf]; omega
            | some j =>
              have HA : Hid (anyOf F R (i + 1) = some j) := by unfold Hid; rw [anyOf_same (Or.inr (Or.inr (by simp [ha]))), ha]
              clear h0 ha
              go_wp2_with (go_at_call 7; refine (Calls.mono HC.out ?_); rintro e w1 ⟨rfl, hw1⟩; have inv1 : CInv w K w.heap.size z (at_ % 4) (i + 1) w1 := hw1 ▸ inv.set; clear hw1; obtain ⟨⟨r0, r1, r2⟩, z0⟩ := HW.out w1 inv1; have a0 := inv1.a0; have a1 := inv1.a1; have a2 := inv1.a2)
              go_quiet (fail)
              go_wp2_with (go_at_call 9; refine (valid_any _ _ z _ (by have := inv1.sz; have := inv1.lt; simp; omega) (by simpa using z0)).mono ?_; rintro e w2 ⟨rfl, rfl⟩)
              go_roundw
              case rel => exact ⟨i + 1, by omega, by go_num, by rw [HA.out]; rfl, HN.out, (inv1.drewN nq).alloc _⟩
              case measure => simp [intOf]; omega
          · have hb0 : (R i % 4 == 0) = false := by simpa using h0
            have HA : Hid (anyOf F R (i + 1) = anyOf F R i) := anyOf_same (Or.inr (Or.inl h0))
            clear h0
            go_wp2_with (go_at_call 7; refine (Calls.mono HC.out ?_); rintro e w1 ⟨rfl, hw1⟩; have inv1 : CInv w K w.heap.size z (at_ % 4) (i + 1) w1 := hw1 ▸ inv.set; clear hw1; obtain ⟨⟨r0, r1, r2⟩, z0⟩ := HW.out w1 inv1; have a0 := inv1.a0; have a1 := inv1.a1; have a2 := inv1.a2)
            go_quiet (fail)
            go_wp2_with (go_at_call 9; refine (valid_any _ _ z _ (by have := inv1.sz; have := inv1.lt; simp; omega) (by simpa using z0)).mono ?_; rintro e w2 ⟨rfl, rfl⟩)
            go_roundw
            case rel => exact ⟨i + 1, by omega, by go_num, by rw [HA.out], HN.out, (inv1.drewN nq).alloc _⟩
            case measure => simp [intOf]; omega
      · have hf' : F i = false := by simpa using hf
        have HN : Hid (∀ j, j < i + 1 → ¬ (F j = true ∧ R j % 4 = at_ % 4)) := fun j hj => by
          by_cases e : j = i
          · subst e; exact fun h => hf h.1
          · exact hno j (by omega)
        have HA : Hid (anyOf F R (i + 1) = anyOf F R i) := anyOf_same (Or.inl hf')
        clear hf hno
        go_wp2_with (go_at_call 7; refine (Calls.mono HC.out ?_); rintro e w1 ⟨rfl, rfl⟩)
        go_roundw
        case rel => exact ⟨i + 1, by omega, by go_num, by rw [HA.out], HN.out, inv.set⟩
        case measure => simp [intOf]; omega
    · obtain rfl : i = n := by omega
      go_wp2
      go_ret
      exact ⟨_, inv.below, inv.kc, inv.io, Or.inr ⟨hno, rfl, rfl⟩⟩
end Go.Proofs.YbulkdclqDoor
