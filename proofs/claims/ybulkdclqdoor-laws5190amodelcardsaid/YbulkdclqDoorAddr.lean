/-
  The walks of the small functions on LawS5190AModel's road: netip.AddrFrom4, zzs5190aaddr, the two closures; and the two comparisons of addresses.
-/
import Derived.Test.YbulkdclqDoorRows
import Derived.WalkKit
import Derived.WalkSpells
import Derived.WalkLawsBesides
import Derived.LaidEqlPtr
import Derived.Lib.Builder
import Derived.Laws.StructEq
namespace Go.Proofs.YbulkdclqDoor
open Go.RowKit
set_option linter.unusedVariables false
theorem cells40 : Ybad.prog.cellsOf 40 = 20 := by kernel_rfl
theorem bytes40 : Ybad.prog.bytesOf 40 = 224 := by kernel_rfl
theorem info82 : (Ybad.prog.info? 82).isSome = true := by kernel_rfl
theorem info40 : (Ybad.prog.info? 40).isSome = true := by kernel_rfl
theorem held32 : Ybad.prog.stoodInHeld 32 = false := by kernel_rfl
theorem held27 : Ybad.prog.stoodInHeld 27 = false := by kernel_rfl
theorem held30 : Ybad.prog.stoodInHeld 30 = false := by kernel_rfl
/-- The low word and the zone pointer of the netip.Addr of selector kind m. -/
def lo (m : Int) : Int := if m = 0 then 0 else 281470849515520 + m
def zp (z : Addr) (m : Int) : Option Addr := if m = 0 then none else some z
theorem lo_inj {m m' : Int} (h1 : 0 ≤ m) (h3 : 0 ≤ m') : (lo m == lo m') = (m == m') := by
  rw [Bool.eq_iff_iff]; unfold lo; simp; split <;> split <;> omega
theorem eqp_none (w : World) (d : Nat) : (Op.equalIn (d + 1) 28 (.pointer none) (.pointer none)).run Ybad.prog w = .ok true w := by
  simp [Op.equalIn, run_underlying Ybad.underlying28]
theorem eqp_nil (w : World) (d : Nat) (a : Addr) : (Op.equalIn (d + 1) 28 (.pointer (some a)) (.pointer none)).run Ybad.prog w = .ok false w := by
  simp [Op.equalIn, run_underlying Ybad.underlying28]
theorem eqp_same (w : World) (d : Nat) (a : Addr) : (Op.equalIn (d + 1) 28 (.pointer (some a)) (.pointer (some a))).run Ybad.prog w = .ok true w := by
  obtain ⟨j, hj⟩ := Option.isSome_iff_exists.1 info82
  simp [Op.equalIn, run_underlying Ybad.underlying28, sizeOf, typeInfo, hj, run_sameAddr_same]
set_option maxRecDepth 100000 in
theorem eqAddr {z : Addr} {m m' : Int} (h1 : 0 ≤ m) (h3 : 0 ≤ m') (w : World) :
    (binOp .eql 32 (.agg #[.int .u64 0, .int .u64 (lo m), .pointer (zp z m)]) (.agg #[.int .u64 0, .int .u64 (lo m'), .pointer (zp z m')])).run Ybad.prog w = .ok (.bool (m == m')) w := by
  have hl := lo_inj h1 h3
  have f1 := held32
  have f2 := held27
  have f3 := held30
  by_cases e : m = m'
  · subst e
    by_cases e0 : m = 0
    · subst e0
      simp [go_sem, Ybad.underlying32, Ybad.underlying27, Ybad.underlying30, Ybad.underlying25, zp, eqp_none]
    · simp [go_sem, Ybad.underlying32, Ybad.underlying27, Ybad.underlying30, Ybad.underlying25, zp, e0, eqp_same]
  · have e' : (m == m') = false := by simpa using e
    rw [e'] at hl ⊢
    have hl' : ¬ lo m = lo m' := by simpa using hl
    simp [go_sem, Ybad.underlying32, Ybad.underlying27, Ybad.underlying25, hl']
set_option maxRecDepth 100000 in
theorem neqZone {z : Addr} {m : Int} (w : World) :
    (binOp .neq 30 (.agg #[.pointer (zp z m)]) (.agg #[.pointer none])).run Ybad.prog w = .ok (.bool (!(m == 0))) w := by
  have f3 := held30
  by_cases e0 : m = 0
  · subst e0
    simp [go_sem, Ybad.underlying30, zp, eqp_none]
  · simp [go_sem, Ybad.underlying30, zp, e0, eqp_nil]
theorem neqConn (a : Addr) (w : World) : (binOp .neq 57 (.pointer (some a)) (.pointer (some a))).run Ybad.prog w = .ok (.bool false) w := by
  obtain ⟨j, hj⟩ := Option.isSome_iff_exists.1 info40
  exact Lib.run_neq_ptr_same w a Ybad.underlying57 hj
theorem eqConn (a : Addr) (w : World) : (binOp .eql 57 (.pointer (some a)) (.pointer (some a))).run Ybad.prog w = .ok (.bool true) w := by
  obtain ⟨j, hj⟩ := Option.isSome_iff_exists.1 info40
  exact run_eql_ptr_same w a Ybad.underlying57 hj
theorem or1 : bits BinOp.or IntKind.u64 (bits BinOp.or IntKind.u64 (bits BinOp.or IntKind.u64 (bits BinOp.or IntKind.u64 281470681743360 167772160) 0) 0) 1 = 281470849515521 := by decide +kernel
theorem or2 : bits BinOp.or IntKind.u64 (bits BinOp.or IntKind.u64 (bits BinOp.or IntKind.u64 (bits BinOp.or IntKind.u64 281470681743360 167772160) 0) 0) 2 = 281470849515522 := by decide +kernel
theorem or3 : bits BinOp.or IntKind.u64 (bits BinOp.or IntKind.u64 (bits BinOp.or IntKind.u64 (bits BinOp.or IntKind.u64 281470681743360 167772160) 0) 0) 3 = 281470849515523 := by decide +kernel
set_option maxHeartbeats 400000 in
theorem addr4_any (k : Int) (hk : k = 1 ∨ k = 2 ∨ k = 3) (z : Addr) (w : World) (hz : w.cell? ⟨0, 0, none⟩ = some (.pointer (some z))) (h0 : 0 < w.heap.size) :
    Calls Ybad.prog 8 #[.agg #[.int .u8 10, .int .u8 0, .int .u8 0, .int .u8 k]] w fun e w' => e = .returned (.agg #[.int .u64 0, .int .u64 (281470849515520 + k), .pointer (some z)]) ∧ Below w.heap.size w w' := by
  have hn : (0 : Nat) ≠ w.heap.size := by omega
  rcases hk with rfl | rfl | rfl
  · go_enter Ybad.func8, Ybad.ntmps8
    go_wp2
    rw [or1]
    exact bodyPost_ret (v := .agg #[.int .u64 0, .int .u64 (281470849515520 + 1), .pointer (some z)]) (by simp [results, Ybad.results8, go_sem]) rfl ⟨rfl, (((Below.refl _ _).alloc (Nat.le_refl _) _).alloc (by simp) _)⟩
  · go_enter Ybad.func8, Ybad.ntmps8
    go_wp2
    rw [or2]
    exact bodyPost_ret (v := .agg #[.int .u64 0, .int .u64 (281470849515520 + 2), .pointer (some z)]) (by simp [results, Ybad.results8, go_sem]) rfl ⟨rfl, (((Below.refl _ _).alloc (Nat.le_refl _) _).alloc (by simp) _)⟩
  · go_enter Ybad.func8, Ybad.ntmps8
    go_wp2
    rw [or3]
    exact bodyPost_ret (v := .agg #[.int .u64 0, .int .u64 (281470849515520 + 3), .pointer (some z)]) (by simp [results, Ybad.results8, go_sem]) rfl ⟨rfl, (((Below.refl _ _).alloc (Nat.le_refl _) _).alloc (by simp) _)⟩
theorem bcell {W w1 : World} (hb : Below W.heap.size W w1) : (∀ b o, b < W.heap.size → w1.cell? ⟨b, o, none⟩ = W.cell? ⟨b, o, none⟩) ∧ (∀ b o, b < W.heap.size → w1.frozen? ⟨b, o, none⟩ = W.frozen? ⟨b, o, none⟩) :=
  ⟨fun b o h => hb.cell (p := ⟨b, o, none⟩) h, fun b o h => hb.frozen (p := ⟨b, o, none⟩) h⟩
set_option maxHeartbeats 400000 in
theorem addr_any (s : Int) (h1 : 0 ≤ s) (h2 : s ≤ 255) (z : Addr) (w : World) (hz : w.cell? ⟨0, 0, none⟩ = some (.pointer (some z))) (h0 : 0 < w.heap.size) :
    Calls Ybad.prog 4 #[.int .u8 s] w fun e w' => e = .returned (.agg #[.int .u64 0, .int .u64 (lo (s % 4)), .pointer (zp z (s % 4))]) ∧ Below w.heap.size w w' := by
  by_cases hm : s % 4 = 0
  · have H : Hid (lo (s % 4) = 0 ∧ zp z (s % 4) = none) := by unfold Hid; simp [lo, zp, hm]
    go_enter Ybad.func4, Ybad.ntmps4
    go_wp2_with fail
    rw [H.out.1, H.out.2]
    exact bodyPost_ret (v := .agg #[.int .u64 0, .int .u64 0, .pointer none]) (by simp [results, Ybad.results4, go_sem]) rfl ⟨rfl, ((Below.refl _ _).alloc (Nat.le_refl _) _)⟩
  · have hm' : s % 4 = 1 ∨ s % 4 = 2 ∨ s % 4 = 3 := by omega
    have H : Hid (lo (s % 4) = 281470849515520 + s % 4 ∧ zp z (s % 4) = some z) := by unfold Hid; simp [lo, zp, hm]
    go_enter Ybad.func4, Ybad.ntmps4
    go_wp2_with fail
    refine (addr4_any (s % 4) hm' z _ (by rw [World.cell?_alloc_lt]; exact hz; exact h0) (by simp)).mono ?_
    rintro e w1 ⟨rfl, hb⟩
    obtain ⟨hc, hf⟩ := bcell hb
    have hz : w.heap.size < w1.heap.size := by have := hb.size; simp at this; omega
    go_wp2
    rw [H.out.1, H.out.2]
    refine bodyPost_ret (v := .agg #[.int .u64 0, .int .u64 (281470849515520 + s % 4), .pointer (some z)]) (by simp [results, Ybad.results4, go_sem, hc]) rfl ⟨rfl, ?_⟩
    exact (((((Below.refl w.heap.size w).alloc (Nat.le_refl _) _).trans (hb.mono (by simp))).setCell (by simp) _).setCell (by simp) _).setCell (by simp) _

/-- 'fit(i)': the closure over the box that holds 'fits': F i, 'fits[i]' below the length and false past it. -/
structure FitIs (B : Nat) (w : World) (ao : Option Addr) (lf : Nat) (F : Nat → Bool) : Prop where
  lt : lf ≤ 9223372036854775807
  cell : ∀ i, i < lf → ∃ b off, ao = some ⟨b, off, none⟩ ∧ b < B ∧ w.cell? ⟨b, off + i, none⟩ = some (.bool (F i))
  past : ∀ i, lf ≤ i → F i = false
theorem FitIs.later {B : Nat} {w w' : World} {ao : Option Addr} {lf : Nat} {F : Nat → Bool} (h : FitIs B w ao lf F) {K : Nat} (hb : Below K w w') (hK : B ≤ K) : FitIs B w' ao lf F :=
  ⟨h.lt, fun i hi => by
    obtain ⟨b, off, e, hl, hc⟩ := h.cell i hi
    exact ⟨b, off, e, hl, by rw [hb.cell (p := ⟨b, off + i, none⟩) (by show b < K; omega)]; exact hc⟩, h.past⟩
set_option maxHeartbeats 400000 in
theorem fit_any (B i : Nat) (bF : Nat) (ao : Option Addr) (lf cf : Nat) (F : Nat → Bool) (w : World) (hi : i ≤ 1024) (hbox : w.cell? ⟨bF, 0, none⟩ = some (.slice ao lf cf)) (hF : FitIs B w ao lf F) :
    Calls Ybad.prog 5 #[.int .i64 i, .pointer (some ⟨bF, 0, none⟩)] w fun e w' => e = .returned (.bool (F i)) ∧ w = w' := by
  have hlt := hF.lt
  by_cases h : i < lf
  · obtain ⟨b, off, rfl, _, hc⟩ := hF.cell i h
    go_enter Ybad.func5, Ybad.ntmps5
    go_wp2
    go_ret
    exact ⟨rfl, rfl⟩
  · have H : Hid (F i = false) := hF.past i (by omega)
    go_enter Ybad.func5, Ybad.ntmps5
    go_wp2
    go_ret
    rw [H.out]
    exact ⟨rfl, rfl⟩
set_option maxRecDepth 4000 in
set_option maxHeartbeats 400000 in
theorem clos_any (B i n C bF K bN bC bI bFit : Nat) (ao : Option Addr) (lf cf : Nat) (F : Nat → Bool) (w : World) (hi : i < n) (hn : n ≤ 1024) (hbox : w.cell? ⟨bF, 0, none⟩ = some (.slice ao lf cf)) (hF : FitIs B w ao lf F)
    (hK : w.cell? ⟨K, 0, none⟩ = some (.int .i64 i)) (hKf : w.frozen? ⟨K, 0, none⟩ = false) (hN : w.cell? ⟨bN, 0, none⟩ = some (.int .i64 n)) (hC : w.cell? ⟨bC, 0, none⟩ = some (.slice (some ⟨C, 0, none⟩) n n)) (hFit : w.cell? ⟨bFit, 0, none⟩ = some (.func (.func 5) #[] #[.pointer (some ⟨bF, 0, none⟩)])) :
    Calls Ybad.prog 7 #[.pointer (some ⟨C, i * 20, none⟩), .pointer (some ⟨K, 0, none⟩), .pointer (some ⟨bN, 0, none⟩), .pointer (some ⟨bC, 0, none⟩), .pointer (some ⟨bI, 0, none⟩), .pointer (some ⟨bFit, 0, none⟩)] w fun e w' => e = .returned (.bool (F i)) ∧ w.setCell ⟨K, 0, none⟩ (.int .i64 (i + 1)) = w' := by
  have hd : decide (n ≤ i) = false := by simpa using hi
  have hq := neqConn ⟨C, i * 20, none⟩
  go_enter Ybad.func7, Ybad.ntmps7
  go_wp2_with (go_at_call 5; refine (fit_any B i bF ao lf cf F _ (by omega) hbox hF).mono ?_; rintro e w' ⟨rfl, rfl⟩)
  go_ret
  exact ⟨rfl, rfl⟩
end Go.Proofs.YbulkdclqDoor
