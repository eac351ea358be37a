/-
  The walks of time.Time.Add (at the zero Time), as LawS5190BFirstIsHead comes to it.
-/
import Derived.Test.YbulkdclqRows
import Derived.WalkKit
import Derived.WalkSpells
import Derived.WalkLawsBesides
import Derived.Laws.BitsAllLaws
namespace Go.Proofs.Ybulkdclq
open Go.RowKit
set_option linter.unusedVariables false
theorem tm (d : Int) : -1000000000 < d.tmod 1000000000 ∧ d.tmod 1000000000 < 1000000000 := by
  have := Int.tmod_lt_of_pos d (b := 1000000000) (by decide)
  have := Int.lt_tmod_of_pos d (b := 1000000000) (by decide)
  omega
theorem td (d : Int) (h1 : -9223372036854775808 ≤ d) (h2 : d ≤ 9223372036854775807) : -9223372037 ≤ d.tdiv 1000000000 ∧ d.tdiv 1000000000 ≤ 9223372037 := by
  have := Int.mul_tdiv_add_tmod d 1000000000
  have := tm d
  omega
theorem and0 : bits BinOp.and IntKind.u64 0 1073741823 = 0 := by decide +kernel
theorem andNot0 : bits BinOp.andNot IntKind.u64 0 1073741823 = 0 := by decide +kernel
theorem or0 (v : Int) (h1 : 0 ≤ v) (h2 : v < 1000000000) : bits BinOp.or IntKind.u64 0 v = v := by
  rw [u64_or 0 v (by omega) (by omega) h1 (by omega)]; simp; omega
theorem mono0 (v : Int) (h1 : 0 ≤ v) (h2 : v < 1000000000) : (bits BinOp.and IntKind.u64 v 9223372036854775808 != 0) = false := by
  rw [u64_and v 9223372036854775808 h1 (by omega) (by omega) (by omega)]
  have e : v.toNat &&& (9223372036854775808 : Int).toNat = 0 := by
    rw [show (9223372036854775808 : Int).toNat = 2 ^ 63 from rfl, nat_bit]
    have : v.toNat / 2 ^ 63 = 0 := Nat.div_eq_of_lt (by omega)
    rw [this]
  rw [e]; rfl
set_option maxHeartbeats 400000 in
theorem nsec_any (b : Nat) (w : World) (h0 : w.cell? ⟨b, 0, none⟩ = some (.int .u64 0)) :
    Calls Yba.prog 16 #[.pointer (some ⟨b, 0, none⟩)] w fun e w' => e = .returned (.int .i32 0) ∧ w = w' := by
  have ha := and0
  go_enter Yba.func16, Yba.ntmps16
  go_wp2
  go_ret
  exact ⟨rfl, rfl⟩
set_option maxRecDepth 8000 in
set_option maxHeartbeats 800000 in
theorem addSec_any (b : Nat) (x y q : Int) (w : World) (h0 : w.cell? ⟨b, 0, none⟩ = some (.int .u64 x)) (h1 : w.cell? ⟨b, 1, none⟩ = some (.int .i64 y)) (hf : w.frozen? ⟨b, 1, none⟩ = false) (hx : (bits BinOp.and IntKind.u64 x 9223372036854775808 != 0) = false) :
    Calls Yba.prog 17 #[.pointer (some ⟨b, 0, none⟩), .int .i64 q] w fun e w' => e = .returned (.tuple #[]) ∧ ∃ y', w.setCell ⟨b, 1, none⟩ (.int .i64 y') = w' := by
  go_enter Yba.func17, Yba.ntmps17
  go_wp2
  all_goals (go_end0; exact ⟨rfl, _, rfl⟩)
set_option maxRecDepth 8000 in
set_option maxHeartbeats 800000 in
theorem add_any (d : Int) (h1 : -9223372036854775808 ≤ d) (h2 : d ≤ 9223372036854775807) (w : World) :
    Calls Yba.prog 7 #[.agg #[.int .u64 0, .int .i64 0, .pointer none], .int .i64 d] w fun e w' => ∃ x y, e = .returned (.agg #[.int .u64 x, .int .i64 y, .pointer none]) ∧ Below w.heap.size w w' := by
  obtain ⟨t1, t2⟩ := tm d
  obtain ⟨t3, t4⟩ := td d h1 h2
  have ha := andNot0
  by_cases hs : d.tmod 1000000000 < 0
  · have ho := or0 (d.tmod 1000000000 + 1000000000) (by omega) (by omega)
    have hm := mono0 (d.tmod 1000000000 + 1000000000) (by omega) (by omega)
    go_enter Yba.func7, Yba.ntmps7
    go_wp2_with (first | (go_at_call 16; refine (nsec_any _ _ (by simp)).mono ?_; rintro e w' ⟨rfl, rfl⟩) | (go_at_call 17; refine (addSec_any w.heap.size _ 0 _ _ (by simp) (by simp) (by simp) hm).mono ?_; rintro e w' ⟨rfl, y', rfl⟩))
    exact bodyPost_ret (v := .agg #[.int .u64 (d.tmod 1000000000 + 1000000000), .int .i64 y', .pointer none]) (by simp [results, Yba.results7, go_sem]) rfl ⟨_, _, rfl, (((Below.refl _ _).alloc (Nat.le_refl _) _).alloc (by simp) _)⟩
  · have ho := or0 (d.tmod 1000000000) (by omega) (by omega)
    have hm := mono0 (d.tmod 1000000000) (by omega) (by omega)
    go_enter Yba.func7, Yba.ntmps7
    go_wp2_with (first | (go_at_call 16; refine (nsec_any _ _ (by simp)).mono ?_; rintro e w' ⟨rfl, rfl⟩) | (go_at_call 17; refine (addSec_any w.heap.size _ 0 _ _ (by simp) (by simp) (by simp) hm).mono ?_; rintro e w' ⟨rfl, y', rfl⟩))
    exact bodyPost_ret (v := .agg #[.int .u64 (d.tmod 1000000000), .int .i64 y', .pointer none]) (by simp [results, Yba.results7, go_sem]) rfl ⟨_, _, rfl, (((Below.refl _ _).alloc (Nat.le_refl _) _).alloc (by simp) _)⟩
end Go.Proofs.Ybulkdclq
