/-
  The proof of 'Rows.LawS5190COnePhaseSaid': the frame by the kit's proof-skeleton tool, the walk by hand.
-/
import Derived.Test.YbulkdclqRows
import Derived.WalkKit
import Derived.ProofKit
import Derived.OpenShut
import Derived.ShutString
namespace Go.Proofs.Ybulkdclq.lawS5190COnePhase
open Go.ChangeShapes Go.WideShapes Go.ChangeAt Go.RowKit
open Go.ChangeMaps (open_string shut_string)
set_option linter.unusedVariables false      -- a walk need not use every 'w<i>' (that an integer argument fits its kind)

theorem own : ownKnob Yba.prog.godebug = none := by kernel_rfl

/-! ### STEP 1: THE WALK: the Go text returns true. 'Grown w w'': the world has at most new blocks (Derived/RowKit3.lean). Part the cases AHEAD of 'go_enter' where a test parts the walk; take each callee by a contract of your own. -/
set_option maxHeartbeats 800000 in
theorem walk (a0 : Int) (w0 : (Lit.int .u8 a0).wf = true) (w : World) :
    Calls Yba.prog 6 #[.int .u8 a0] w fun e w' => e = .returned (.bool true) ∧ Grown w w' := by
  by_cases hx : a0 = 4
  · subst hx
    go_enter Yba.func6, Yba.ntmps6
    go_wp2
    go_loopw [3, 4, 5] (fun c f p wr => ∃ k : Nat, k ≤ 6 ∧ p = .int .i64 k ∧ ((k ≤ 1 ∧ c = .int .i64 0) ∨ (1 < k ∧ c = .int .i64 1 ∧ f = .int .i64 1)) ∧ Grown w wr) (fun _ _ p _ => 6 - (intOf p).toNat)
    case atStart => exact ⟨0, by omega, rfl, Or.inl ⟨by omega, rfl⟩, Grown.refl _⟩
    case round =>
      obtain ⟨k, hk, rfl, hc, hg⟩ := hrel
      rcases hc with ⟨hk1, rfl⟩ | ⟨hk1, rfl, rfl⟩
      · by_cases hk0 : k = 1
        · subst hk0
          go_wp2
          go_roundw
          case rel => exact ⟨2, by omega, rfl, Or.inr ⟨by omega, rfl, rfl⟩, by repeat (first | exact hg | apply Grown.drew | apply Grown.alloc)⟩
          case measure => simp [intOf]
        · have hk0 : k = 0 := by omega
          subst hk0
          go_wp2
          go_roundw
          case rel => exact ⟨1, by omega, rfl, Or.inl ⟨by omega, rfl⟩, by repeat (first | exact hg | apply Grown.drew | apply Grown.alloc)⟩
          case measure => simp [intOf]
      · by_cases hk6 : k < 6
        · have hb : ((k : Int) == 1) = false := by simp; omega
          go_wp2
          go_roundw
          case rel => exact ⟨k + 1, by omega, by go_num, Or.inr ⟨by omega, rfl, rfl⟩, by repeat (first | exact hg | apply Grown.drew | apply Grown.alloc)⟩
          case measure => simp [intOf]; omega
        · go_wp2
          go_ret
          exact ⟨rfl, hg⟩
  · have hb : (a0 == 4) = false := by simpa using hx
    clear hx
    go_enter Yba.func6, Yba.ntmps6
    go_wp2
    go_loopw [3, 4, 5] (fun c f p wr => ∃ k : Nat, k ≤ 6 ∧ p = .int .i64 k ∧ ((k ≤ 3 ∧ c = .int .i64 0) ∨ (3 < k ∧ c = .int .i64 1 ∧ f = .int .i64 3)) ∧ Grown w wr) (fun _ _ p _ => 6 - (intOf p).toNat)
    case atStart => exact ⟨0, by omega, rfl, Or.inl ⟨by omega, rfl⟩, Grown.refl _⟩
    case round =>
      obtain ⟨k, hk, rfl, hc, hg⟩ := hrel
      rcases hc with ⟨hk1, rfl⟩ | ⟨hk1, rfl, rfl⟩
      · by_cases hk0 : k = 3
        · subst hk0
          go_wp2
          go_roundw
          case rel => exact ⟨4, by omega, rfl, Or.inr ⟨by omega, rfl, rfl⟩, by repeat (first | exact hg | apply Grown.drew | apply Grown.alloc)⟩
          case measure => simp [intOf]
        · have hb3 : ((k : Int) == 3) = false := by simp; omega
          have hk3 : k < 3 := by omega
          clear hk0
          go_wp2
          go_roundw
          case rel => exact ⟨k + 1, by omega, by go_num, Or.inl ⟨by omega, rfl⟩, by repeat (first | exact hg | apply Grown.drew | apply Grown.alloc)⟩
          case measure => simp [intOf]; omega
      · by_cases hk6 : k < 6
        · have hb3 : ((k : Int) == 3) = false := by simp; omega
          go_wp2
          go_roundw
          case rel => exact ⟨k + 1, by omega, by go_num, Or.inr ⟨by omega, rfl, rfl⟩, by repeat (first | exact hg | apply Grown.drew | apply Grown.alloc)⟩
          case measure => simp [intOf]; omega
        · go_wp2
          go_ret
          exact ⟨rfl, hg⟩

/-! ### THE ROW's STEP: WRITTEN OUT: LEAVE IT -/
set_option maxRecDepth 100000 in
theorem lifted (os : Os) (started : os.Started) (H : Type) (enc : TypeId × Value → H) :
    ReturnsInHanded {} Yba.checked os 6 .any (Rows.lawS5190COnePhaseSpec.pre6 enc Yba.prog Yba.f6 Rows.lawS5190COnePhaseRow.domain false) (Rows.lawS5190COnePhaseSpec.post enc Yba.prog Yba.f6 false true false false) := by
  refine returnsInHanded_of_change (C := Yba.checked) own started (by kernel_rfl) Yba.func6
    (ChangeSpec.witness6 (enc := enc) (C := Yba.checked) false ⟨#[], #[.int .u8 0], []⟩ 8 (by kernel_rfl) (by kernel_rfl) (by kernel_rfl) (by kernel_rfl)) ?_
  intro W base args ds gs before hval0 hW hcnd _
  have hval : ∀ (j : Nat) t v, Yba.f6.params[j]? = some t → args[j]? = some v → Value.okWide Yba.prog W .any base t v := hval0
  have hW' := hW
  obtain ⟨p, q, hA0, hV, rfl, hfz, hnd⟩ := hW
  have hA : DataW.TrodAll enc Yba.prog W 0 (fun _ => true) true Yba.f6.params.toList args.toList ds p := hA0
  rw [Yba.params6] at hA hval
  obtain ⟨v0, vs0, d0, ds0, p0, q0, hargs, rfl, rfl, h0, r0⟩ := trodAll_cons hA
  obtain ⟨rfl, rfl, rfl⟩ := trodAll_nil r0
  obtain rfl : args = #[v0] := by cases args; simp_all
  obtain ⟨rfl, rfl⟩ := trodVars_none hV
  obtain ⟨a0, rfl, rfl, rfl, w0⟩ := open_int Yba.underlying5 (hval 0 5 v0 rfl rfl) h0
  clear hA0 hval0
  simp only [List.append_nil] at hW'
  refine (walk a0 w0 W).mono fun e W' ⟨he, hg⟩ => ?_
  subst he
  exact ⟨_, rfl, post_of_same (pa := []) (pv := []) hW' (fun _ _ _ => (trodAll_cons_mk (shut_bool Yba.underlying4 _) trodAll_mk0)) (fun sp _ => (trodAll_cons_mk (shut_int Yba.underlying5 w0) trodAll_mk0)) (fun _ _ => rfl) rfl
    (hg.frame _) hg.2.1 (ok_one (by kernel_rfl) rfl (okWide_bool_mk Yba.underlying4 _))⟩

theorem over : Rows.lawS5190COnePhaseRow.holds Yba.pinned (OpenSpec.ofChange Rows.lawS5190COnePhaseSpec) :=
  OpenClaim.holds_of_wide 6 Yba.f6 rfl rfl rfl rfl rfl rfl rfl ⟨rfl, rfl, rfl, rfl, rfl⟩ rfl rfl rfl rfl rfl (by kernel_rfl) Yba.func6 (by kernel_rfl)
    (of_decide_eq_true (by kernel_rfl)) (by unfold Func.isWrapper; first | (rw [if_pos (by decide +kernel)]; kernel_rfl) | (rw [if_neg (by decide +kernel)]; exact ⟨rfl, rfl⟩))
    (fun os started H enc _ => lifted os started H enc)

/-- ████ THE STATEMENT ████ -/
theorem proved : Rows.LawS5190COnePhaseSaid :=
  over
end Go.Proofs.Ybulkdclq.lawS5190COnePhase
