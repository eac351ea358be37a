/-
  The upload's map of parts: what it holds, as a ghost datum; its store and its look-up.
-/
import Derived.Test.YbulkdcngDoorFind
import Derived.Maps.Own
import Derived.Maps.OwnSet
import Derived.Maps.Views
import Derived.Deep.OwnRows
namespace Go.Proofs.YbulkdcngDoor
open Go.RowKit Go.Maps
set_option linter.unusedVariables false

/-- How an element of the map reads: nil, or the number of the block that it leads to. -/
def ptrElem : Value → Option (DataW Unit × List MemPlace)
  | .pointer none => some (.nil, [])
  | .pointer (some a) => if a.off = 0 ∧ a.spot = none then some (.lit (.int .i64 a.block), []) else none
  | _ => none
theorem ptrElem_mk (b : Nat) : ptrElem (.pointer (some ⟨b, 0, none⟩)) = some (.lit (.int .i64 b), []) := by simp [ptrElem]
theorem ptrElem_inv {v : Value} {o : Option Nat} {ps : List MemPlace} (h : ptrElem v = some ((match o with | none => .nil | some b => .lit (.int .i64 b)), ps)) : v = .pointer (o.map fun b => ⟨b, 0, none⟩) := by
  unfold ptrElem at h
  split at h
  · cases o with
    | none => rfl
    | some b => simp at h
  · rename_i a
    split at h
    · rename_i ha
      cases o with
      | none => simp at h
      | some b =>
        simp only [Option.some.injEq, Prod.mk.injEq, DataW.lit.injEq, Lit.int.injEq] at h
        obtain ⟨bl, of, sp⟩ := a
        simp at ha h
        obtain ⟨rfl, rfl⟩ := ha
        obtain ⟨h, _⟩ := h
        obtain rfl : bl = b := by omega
        rfl
    · cases h
  · cases h
theorem keyed : Keyed Ybad.prog 3 := int_keyed Ybad.underlying3
theorem zero45 (w : World) : (zeroValue 45).run Ybad.prog w = .ok (.pointer none) w := by kernel_rfl

/-- The map at block Mb holds, at each number, the block of the last of the first k parts with that number. -/
def MapIs (w : World) (Mb : Nat) (N : Nat → Int) (k : Nat) (blk : Nat → Nat) : Prop :=
  ∃ D, w.ownsMap Ybad.prog 3 ptrElem Mb k D ∧ ∀ x, D.atKey (.int .i64 x) .nil = (match (findL N k x).map blk with | none => .nil | some b => .lit (.int .i64 b))
theorem MapIs.lt {w : World} {Mb k : Nat} {N : Nat → Int} {blk : Nat → Nat} (h : MapIs w Mb N k blk) : Mb < w.heap.size := by
  obtain ⟨D, h, _⟩ := h; exact h.lt
theorem MapIs.made (w : World) (N : Nat → Int) (blk : Nat → Nat) : MapIs (w.alloc (.map #[] 0)) w.heap.size N 0 blk :=
  ⟨.map [], World.ownsMap_made _ _ _ _, fun x => rfl⟩
theorem MapIs.of_block {w w' : World} {Mb k : Nat} {N : Nat → Int} {blk : Nat → Nat} (h : MapIs w Mb N k blk) (e : w'.heap[Mb]? = w.heap[Mb]?) : MapIs w' Mb N k blk := by
  obtain ⟨D, ⟨es, clock, hb, F, hs, hD⟩, ha⟩ := h
  exact ⟨D, ⟨es, clock, by rw [e]; exact hb, F, hs, hD⟩, ha⟩
theorem MapIs.congr {w : World} {Mb k : Nat} {N : Nat → Int} {blk blk' : Nat → Nat} (h : MapIs w Mb N k blk) (e : ∀ j, j < k → blk' j = blk j) : MapIs w Mb N k blk' := by
  obtain ⟨D, ho, ha⟩ := h
  refine ⟨D, ho, fun x => ?_⟩
  rw [ha x]
  cases hf : findL N k x with
  | none => rfl
  | some j => simp [e j (findL_lt hf).1]
theorem wf_i64 {x : Int} (h1 : -9223372036854775808 ≤ x) (h2 : x ≤ 9223372036854775807) : (Lit.int .i64 x).wf = true := WalkArith.wf_i64 ⟨h1, h2⟩
theorem MapIs.look {w : World} {Mb k : Nat} {N : Nat → Int} {blk : Nat → Nat} (h : MapIs w Mb N k blk) {x : Int} (h1 : -9223372036854775808 ≤ x) (h2 : x ≤ 9223372036854775807) :
    (Instr.lookup 25 (.map (some Mb)) (.int .i64 x) false).run Ybad.prog w = .ok (.pointer ((findL N k x).map fun j => ⟨blk j, 0, none⟩)) w := by
  obtain ⟨D, ho, ha⟩ := h
  obtain ⟨v, ps, hrun, hv⟩ := ho.lookup keyed Ybad.underlying25 (zero45 w) (zd := .nil) (zp := []) rfl (keyOf_int_mk Ybad.underlying3 (wf_i64 h1 h2))
  rw [ha x] at hv
  have e := ptrElem_inv hv
  rw [hrun, e]
  simp [Option.map_map, Function.comp_def]
theorem MapIs.store {w : World} {Mb k b : Nat} {N : Nat → Int} {blk : Nat → Nat} (h : MapIs w Mb N k blk) (hk : k < maxLen) (h1 : -9223372036854775808 ≤ N k) (h2 : N k ≤ 9223372036854775807) (hb : blk k = b) :
    ∃ w', (Instr.mapUpdate 25 (.map (some Mb)) (.int .i64 (N k)) (.pointer (some ⟨b, 0, none⟩))).run Ybad.prog w = .ok () w' ∧ MapIs w' Mb N (k + 1) blk ∧ w.grownBy w' (some Mb) := by
  obtain ⟨D, ho, ha⟩ := h
  obtain ⟨w', hrun, ho', hg⟩ := ho.update keyed Ybad.underlying25 hk (keyOf_int_mk Ybad.underlying3 (wf_i64 h1 h2)) (ptrElem_mk b)
  refine ⟨w', hrun, ⟨_, ho', fun x => ?_⟩, hg⟩
  by_cases e : N k = x
  · subst e
    rw [atKey_put_same ho.isMap (by trivial), findL_hit rfl]
    simp [hb]
  · rw [atKey_put_other (by intro e'; cases e'; exact e rfl), ha x, findL_miss e]
end Go.Proofs.YbulkdcngDoor
