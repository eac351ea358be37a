/-
  LawS5193APick: the plain side: which part a number names, which error pick should give; no Go in sight.
-/
import Derived.Below
namespace Go.Proofs.YbulkdcngDoor

/-- The last index below k whose number is x. -/
def findL (N : Nat → Int) : Nat → Int → Option Nat
  | 0, _ => none
  | k + 1, x => if N k = x then some k else findL N k x
/-- -1 or the index. -/
def idx (o : Option Nat) : Int := match o with | none => -1 | some j => j
theorem findL_lt {N : Nat → Int} : ∀ {k : Nat} {x : Int} {j : Nat}, findL N k x = some j → j < k ∧ N j = x
  | k + 1, x, j, h => by
    rw [findL] at h
    by_cases e : N k = x
    · rw [if_pos e] at h; cases h; exact ⟨by omega, e⟩
    · rw [if_neg e] at h; have := findL_lt h; exact ⟨by omega, this.2⟩
theorem findL_hit {N : Nat → Int} {k : Nat} {x : Int} (h : N k = x) : findL N (k + 1) x = some k := by rw [findL, if_pos h]
theorem findL_miss {N : Nat → Int} {k : Nat} {x : Int} (h : ¬ N k = x) : findL N (k + 1) x = findL N k x := by rw [findL, if_neg h]

/-- The law's data: n parts (numbers, tags, sizes in MiB), a list of m names with tags. -/
structure Inp where
  n : Nat
  m : Nat
  N : Nat → Int
  T : Nat → ByteArray
  S : Nat → Int
  LN : Nat → Int
  CT : Nat → ByteArray
structure Inp.Ok (I : Inp) : Prop where
  hn : I.n ≤ 1024
  hm : I.m ≤ 1024
  hN : ∀ i, -9223372036854775808 ≤ I.N i ∧ I.N i ≤ 9223372036854775807
  hL : ∀ i, -9223372036854775808 ≤ I.LN i ∧ I.LN i ≤ 9223372036854775807
  hS : ∀ i, -2147483648 ≤ I.S i ∧ I.S i ≤ 2147483647

/-- The part that name i stands for. -/
def Inp.at (I : Inp) (i : Nat) : Option Nat := findL I.N I.n (I.LN i)
theorem Inp.at_lt {I : Inp} {i j : Nat} (h : I.at i = some j) : j < I.n := (findL_lt h).1
/-- 0: name i is fine; 1: no such part, or another tag; 3: too small a part. -/
def Inp.chk (I : Inp) (i : Nat) : Nat :=
  match I.at i with
  | none => 1
  | some j => if ((I.T j).toList == (I.CT i).toList) = false then 1 else if i + 1 < I.m ∧ I.S j * 1048576 < 5242880 then 3 else 0
def Inp.add (I : Inp) (i : Nat) : Int := match I.at i with | none => 0 | some j => I.S j * 1048576
def Inp.sum (I : Inp) : Nat → Int
  | 0 => 0
  | k + 1 => I.sum k + I.add k
theorem Inp.add_bd {I : Inp} (h : I.Ok) (i : Nat) : -2251799813685248 ≤ I.add i ∧ I.add i ≤ 2251799813685248 := by
  unfold Inp.add
  split
  · omega
  · rename_i j _; have := h.hS j; omega
theorem Inp.sum_bd {I : Inp} (h : I.Ok) : ∀ k : Nat, -2251799813685248 * (k : Int) ≤ I.sum k ∧ I.sum k ≤ 2251799813685248 * (k : Int)
  | 0 => by simp [Inp.sum]
  | k + 1 => by
    have a := Inp.sum_bd h k
    have b := Inp.add_bd h k
    rw [Inp.sum]
    constructor
    · have : ((k + 1 : Nat) : Int) = (k : Int) + 1 := by omega
      rw [this]; omega
    · have : ((k + 1 : Nat) : Int) = (k : Int) + 1 := by omega
      rw [this]; omega
theorem Inp.sum_small {I : Inp} (h : I.Ok) {k : Nat} (hk : k ≤ I.m) : -2305843009213693952 ≤ I.sum k ∧ I.sum k ≤ 2305843009213693952 := by
  have a := Inp.sum_bd h k
  have b := h.hm
  omega
/-- The first fault among the first k names. -/
def Inp.bad (I : Inp) : Nat → Nat
  | 0 => 0
  | k + 1 => if I.bad k = 0 then I.chk k else I.bad k
theorem Inp.bad_stays {I : Inp} {i : Nat} (h : I.bad i ≠ 0) : ∀ {k : Nat}, i ≤ k → I.bad k = I.bad i
  | 0, hk => by obtain rfl : i = 0 := by omega
                rfl
  | k + 1, hk => by
    by_cases e : i = k + 1
    · subst e; rfl
    · have := Inp.bad_stays h (k := k) (by omega)
      rw [Inp.bad, if_neg (by omega), this]
theorem Inp.bad_hit {I : Inp} {i c : Nat} (h0 : I.bad i = 0) (hc : I.chk i = c) (hne : c ≠ 0) (hi : i < I.m) : I.bad I.m = c := by
  have e : I.bad (i + 1) = c := by rw [Inp.bad, if_pos h0, hc]
  rw [Inp.bad_stays (i := i + 1) (by omega) (by omega), e]
theorem Inp.bad_go {I : Inp} {i : Nat} (h0 : I.bad i = 0) (hc : I.chk i = 0) : I.bad (i + 1) = 0 := by rw [Inp.bad, if_pos h0, hc]
/-- Some of the first k steps does not rise. -/
def Inp.down (I : Inp) : Nat → Bool
  | 0 => false
  | k + 1 => I.down k || !(decide (I.LN k < I.LN (k + 1)))
theorem Inp.down_mono {I : Inp} {i : Nat} (h : I.down i = true) : ∀ {k : Nat}, i ≤ k → I.down k = true
  | 0, hk => by obtain rfl : i = 0 := by omega
                exact h
  | k + 1, hk => by
    by_cases e : i = k + 1
    · subst e; exact h
    · rw [Inp.down, Inp.down_mono h (k := k) (by omega)]; rfl
theorem Inp.down_hit {I : Inp} {i : Nat} (h : ¬ I.LN i < I.LN (i + 1)) (hi : i + 1 < I.m) : I.down (I.m - 1) = true :=
  Inp.down_mono (i := i + 1) (by rw [Inp.down]; simp; right; omega) (by omega)
theorem Inp.down_go {I : Inp} {i : Nat} (h : I.down i = false) (h2 : I.LN i < I.LN (i + 1)) : I.down (i + 1) = false := by rw [Inp.down, h]; simp; omega
/-- The error that pick should give, by the number of its variable; 0: none. -/
def Inp.code (I : Inp) : Nat :=
  if I.m = 0 then 1 else if I.down (I.m - 1) = true then 2 else if I.bad I.m ≠ 0 then I.bad I.m else if 5497558138880 < I.sum I.m then 4 else 0
theorem Inp.code_empty {I : Inp} (h : I.m = 0) : I.code = 1 := by simp [Inp.code, h]
theorem Inp.code_down {I : Inp} (h : I.m ≠ 0) (h2 : I.down (I.m - 1) = true) : I.code = 2 := by simp [Inp.code, h, h2]
theorem Inp.code_bad {I : Inp} (h : I.m ≠ 0) (h2 : I.down (I.m - 1) = false) {c : Nat} (h3 : I.bad I.m = c) (hc : c ≠ 0) : I.code = c := by
  simp [Inp.code, h, h2, h3, hc]
theorem Inp.code_big {I : Inp} (h : I.m ≠ 0) (h2 : I.down (I.m - 1) = false) (h3 : I.bad I.m = 0) (h4 : 5497558138880 < I.sum I.m) : I.code = 4 := by simp [Inp.code, h, h2, h3, h4]
theorem Inp.code_fine {I : Inp} (h : I.m ≠ 0) (h2 : I.down (I.m - 1) = false) (h3 : I.bad I.m = 0) (h4 : ¬ 5497558138880 < I.sum I.m) : I.code = 0 := by simp [Inp.code, h, h2, h3, h4]
theorem Inp.chk_fine {I : Inp} {i : Nat} (h : I.chk i = 0) : ∃ j, I.at i = some j := by
  unfold Inp.chk at h
  split at h
  · omega
  · rename_i j hj; exact ⟨j, hj⟩
theorem Inp.bad_fine {I : Inp} : ∀ {k : Nat}, I.bad k = 0 → ∀ i, i < k → I.chk i = 0
  | k + 1, h, i, hi => by
    rw [Inp.bad] at h
    by_cases e : I.bad k = 0
    · rw [if_pos e] at h
      by_cases e2 : i = k
      · subst e2; exact h
      · exact Inp.bad_fine e i (by omega)
    · rw [if_neg e] at h; exact absurd h e
theorem Inp.code_ok {I : Inp} (h : I.code = 0) : I.m ≠ 0 ∧ I.bad I.m = 0 := by
  unfold Inp.code at h
  split at h
  · omega
  · split at h
    · omega
    · split at h
      · omega
      · rename_i h1 _ h3; exact ⟨h1, by omega⟩
end Go.Proofs.YbulkdcngDoor
