/-
  The parallel count of bits, as math/bits.OnesCount64 reckons it, in plain numbers: nought just at nought.
-/
import Derived.Below
import Derived.WalkKit
import Derived.Laws.BitsAllLaws
import Derived.Laws.Bits128
namespace Go.Proofs.Ybulkdcnu
open Go.RowKit

/-- Joined words: a mask's low part and its high part. -/
theorem and_split (w x m M : Nat) (hm : m < 2 ^ w) : x &&& (m + 2 ^ w * M) = (x % 2 ^ w &&& m) + 2 ^ w * (x / 2 ^ w &&& M) := by
  have h1 : (x &&& (m + 2 ^ w * M)) % 2 ^ w = x % 2 ^ w &&& m := by
    rw [Nat.and_mod_two_pow, Nat.add_mul_mod_self_left, Nat.mod_eq_of_lt hm]
  have h2 : (x &&& (m + 2 ^ w * M)) / 2 ^ w = x / 2 ^ w &&& M := by
    rw [Nat.and_div_two_pow, Nat.add_mul_div_left _ _ (Nat.two_pow_pos w), Nat.div_eq_of_lt hm, Nat.zero_add]
  rw [← h1, ← h2, Nat.mod_add_div]

/-- A number of k digits to the base b, none above c. -/
def Dig (c b : Nat) : Nat → Nat → Prop
  | 0, y => y = 0
  | k + 1, y => ∃ d r, d ≤ c ∧ Dig c b k r ∧ y = d + b * r
theorem Dig.add {c c' b : Nat} : ∀ {k u v : Nat}, Dig c b k u → Dig c' b k v → Dig (c + c') b k (u + v)
  | 0, u, v, hu, hv => by
    have e1 : u = 0 := hu
    have e2 : v = 0 := hv
    subst e1; subst e2; rfl
  | k + 1, u, v, ⟨d, r, h1, h2, h3⟩, ⟨d', r', h1', h2', h3'⟩ =>
    ⟨d + d', r + r', by omega, Dig.add h2 h2', by rw [h3, h3', Nat.mul_add]; omega⟩
/-- The mask of k digits m to the base 2 ^ w. -/
def mask (w m : Nat) : Nat → Nat
  | 0 => 0
  | k + 1 => m + 2 ^ w * mask w m k
theorem dig_mask {w m c : Nat} (hm : m < 2 ^ w) (hc : ∀ x, x &&& m ≤ c) : ∀ (k x : Nat), Dig c (2 ^ w) k (x &&& mask w m k)
  | 0, x => by show x &&& 0 = 0; simp
  | k + 1, x => ⟨_, _, hc _, dig_mask hm hc k (x / 2 ^ w), by rw [mask, and_split w x m _ hm]⟩

theorem m0_eq : mask 2 1 32 = 6148914691236517205 := by decide
theorem m1_eq : mask 4 3 16 = 3689348814741910323 := by decide
theorem m2_eq : mask 8 15 8 = 1085102592571150095 := by decide

/-- Two masks side by side lose no bit. -/
theorem pair_zero (h : Nat) : ∀ (k x : Nat), x < 2 ^ (2 * h * k) → (x / 2 ^ h &&& mask (2 * h) (2 ^ h - 1) k) = 0 → (x &&& mask (2 * h) (2 ^ h - 1) k) = 0 → x = 0
  | 0, x, hx, _, _ => by simp at hx; omega
  | k + 1, x, hx, h1, h2 => by
    have hp : 0 < 2 ^ h := Nat.two_pow_pos h
    have hsq : 2 ^ (2 * h) = 2 ^ h * 2 ^ h := by rw [Nat.two_mul, Nat.pow_add]
    have hm : 2 ^ h - 1 < 2 ^ (2 * h) := by
      have : 2 ^ h ≤ 2 ^ (2 * h) := Nat.pow_le_pow_right (by omega) (by omega)
      omega
    rw [mask, and_split _ _ _ _ hm] at h1 h2
    have a1 : (x / 2 ^ h % 2 ^ (2 * h) &&& (2 ^ h - 1)) = 0 := by omega
    have a2 : 2 ^ (2 * h) * (x / 2 ^ h / 2 ^ (2 * h) &&& mask (2 * h) (2 ^ h - 1) k) = 0 := by omega
    have b1 : (x % 2 ^ (2 * h) &&& (2 ^ h - 1)) = 0 := by omega
    have b2 : 2 ^ (2 * h) * (x / 2 ^ (2 * h) &&& mask (2 * h) (2 ^ h - 1) k) = 0 := by omega
    have a2' := (Nat.mul_eq_zero.1 a2).resolve_left (by omega)
    have b2' := (Nat.mul_eq_zero.1 b2).resolve_left (by omega)
    have e : x / 2 ^ (2 * h) = 0 := pair_zero h k (x / 2 ^ (2 * h)) (by
      rw [Nat.div_lt_iff_lt_mul (Nat.two_pow_pos _), ← Nat.pow_add]
      have : 2 * h * k + 2 * h = 2 * h * (k + 1) := by rw [Nat.mul_succ]
      rw [this]; exact hx) (by rw [Nat.div_div_eq_div_mul, Nat.mul_comm, ← Nat.div_div_eq_div_mul]; exact a2') b2'
    rw [Nat.and_two_pow_sub_one_eq_mod] at a1 b1
    have hlt : x < 2 ^ (2 * h) := by
      rcases Nat.div_eq_zero_iff.1 e with h' | h'
      · have := Nat.two_pow_pos (2 * h); omega
      · exact h'
    rw [Nat.mod_eq_of_lt hlt] at b1
    have hd : x / 2 ^ h < 2 ^ h := by rw [Nat.div_lt_iff_lt_mul hp, ← hsq]; exact hlt
    rw [Nat.mod_eq_of_lt (Nat.lt_of_lt_of_le hd (Nat.pow_le_pow_right (by omega) (by omega))), Nat.mod_eq_of_lt hd] at a1
    have := Nat.div_add_mod x (2 ^ h)
    rw [a1, b1] at this
    simpa using this.symm

theorem Dig.low {c b : Nat} (h : c < b) : ∀ {k y : Nat}, Dig c b k y → y % b ≤ c
  | 0, y, hy => by have e : y = 0 := hy
                   subst e; simp
  | k + 1, y, ⟨d, r, h1, _, h3⟩ => by rw [h3, Nat.add_mul_mod_self_left, Nat.mod_eq_of_lt (by omega)]; exact h1
theorem Dig.lt {c b : Nat} (h : c < b) : ∀ {k y : Nat}, Dig c b k y → y < b ^ k
  | 0, y, hy => by have e : y = 0 := hy
                   subst e; simp
  | k + 1, y, ⟨d, r, h1, h2, h3⟩ => by
    have := Dig.lt h h2
    rw [h3, Nat.pow_succ, Nat.mul_comm (b ^ k) b]
    have h4 : b * (r + 1) ≤ b * b ^ k := Nat.mul_le_mul_left b this
    rw [Nat.mul_add] at h4
    omega
theorem div_of {u lo hi B : Nat} (h : u = lo + B * hi) (hl : lo < B) : u / B = hi := by
  rw [h, Nat.add_mul_div_left _ _ (by omega), Nat.div_eq_of_lt hl, Nat.zero_add]
theorem mod_of {u lo hi B : Nat} (h : u = lo + B * hi) (hl : lo < B) : u % B = lo := by
  rw [h, Nat.add_mul_mod_self_left, Nat.mod_eq_of_lt hl]
/-- Neighbouring digits added and every second one kept: nought only of nought. -/
theorem fold_zero : ∀ (k y : Nat), Dig 6 16 (2 * k) y → (y + y / 16) &&& mask 8 15 k = 0 → y = 0
  | 0, y, h, _ => h
  | k + 1, y, h, h0 => by
    obtain ⟨a, r, ha, ⟨b, z, hb, hz, e2⟩, e1⟩ := (show Dig 6 16 (2 * k + 1 + 1) y from h)
    have hlow := hz.low (by omega)
    have hzd := Nat.mod_add_div z 16
    rw [mask, and_split 8 _ 15 _ (by decide)] at h0
    have hy16 : y / 16 = r := div_of e1 (by omega)
    have hs2 : (y + y / 16) / 2 ^ 8 = z + z / 16 := div_of (lo := a + b + 16 * (b + z % 16)) (by rw [hy16, e1, e2]; omega) (by omega)
    have hs1 : (y + y / 16) % 2 ^ 8 = a + b + 16 * (b + z % 16) := mod_of (hi := z + z / 16) (by rw [hy16, e1, e2]; omega) (by omega)
    have h15 : (y + y / 16) % 2 ^ 8 &&& 15 = a + b := by rw [nat_mask4, hs1]; exact mod_of rfl (by omega)
    rw [h15, hs2] at h0
    have hz0 := fold_zero k z hz (by omega)
    omega
/-- The bytes' sum, as the last three steps reckon it. -/
theorem bytes_eq (d0 d1 d2 d3 d4 d5 d6 d7 y1 y2 y3 y4 y5 y6 y7 : Nat) (e7 : y7 = d7) (e6 : y6 = d6 + 256 * y7) (e5 : y5 = d5 + 256 * y6) (e4 : y4 = d4 + 256 * y5) (e3 : y3 = d3 + 256 * y4) (e2 : y2 = d2 + 256 * y3) (e1 : y1 = d1 + 256 * y2) :
    (d0 + 256 * y1) + y1 = ((d0 + d1) + 256 * (d1 + d2)) + 65536 * (y2 + y3) ∧
    (d0 + 256 * y1) + y1 + (y2 + y3) = ((d0 + d1 + d2 + d3) + 256 * ((d1 + d2 + d3 + d4) + 256 * ((d2 + d3 + d4 + d5) + 256 * (d3 + d4 + d5 + d6)))) + 4294967296 * (y4 + y5 + y6 + y7) ∧
    (d0 + 256 * y1) + y1 + (y2 + y3) + (y4 + y5 + y6 + y7) = (d0 + d1 + d2 + d3 + d4 + d5 + d6 + d7) + 128 * (2 * (y1 + y2 + y3 + y4 + y5 + y6 + y7)) := by
  subst e7 e6 e5 e4 e3 e2 e1
  refine ⟨by omega, by omega, by omega⟩
theorem bytes_sum (y : Nat) (h : Dig 15 256 8 y) : (y + y / 256 + (y + y / 256) / 65536 + (y + y / 256 + (y + y / 256) / 65536) / 4294967296) % 128 = 0 → y = 0 := by
  obtain ⟨d0, y1, b0, ⟨d1, y2, b1, ⟨d2, y3, b2, ⟨d3, y4, b3, ⟨d4, y5, b4, ⟨d5, y6, b5, ⟨d6, y7, b6, ⟨d7, y8, b7, hy8, e8⟩, e7⟩, e6⟩, e5⟩, e4⟩, e3⟩, e2⟩, e1⟩ := h
  have hy8' : y8 = 0 := hy8
  have e8' : y7 = d7 := by rw [e8, hy8']; rfl
  have hB := bytes_eq d0 d1 d2 d3 d4 d5 d6 d7 y1 y2 y3 y4 y5 y6 y7 e8' e7 e6 e5 e4 e3 e2
  rw [← e1] at hB
  obtain ⟨q1, q2, q3⟩ := hB
  have g1 : y / 256 = y1 := div_of e1 (by omega)
  clear hy8 hy8' e8
  have hu2 : (y + y1) / 65536 = y2 + y3 := div_of q1 (by clear q1 q2 q3 e1 e2 e3 e4 e5 e6 e7 e8' g1; omega)
  have hv2 : (y + y1 + (y2 + y3)) / 4294967296 = y4 + y5 + y6 + y7 := div_of q2 (by clear q1 q2 q3 e1 e2 e3 e4 e5 e6 e7 e8' g1 hu2; omega)
  rw [g1, hu2, hv2]
  intro h0
  rw [mod_of q3 (by clear q1 q2 q3 e1 e2 e3 e4 e5 e6 e7 e8' g1 hu2 hv2 h0; omega)] at h0
  have z0 : d0 = 0 ∧ d1 = 0 ∧ d2 = 0 ∧ d3 = 0 ∧ d4 = 0 ∧ d5 = 0 ∧ d6 = 0 ∧ d7 = 0 := by clear q1 q2 q3 e1 e2 e3 e4 e5 e6 e7 e8' g1 hu2 hv2; omega
  obtain ⟨rfl, rfl, rfl, rfl, rfl, rfl, rfl, rfl⟩ := z0
  subst e8' e7 e6 e5 e4 e3 e2 e1
  rfl

theorem dig_top {n : Nat} (h : Dig 6 16 16 n) : n / 16 ^ 15 ≤ 6 := by
  have key : ∀ (k : Nat) {y : Nat}, Dig 6 16 (k + 1) y → y / 16 ^ k ≤ 6 := by
    intro k
    induction k with
    | zero =>
      intro y ⟨d, r, h1, h2, h3⟩
      have e : r = 0 := h2
      subst e; rw [h3]; simpa using h1
    | succ k ih =>
      intro y ⟨d, r, h1, h2, h3⟩
      have := ih h2
      rw [Nat.pow_succ, Nat.mul_comm, ← Nat.div_div_eq_div_mul, div_of h3 (by omega)]
      exact this
  exact key 15 h

/-! The seven steps, as the walk spells them. -/
def s1 (x : Int) : Int := IntKind.u64.wrap (bits .and .u64 (x / 2) 6148914691236517205 + bits .and .u64 x 6148914691236517205)
def s2 (x : Int) : Int := IntKind.u64.wrap (bits .and .u64 (x / 4) 3689348814741910323 + bits .and .u64 x 3689348814741910323)
def s3 (x : Int) : Int := bits .and .u64 (IntKind.u64.wrap (x / 16 + x)) 1085102592571150095
def s4 (x : Int) : Int := IntKind.u64.wrap (x + x / 256)
def s5 (x : Int) : Int := IntKind.u64.wrap (x + x / 65536)
def s6 (x : Int) : Int := IntKind.u64.wrap (x + x / 4294967296)
theorem wrap_small {n : Nat} (h : n < 18446744073709551616) : IntKind.u64.wrap (n : Int) = (n : Int) := by
  rw [IntKind.wrap_u64]; omega
theorem s1_nat (n : Nat) (h : n < 18446744073709551616) : ∃ m : Nat, s1 n = m ∧ m < 18446744073709551616 ∧ (m = 0 → n = 0) := by
  refine ⟨(n / 2 &&& 6148914691236517205) + (n &&& 6148914691236517205), ?_, ?_, fun h0 => ?_⟩
  · have l1 : n / 2 &&& 6148914691236517205 ≤ 6148914691236517205 := Nat.and_le_right
    have l2 : n &&& 6148914691236517205 ≤ 6148914691236517205 := Nat.and_le_right
    unfold s1
    rw [show ((n : Int) / 2) = ((n / 2 : Nat) : Int) by omega, show (6148914691236517205 : Int) = ((6148914691236517205 : Nat) : Int) from rfl, u64_and_nat _ _ (by omega) (by omega), u64_and_nat _ _ h (by omega), ← Int.natCast_add]
    exact wrap_small (by omega)
  · have l1 : n / 2 &&& 6148914691236517205 ≤ 6148914691236517205 := Nat.and_le_right
    have l2 : n &&& 6148914691236517205 ≤ 6148914691236517205 := Nat.and_le_right
    omega
  · have z1 : n / 2 &&& 6148914691236517205 = 0 := by omega
    have z2 : n &&& 6148914691236517205 = 0 := by omega
    rw [← m0_eq] at z1 z2
    exact pair_zero 1 32 n (by simpa using h) (by simpa using z1) (by simpa using z2)
theorem s2_nat (n : Nat) (h : n < 18446744073709551616) : ∃ m : Nat, s2 n = m ∧ Dig 6 16 16 m ∧ (m = 0 → n = 0) := by
  have l1 : n / 4 &&& 3689348814741910323 ≤ 3689348814741910323 := Nat.and_le_right
  have l2 : n &&& 3689348814741910323 ≤ 3689348814741910323 := Nat.and_le_right
  refine ⟨(n / 4 &&& 3689348814741910323) + (n &&& 3689348814741910323), ?_, ?_, fun h0 => ?_⟩
  · unfold s2
    rw [show ((n : Int) / 4) = ((n / 4 : Nat) : Int) by omega, show (3689348814741910323 : Int) = ((3689348814741910323 : Nat) : Int) from rfl, u64_and_nat _ _ (by omega) (by omega), u64_and_nat _ _ h (by omega), ← Int.natCast_add]
    exact wrap_small (by omega)
  · rw [← m1_eq]
    exact Dig.add (dig_mask (w := 4) (m := 3) (c := 3) (by decide) (fun x => Nat.and_le_right) 16 _) (dig_mask (w := 4) (m := 3) (c := 3) (by decide) (fun x => Nat.and_le_right) 16 _)
  · have z1 : n / 4 &&& 3689348814741910323 = 0 := by omega
    have z2 : n &&& 3689348814741910323 = 0 := by omega
    rw [← m1_eq] at z1 z2
    exact pair_zero 2 16 n (by simpa using h) (by simpa using z1) (by simpa using z2)
theorem s3_nat (n : Nat) (h : Dig 6 16 16 n) : ∃ m : Nat, s3 n = m ∧ Dig 15 256 8 m ∧ m ≤ 1085102592571150095 ∧ (m = 0 → n = 0) := by
  have hl : n < 8070450532247928832 := by
    obtain ⟨a, r, ha, hr, e⟩ := (show Dig 6 16 (15 + 1) n from h)
    have := hr.lt (by omega)
    have e15 : (16 : Nat) ^ 15 = 1152921504606846976 := by decide
    obtain ⟨c, q, hc, hq, e'⟩ : ∃ c q, c ≤ 6 ∧ q < 16 ^ 15 ∧ n = q + 16 ^ 15 * c := ⟨n / 16 ^ 15, n % 16 ^ 15, dig_top h, Nat.mod_lt _ (by omega), by have := Nat.mod_add_div n (16 ^ 15); omega⟩
    omega
  refine ⟨(n + n / 16) &&& 1085102592571150095, ?_, ?_, Nat.and_le_right, fun h0 => ?_⟩
  · unfold s3
    rw [show ((n : Int) / 16 + n) = ((n + n / 16 : Nat) : Int) by omega, wrap_small (by omega), show (1085102592571150095 : Int) = ((1085102592571150095 : Nat) : Int) from rfl, u64_and_nat _ _ (by omega) (by omega)]
  · rw [← m2_eq]
    exact dig_mask (w := 8) (m := 15) (c := 15) (by decide) (fun x => Nat.and_le_right) 8 _
  · rw [← m2_eq] at h0
    exact fold_zero 8 n h h0
def s7 (x : Int) : Int := bits .and .i64 (wrap64 x) 127
/-- What math/bits.OnesCount64 answers. -/
def ones (x : Int) : Int := s7 (s6 (s5 (s4 (s3 (s2 (s1 x))))))
theorem ones_bd (x : Int) : 0 ≤ ones x ∧ ones x ≤ 127 := by
  unfold ones s7
  rw [i64_and127]
  omega
theorem wrap64_mod (z : Int) : wrap64 z % 128 = z % 128 := by unfold wrap64; omega
theorem s4_nat (c : Nat) (h : c ≤ 1085102592571150095) : s4 c = ((c + c / 256 : Nat) : Int) := by
  unfold s4; rw [show ((c : Int) + c / 256) = ((c + c / 256 : Nat) : Int) by omega]; exact wrap_small (by omega)
theorem s5_nat (c : Nat) (h : c ≤ 2170205185142300190) : s5 c = ((c + c / 65536 : Nat) : Int) := by
  unfold s5; rw [show ((c : Int) + c / 65536) = ((c + c / 65536 : Nat) : Int) by omega]; exact wrap_small (by omega)
theorem s6_nat (c : Nat) (h : c ≤ 4340410370284600380) : s6 c = ((c + c / 4294967296 : Nat) : Int) := by
  unfold s6; rw [show ((c : Int) + c / 4294967296) = ((c + c / 4294967296 : Nat) : Int) by omega]; exact wrap_small (by omega)
theorem s7_nat (c : Nat) : s7 c = ((c % 128 : Nat) : Int) := by
  unfold s7; rw [i64_and127, wrap64_mod]; omega
theorem tail_zero (c : Nat) (hc : Dig 15 256 8 c) (hcl : c ≤ 1085102592571150095) (h : s7 (s6 (s5 (s4 c))) = 0) : c = 0 := by
  have l1 : c / 256 ≤ c := Nat.div_le_self _ _
  rw [s4_nat c hcl] at h
  have l2 : (c + c / 256) / 65536 ≤ c + c / 256 := Nat.div_le_self _ _
  rw [s5_nat _ (by omega)] at h
  rw [s6_nat _ (by omega), s7_nat] at h
  exact bytes_sum c hc (Int.ofNat.inj h)
theorem ones_zero (x : Int) (h0 : 0 ≤ x) (h1 : x ≤ 18446744073709551615) (h : ones x = 0) : x = 0 := by
  obtain ⟨n, rfl⟩ : ∃ n : Nat, x = n := ⟨x.toNat, by omega⟩
  obtain ⟨a, ea, ha, za⟩ := s1_nat n (by omega)
  obtain ⟨b, eb, hb, zb⟩ := s2_nat a ha
  obtain ⟨c, ec, hc, hcl, zc⟩ := s3_nat b hb
  unfold ones at h
  rw [ea, eb, ec] at h
  rw [za (zb (zc (tail_zero c hc hcl h)))]
  rfl
end Go.Proofs.Ybulkdcnu
