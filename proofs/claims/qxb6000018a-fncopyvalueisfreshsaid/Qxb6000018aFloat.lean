import Ieee.Arith
import Derived.Laws.Cover2
import Derived.Laws.FloatArith
namespace Go.Proofs.Qxb6000018a.Fl
open Ieee

theorem dB : Ieee.double.binade = 4503599627370496 := by decide +kernel
theorem dL : Ieee.double.leastPlace = -1074 := by decide +kernel
theorem dI : Ieee.double.infRung = 2047 * 4503599627370496 := by decide +kernel
theorem dS : Ieee.double.signWeight = 2048 * 4503599627370496 := by decide +kernel
theorem dF : Ieee.double.fractionBits = 52 := rfl

/-- What rounding keeps: at least the floor, at most one more; the floor itself where nothing is dropped. -/
theorem cut_bounds (n drop : Nat) (h : drop ≤ n.log2 + 2) :
    n / 2 ^ drop ≤ Toward.even.cut false n drop ∧ Toward.even.cut false n drop ≤ n / 2 ^ drop + 1 ∧ (n % 2 ^ drop = 0 → Toward.even.cut false n drop = n / 2 ^ drop) := by
  unfold Toward.cut
  simp only [Nat.min_eq_left h, Nat.one_shiftLeft]
  refine ⟨Nat.le_add_right _ _, ?_, ?_⟩
  · have := Bool.toNat_le (decide (2 ^ drop < 2 * (n % 2 ^ drop)) || (2 ^ drop == 2 * (n % 2 ^ drop) && n / 2 ^ drop % 2 == 1))
    omega
  · intro hz
    have hp : 0 < 2 ^ drop := Nat.two_pow_pos _
    rw [hz]
    have h1 : ¬ (2 ^ drop < 2 * 0) := by omega
    have h2 : (2 ^ drop == 2 * 0) = false := by rw [beq_eq_false_iff_ne]; omega
    simp [h2]

theorem log2_bounds (n : Nat) (h : 0 < n) : 2 ^ n.log2 ≤ n ∧ n < 2 ^ (n.log2 + 1) :=
  ⟨Nat.log2_self_le (by omega), Nat.lt_log2_self⟩

/-- The word nearest to a number in the normal range. -/
theorem near (mag : Nat) (place : Int) (hm : 0 < mag) (h1 : -1074 ≤ place + mag.log2 - 52) (h2 : place + mag.log2 - 52 ≤ 900) :
    ∃ kept : Nat, Ieee.double.nearest false mag place = (place + mag.log2 - 52 + 1074).toNat * 4503599627370496 + kept ∧ 4503599627370496 ≤ kept ∧ kept ≤ 9007199254740992
      ∧ (52 ≤ mag.log2 → mag / 2 ^ (mag.log2 - 52) ≤ kept) ∧ (52 ≤ mag.log2 → mag % 2 ^ (mag.log2 - 52) = 0 → kept = mag / 2 ^ (mag.log2 - 52)) := by
  have hb := log2_bounds mag hm
  generalize hL : mag.log2 = L at *
  have hlast : max (place + (L : Int) - (52 : Nat)) (-1074) = place + L - 52 := by omega
  have key : ∀ kept : Nat, kept ≤ 9007199254740992 → min ((place + (L : Int) - 52 - -1074).toNat * 4503599627370496 + kept) (2047 * 4503599627370496) = (place + L - 52 + 1074).toNat * 4503599627370496 + kept := by
    intro kept hk; omega
  by_cases hc : 52 ≤ L
  · have e1 : (place - (place + (L : Int) - 52)).toNat = 0 := by omega
    have e2 : ((place + (L : Int) - 52) - place).toNat = L - 52 := by omega
    obtain ⟨c1, c2, c3⟩ := cut_bounds mag (L - 52) (by omega)
    have hpow : 2 ^ L = 2 ^ (L - 52) * 4503599627370496 := by
      rw [show (4503599627370496 : Nat) = 2 ^ 52 from by decide, ← Nat.pow_add]; congr 1; omega
    have hpow1 : 2 ^ (L + 1) = 2 ^ (L - 52) * 9007199254740992 := by
      rw [show (9007199254740992 : Nat) = 2 ^ 53 from by decide, ← Nat.pow_add]; congr 1; omega
    have hp : 0 < 2 ^ (L - 52) := Nat.two_pow_pos _
    have l1 : 4503599627370496 ≤ mag / 2 ^ (L - 52) := by
      rw [Nat.le_div_iff_mul_le hp, Nat.mul_comm]; omega
    have l2 : mag / 2 ^ (L - 52) < 9007199254740992 := by
      rw [Nat.div_lt_iff_lt_mul hp, Nat.mul_comm]; omega
    refine ⟨Toward.even.cut false mag (L - 52), ?_, by omega, by omega, fun _ => c1, fun _ => c3⟩
    unfold Format.nearest
    rw [if_neg (by omega), hL]
    simp only [dB, dL, dI, dF, hlast, Format.word]
    rw [e1, e2, Nat.shiftLeft_zero, key _ (by omega)]
    simp
  · have e1 : (place - (place + (L : Int) - 52)).toNat = 52 - L := by omega
    have e2 : ((place + (L : Int) - 52) - place).toNat = 0 := by omega
    obtain ⟨c1, c2, c3⟩ := cut_bounds (mag <<< (52 - L)) 0 (by omega)
    have c4 := c3 (by simp [Nat.mod_one])
    rw [Nat.pow_zero, Nat.div_one, Nat.shiftLeft_eq] at c4
    have l1 : 4503599627370496 ≤ mag * 2 ^ (52 - L) := by
      calc (4503599627370496 : Nat) = 2 ^ L * 2 ^ (52 - L) := by
              rw [← Nat.pow_add, show L + (52 - L) = 52 from by omega]
        _ ≤ _ := Nat.mul_le_mul_right _ hb.1
    have l2 : mag * 2 ^ (52 - L) < 9007199254740992 := by
      calc mag * 2 ^ (52 - L) < 2 ^ (L + 1) * 2 ^ (52 - L) := Nat.mul_lt_mul_of_pos_right hb.2 (Nat.two_pow_pos _)
        _ = 9007199254740992 := by rw [← Nat.pow_add, show L + 1 + (52 - L) = 53 from by omega]
    refine ⟨mag * 2 ^ (52 - L), ?_, by omega, by omega, fun h => absurd h hc, fun h => absurd h hc⟩
    unfold Format.nearest
    rw [if_neg (by omega), hL]
    simp only [dB, dL, dI, dF, hlast, Format.word]
    rw [e1, e2, Nat.shiftLeft_eq, c4, key _ (by omega)]
    simp

/-- A word in the normal range, read. -/
theorem read_normal (e kept : Nat) (he : e ≤ 2000) (h1 : 4503599627370496 ≤ kept) (h2 : kept ≤ 9007199254740992) :
    ∃ (A : Nat) (i : Int), Ieee.double.read (e * 4503599627370496 + kept) = .number false A i ∧ 4503599627370496 ≤ A ∧ A < 9007199254740992 ∧ -1074 ≤ i
      ∧ (e : Int) - 1074 ≤ i ∧ i ≤ (e : Int) - 1073 ∧ (e * 4503599627370496 + kept : Int) = (i + 1074) * 4503599627370496 + A := by
  have hw : e * 4503599627370496 + kept < 2047 * 4503599627370496 := by omega
  have hneg : ((e * 4503599627370496 + kept) / (2048 * 4503599627370496) % 2 == 1) = false := by
    rw [Nat.div_eq_of_lt (by omega)]; rfl
  have hmod : (e * 4503599627370496 + kept) % (2048 * 4503599627370496) = e * 4503599627370496 + kept := Nat.mod_eq_of_lt (by omega)
  refine ⟨4503599627370496 + (e * 4503599627370496 + kept) % 4503599627370496, -1074 + (((e * 4503599627370496 + kept) / 4503599627370496 - 1 : Nat) : Int), ?_, ?_, ?_, ?_, ?_, ?_, ?_⟩
  · unfold Format.read
    simp only [dB, dL, dI, dS]
    rw [hneg, hmod, if_neg (by omega), if_pos (by omega)]
  all_goals omega

def fInt (n : Nat) : Nat := Ieee.double.nearest false n 0

/-- A normal number's word and its reading. -/
structure Norm (x : Nat) (A : Nat) (i : Int) : Prop where
  read : Ieee.double.read x = .number false A i
  lo : 4503599627370496 ≤ A
  hi : A < 9007199254740992
  word : (x : Int) = (i + 1074) * 4503599627370496 + A
  least : -1074 ≤ i

theorem norm_of_near (mag : Nat) (place : Int) (hm : 0 < mag) (h1 : -1074 ≤ place + mag.log2 - 52) (h2 : place + mag.log2 - 52 ≤ 900) :
    ∃ A i, Norm (Ieee.double.nearest false mag place) A i ∧ place + mag.log2 - 52 ≤ i ∧ i ≤ place + mag.log2 - 51 := by
  obtain ⟨kept, e, k1, k2, _, _⟩ := near mag place hm h1 h2
  obtain ⟨A, i, r, a1, a2, a3, a4, a5, a6⟩ := read_normal (place + mag.log2 - 52 + 1074).toNat kept (by omega) k1 k2
  refine ⟨A, i, ⟨by rw [e]; exact r, a1, a2, by rw [e]; omega, a3⟩, by omega, by omega⟩

theorem log2_of {n k : Nat} (h1 : 2 ^ k ≤ n) (h2 : n < 2 ^ (k + 1)) : n.log2 = k := by
  have hn : n ≠ 0 := by have := Nat.two_pow_pos k; omega
  rw [Nat.log2_eq_iff hn]; exact ⟨h1, h2⟩

theorem log2_norm {A : Nat} (lo : 4503599627370496 ≤ A) (hi : A < 9007199254740992) : A.log2 = 52 := log2_of (by omega) (by omega)

theorem fInt_zero : fInt 0 = 0 := by decide +kernel
theorem read_zero : Ieee.double.read 0 = .number false 0 (-1074) := by decide +kernel
theorem read_one : Ieee.double.read 4607182418800017408 = .number false 4503599627370496 (-52) := by decide +kernel

theorem fInt_norm (n : Nat) (h : 0 < n) (h64 : n < 18446744073709551616) : ∃ A i, Norm (fInt n) A i ∧ -52 ≤ i ∧ i ≤ 12 := by
  have hb := log2_bounds n h
  have hL : n.log2 < 64 := by
    rw [Nat.log2_lt (by omega)]; omega
  obtain ⟨A, i, hn, h1, h2⟩ := norm_of_near n 0 h (by omega) (by omega)
  exact ⟨A, i, hn, by omega, by omega⟩

theorem signed_pos (m up : Nat) : signed false m up = ((m * 2 ^ up : Nat) : Int) := by
  unfold signed; simp [Nat.shiftLeft_eq]

theorem sum_pos (A B : Nat) (i j : Int) (h : 0 < A * 2 ^ (i - min i j).toNat + B * 2 ^ (j - min i j).toNat) :
    Datum.sum (.number false A i) (.number false B j) = some (.number false (A * 2 ^ (i - min i j).toNat + B * 2 ^ (j - min i j).toNat) (min i j)) := by
  generalize hx : A * 2 ^ (i - min i j).toNat = x at *
  generalize hy : B * 2 ^ (j - min i j).toNat = y at *
  unfold Datum.sum
  simp only [signed_pos, hx, hy]
  have e : ((x : Nat) : Int) + ((y : Nat) : Int) = ((x + y : Nat) : Int) := by omega
  rw [e, if_neg (by omega)]
  have hn : decide (((x + y : Nat) : Int) < 0) = false := by simp; omega
  rw [hn, Int.natAbs_natCast]

/-- The sum of two normal numbers: a normal number, not below the first. -/
theorem add_norm {x y A B : Nat} {i j : Int} (hx : Norm x A i) (hy : Norm y B j) (i1 : -52 ≤ i) (i2 : i ≤ 12) (j1 : -52 ≤ j) (j2 : j ≤ 12) :
    ∃ s S k, Ieee.double.add x y = some s ∧ Norm s S k ∧ k ≤ 14 ∧ x ≤ s := by
  have hA := hx.lo
  have hA2 := hx.hi
  have hB := hy.lo
  have hB2 := hy.hi
  let base := min i j
  have hbase : base = min i j := rfl
  clear_value base
  let p := (i - base).toNat
  have hp : p = (i - base).toNat := rfl
  clear_value p
  let q := (j - base).toNat
  have hq : q = (j - base).toNat := rfl
  clear_value q
  have hP : 0 < 2 ^ p := Nat.two_pow_pos _
  have hQ : 0 < 2 ^ q := Nat.two_pow_pos _
  have g1 : 4503599627370496 * 2 ^ p ≤ A * 2 ^ p := Nat.mul_le_mul_right _ hA
  have hs := sum_pos A B i j (by rw [← hbase, ← hp, ← hq]; omega)
  rw [← hbase, ← hp, ← hq] at hs
  have hpos : 0 < A * 2 ^ p + B * 2 ^ q := by omega
  have hfloor : ∀ d, d = p → A ≤ (A * 2 ^ p + B * 2 ^ q) / 2 ^ d := by
    intro d hd
    rw [hd, Nat.le_div_iff_mul_le hP]; omega
  have hlow : p + 52 ≤ (A * 2 ^ p + B * 2 ^ q).log2 := by
    rw [Nat.le_log2 (by omega), Nat.pow_add, Nat.mul_comm]; omega
  have hup : (A * 2 ^ p + B * 2 ^ q).log2 < 54 + max p q := by
    rw [Nat.log2_lt (by omega)]
    have m1 : 2 ^ p ≤ 2 ^ max p q := Nat.pow_le_pow_right (by omega) (by omega)
    have m2 : 2 ^ q ≤ 2 ^ max p q := Nat.pow_le_pow_right (by omega) (by omega)
    have n1 : A * 2 ^ p < 9007199254740992 * 2 ^ max p q := Nat.mul_lt_mul_of_lt_of_le hA2 m1 (Nat.two_pow_pos _)
    have n2 : B * 2 ^ q < 9007199254740992 * 2 ^ max p q := Nat.mul_lt_mul_of_lt_of_le hB2 m2 (Nat.two_pow_pos _)
    rw [Nat.pow_add]; omega
  generalize hT : A * 2 ^ p + B * 2 ^ q = T at *
  obtain ⟨kept, e, k1, k2, k3, _⟩ := near T base hpos (by omega) (by omega)
  obtain ⟨S, k, hn, b1, b2⟩ := norm_of_near T base hpos (by omega) (by omega)
  refine ⟨Ieee.double.nearest false T base, S, k, ?_, hn, by omega, ?_⟩
  · unfold Format.add
    rw [hx.read, hy.read, hs]; rfl
  · have hw := hx.word
    rw [e]
    have k4 := k3 (by omega)
    by_cases hc : base + (T.log2 : Int) - 52 = i
    · have := hfloor (T.log2 - 52) (by omega)
      omega
    · omega

/-- x + 0 is x. -/
theorem add_zero {x A : Nat} {i : Int} (hx : Norm x A i) (i2 : i ≤ 12) : Ieee.double.add x 0 = some x := by
  have hA := hx.lo
  have hA2 := hx.hi
  have hl := hx.least
  let p := (i + 1074).toNat
  have hp : p = (i + 1074).toNat := rfl
  clear_value p
  have hP : 0 < 2 ^ p := Nat.two_pow_pos _
  have hm : min i (-1074) = -1074 := by omega
  have g1 : 4503599627370496 * 2 ^ p ≤ A * 2 ^ p := Nat.mul_le_mul_right _ hA
  have g2 : A * 2 ^ p < 9007199254740992 * 2 ^ p := Nat.mul_lt_mul_of_pos_right hA2 hP
  have hs := sum_pos A 0 i (-1074) (by rw [hm, show (i - -1074).toNat = p from by omega]; omega)
  rw [hm, show (i - -1074).toNat = p from by omega, Nat.zero_mul, Nat.add_zero] at hs
  have hlog : (A * 2 ^ p).log2 = p + 52 := log2_of (by rw [Nat.pow_add, Nat.mul_comm]; omega) (by rw [show p + 52 + 1 = p + 53 from rfl, Nat.pow_add]; omega)
  obtain ⟨kept, e, k1, k2, _, k4⟩ := near (A * 2 ^ p) (-1074) (by omega) (by omega) (by omega)
  have k5 := k4 (by omega) (by rw [hlog, show p + 52 - 52 = p from by omega]; exact Nat.mul_mod_left _ _)
  rw [hlog, show p + 52 - 52 = p from by omega, Nat.mul_div_cancel _ hP] at k5
  unfold Format.add
  rw [hx.read, read_zero, hs]
  show some (Ieee.double.nearest false (A * 2 ^ p) (-1074)) = some x
  rw [e]
  have hw := hx.word
  congr 1
  omega

/-- 0 + y is not zero. -/
theorem zero_add {y B : Nat} {j : Int} (hy : Norm y B j) (j2 : j ≤ 12) : ∃ s S k, Ieee.double.add 0 y = some s ∧ Norm s S k := by
  have hA := hy.lo
  have hA2 := hy.hi
  have hl := hy.least
  let p := (j + 1074).toNat
  have hp : p = (j + 1074).toNat := rfl
  clear_value p
  have hP : 0 < 2 ^ p := Nat.two_pow_pos _
  have hm : min (-1074) j = -1074 := by omega
  have g1 : 4503599627370496 * 2 ^ p ≤ B * 2 ^ p := Nat.mul_le_mul_right _ hA
  have g2 : B * 2 ^ p < 9007199254740992 * 2 ^ p := Nat.mul_lt_mul_of_pos_right hA2 hP
  have hs := sum_pos 0 B (-1074) j (by rw [hm, show (j - -1074).toNat = p from by omega]; omega)
  rw [hm, show (j - -1074).toNat = p from by omega, Nat.zero_mul, Nat.zero_add] at hs
  have hlog : (B * 2 ^ p).log2 = p + 52 := log2_of (by rw [Nat.pow_add, Nat.mul_comm]; omega) (by rw [show p + 52 + 1 = p + 53 from rfl, Nat.pow_add]; omega)
  obtain ⟨S, k, hn, _, _⟩ := norm_of_near (B * 2 ^ p) (-1074) (by omega) (by omega) (by omega)
  refine ⟨_, S, k, ?_, hn⟩
  unfold Format.add
  rw [hy.read, read_zero, hs]; rfl

/-- 0 / s is 0. -/
theorem zero_div {s S : Nat} {k : Int} (hs : Norm s S k) : Ieee.double.div 0 s = some 0 := by
  have h := hs.lo
  unfold Format.div
  rw [hs.read, read_zero]
  simp only [Datum.quotient]
  rw [if_neg (by omega)]
  simp [Format.write, Format.nearest, Format.word]

/-- x / x is 1. -/
theorem self_div {x A : Nat} {i : Int} (hx : Norm x A i) : Ieee.double.div x x = some 4607182418800017408 := by
  have h := hx.lo
  have hl := log2_norm hx.lo hx.hi
  unfold Format.div
  rw [hx.read]
  simp only [Datum.quotient]
  rw [if_neg (by omega), hl, dF]
  have e1 : A <<< (52 + 2 + 52 - 52) = 18014398509481984 * A := by rw [Nat.shiftLeft_eq, Nat.mul_comm]
  rw [e1, Nat.mul_div_cancel _ (by omega : 0 < A), Nat.mul_mod_left]
  have e2 : i - i - ((52 + 2 + 52 - 52 : Nat) : Int) - 1 = -55 := by omega
  rw [e2]
  have e3 : (false ^^ false) = false := rfl
  rw [e3]
  show some (Ieee.double.nearest false (2 * 18014398509481984 + ((0 : Nat) != 0).toNat) (-55)) = _
  decide +kernel

/-- x / s where x ≤ s: a normal number, at most 1. -/
theorem div_norm {x s A S : Nat} {i k : Int} (hx : Norm x A i) (hs : Norm s S k) (hle : x ≤ s) (i1 : -52 ≤ i) (k2 : k ≤ 14) :
    ∃ r R l, Ieee.double.div x s = some r ∧ Norm r R l ∧ r ≤ 4607182418800017408 := by
  have hA := hx.lo
  have hA2 := hx.hi
  have hS := hs.lo
  have hS2 := hs.hi
  have lA := log2_norm hA hA2
  have lS := log2_norm hS hS2
  have wx := hx.word
  have ws := hs.word
  have hlex : i < k ∨ (i = k ∧ A ≤ S) := by omega
  have e1 : A <<< (52 + 2 + 52 - 52) = 18014398509481984 * A := by rw [Nat.shiftLeft_eq, Nat.mul_comm]
  let q := 18014398509481984 * A / S
  have hq : 18014398509481984 * A / S = q := rfl
  clear_value q
  let t := (18014398509481984 * A % S != 0).toNat
  have ht : (18014398509481984 * A % S != 0).toNat = t := rfl
  clear_value t
  have ht1 : t ≤ 1 := by rw [← ht]; exact Bool.toNat_le _
  have q1 : 9007199254740992 ≤ q := by
    rw [← hq, Nat.le_div_iff_mul_le (by omega)]; omega
  have q2 : q < 36028797018963968 := by
    rw [← hq, Nat.div_lt_iff_lt_mul (by omega)]; omega
  have q3 : A < S → q < 18014398509481984 := by
    intro h; rw [← hq, Nat.div_lt_iff_lt_mul (by omega)]; omega
  have hdiv : Ieee.double.div x s = some (Ieee.double.nearest false (2 * q + t) (i - k - 55)) := by
    unfold Format.div
    rw [hx.read, hs.read]
    simp only [Datum.quotient]
    rw [if_neg (by omega), lA, lS, dF, e1, hq, ht]
    have e2 : i - k - ((52 + 2 + 52 - 52 : Nat) : Int) - 1 = i - k - 55 := by omega
    rw [e2]; rfl
  by_cases heq : i = k ∧ A = S
  · obtain ⟨rfl, rfl⟩ := heq
    have hxs : x = s := by omega
    subst hxs
    refine ⟨4607182418800017408, 4503599627370496, -52, self_div hx, ⟨read_one, by omega, by omega, by omega, by omega⟩, by omega⟩
  · have l1 : 54 ≤ (2 * q + t).log2 := by rw [Nat.le_log2 (by omega)]; omega
    have l2 : (2 * q + t).log2 < 56 := by rw [Nat.log2_lt (by omega)]; omega
    have l3 : i = k → (2 * q + t).log2 < 55 := by
      intro h; have := q3 (by omega); rw [Nat.log2_lt (by omega)]; omega
    obtain ⟨kept, e, k1, k2', _, _⟩ := near (2 * q + t) (i - k - 55) (by omega) (by omega) (by omega)
    obtain ⟨R, l, hn, _, _⟩ := norm_of_near (2 * q + t) (i - k - 55) (by omega) (by omega) (by omega)
    refine ⟨_, R, l, hdiv, hn, ?_⟩
    rw [e]
    by_cases hik : i = k
    · have := l3 hik; omega
    · omega

/-! What the law asks of the quotient. -/
structure Good (h m r : Nat) : Prop where
  refl : Ieee.double.order r r = some .eq
  notNeg : Ieee.double.order r 0 = some (if h = 0 then .eq else .gt)
  le1 : Ieee.double.order r 4607182418800017408 ≠ some .gt
  one : m = 0 → 0 < h → Ieee.double.order r 4607182418800017408 = some .eq

theorem order_self {r R : Nat} {l : Int} (h : Ieee.double.read r = .number false R l) : Ieee.double.order r r = some .eq := by
  unfold Format.order
  rw [h]
  simp [Datum.order]

theorem order_norm_zero {r R : Nat} {l : Int} (h : Norm r R l) : Ieee.double.order r 0 = some .gt := by
  unfold Format.order
  rw [h.read, read_zero]
  have := h.lo
  simp only [Datum.order, signed_pos, Nat.zero_mul]
  have hp : 0 < 2 ^ (l - min l (-1074)).toNat := Nat.two_pow_pos _
  have : 0 < R * 2 ^ (l - min l (-1074)).toNat := Nat.mul_pos (by omega) hp
  rw [show compare ((R * 2 ^ (l - min l (-1074)).toNat : Nat) : Int) ((0 : Nat) : Int) = Ordering.gt from by rw [Int.compare_eq_gt]; omega]

theorem order_norm_one {r R : Nat} {l : Int} (h : Norm r R l) (hle : r ≤ 4607182418800017408) : Ieee.double.order r 4607182418800017408 ≠ some .gt := by
  unfold Format.order
  rw [h.read, read_one]
  have hw := h.word
  have h1 := h.lo
  have h2 := h.hi
  simp only [Datum.order, signed_pos]
  intro hc
  have hc := Option.some.inj hc
  rw [Int.compare_eq_gt] at hc
  have hl : l ≤ -52 := by omega
  rw [show min l (-52) = l from by omega, show (l - l).toNat = 0 from by omega, Nat.pow_zero, Nat.mul_one] at hc
  by_cases he : l = -52
  · subst he
    have : R = 4503599627370496 := by omega
    subst this
    simp at hc
  · have : 2 ≤ 2 ^ (-52 - l).toNat := by
      calc 2 = 2 ^ 1 := rfl
        _ ≤ _ := Nat.pow_le_pow_right (by omega) (by omega)
    have : 4503599627370496 * 2 ≤ 4503599627370496 * 2 ^ (-52 - l).toNat := Nat.mul_le_mul_left _ this
    omega

/-- THE PLAIN LAW: hits and misses not both nought: the sum and the quotient have an answer, and it is good. -/
theorem rate (h m : Nat) (hh : h < 18446744073709551616) (hm : m < 18446744073709551616) (hne : ¬ (h = 0 ∧ m = 0)) :
    ∃ s r, Ieee.double.add (fInt h) (fInt m) = some s ∧ Ieee.double.div (fInt h) s = some r ∧ Good h m r := by
  by_cases h0 : h = 0
  · subst h0
    obtain ⟨B, j, hB, _, j2⟩ := fInt_norm m (by omega) hm
    rw [fInt_zero]
    obtain ⟨s, S, k, hadd, hs⟩ := zero_add hB j2
    refine ⟨s, 0, hadd, zero_div hs, ⟨order_self read_zero, by rw [if_pos rfl]; exact order_self read_zero, by decide +kernel, fun _ h => by omega⟩⟩
  · obtain ⟨A, i, hA, i1, i2⟩ := fInt_norm h (by omega) hh
    by_cases m0 : m = 0
    · subst m0
      rw [fInt_zero]
      refine ⟨fInt h, _, add_zero hA i2, self_div hA, ⟨order_self read_one, by rw [if_neg h0]; decide +kernel, by decide +kernel, fun _ _ => by decide +kernel⟩⟩
    · obtain ⟨B, j, hB, j1, j2⟩ := fInt_norm m (by omega) hm
      obtain ⟨s, S, k, hadd, hs, k2, hle⟩ := add_norm hA hB i1 i2 j1 j2
      obtain ⟨r, R, l, hdiv, hr, hr1⟩ := div_norm hA hs hle i1 k2
      exact ⟨s, r, hadd, hdiv, ⟨order_self hr.read, by rw [if_neg h0]; exact order_norm_zero hr, order_norm_one hr hr1, fun h _ => absurd h m0⟩⟩

end Go.Proofs.Qxb6000018a.Fl
