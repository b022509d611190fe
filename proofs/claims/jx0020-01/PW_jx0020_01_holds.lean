import PyProof.Rows.All
import Wide.All
import OpenK.AllK
import Wide.FinOn
import PySem.Challenge.RW_jx0020_01
/-! jx0020-01. First the plain law (a field of Q elements, the group of the curve, primes by Pocklington, what the spec functions stand for), then the walk (a contract a function), joined at the end. -/
namespace Mine
/-- four ints, as the program's extended points -/
structure V4 where
  x : Int
  y : Int
  z : Int
  t : Int
structure V3 where
  x : Int
  y : Int
  z : Int
@[irreducible] noncomputable def dblV (p : V4) : V4 :=
  let A := p.x * p.x
  let B := p.y * p.y
  let C := 2 * p.z * p.z
  let D := (-A).fmod 57896044618658097711785492504343953926634992332820282019728792003956564819949
  let J := (p.x + p.y).fmod 57896044618658097711785492504343953926634992332820282019728792003956564819949
  let E := (J * J - A - B).fmod 57896044618658097711785492504343953926634992332820282019728792003956564819949
  let G := (D + B).fmod 57896044618658097711785492504343953926634992332820282019728792003956564819949
  let F := (G - C).fmod 57896044618658097711785492504343953926634992332820282019728792003956564819949
  let H := (D - B).fmod 57896044618658097711785492504343953926634992332820282019728792003956564819949
  ⟨(E * F).fmod 57896044618658097711785492504343953926634992332820282019728792003956564819949,
   (G * H).fmod 57896044618658097711785492504343953926634992332820282019728792003956564819949,
   (F * G).fmod 57896044618658097711785492504343953926634992332820282019728792003956564819949,
   (E * H).fmod 57896044618658097711785492504343953926634992332820282019728792003956564819949⟩
def InQ (x : Int) : Prop := 0 ≤ x ∧ x < 57896044618658097711785492504343953926634992332820282019728792003956564819949
def V4.In (p : V4) : Prop := InQ p.x ∧ InQ p.y ∧ InQ p.z ∧ InQ p.t
theorem fmod_InQ (a : Int) : InQ (a.fmod 57896044618658097711785492504343953926634992332820282019728792003956564819949) := by
  constructor
  · exact Int.fmod_nonneg_of_pos a (by decide)
  · exact Int.fmod_lt_of_pos a (by decide)
theorem dblV_In (p : V4) : (dblV p).In := by
  unfold dblV
  exact ⟨fmod_InQ _, fmod_InQ _, fmod_InQ _, fmod_InQ _⟩

@[irreducible] noncomputable def addV (p q : V4) : V4 :=
  let A := ((p.y - p.x) * (q.y - q.x)).fmod 57896044618658097711785492504343953926634992332820282019728792003956564819949
  let B := ((p.y + p.x) * (q.y + q.x)).fmod 57896044618658097711785492504343953926634992332820282019728792003956564819949
  let C := (p.t * (2 * (-4513249062541557337682894930092624173785641285191125241628941591882900924598840740)) * q.t).fmod 57896044618658097711785492504343953926634992332820282019728792003956564819949
  let D := (p.z * 2 * q.z).fmod 57896044618658097711785492504343953926634992332820282019728792003956564819949
  let E := (B - A).fmod 57896044618658097711785492504343953926634992332820282019728792003956564819949
  let F := (D - C).fmod 57896044618658097711785492504343953926634992332820282019728792003956564819949
  let G := (D + C).fmod 57896044618658097711785492504343953926634992332820282019728792003956564819949
  let H := (B + A).fmod 57896044618658097711785492504343953926634992332820282019728792003956564819949
  ⟨(E * F).fmod 57896044618658097711785492504343953926634992332820282019728792003956564819949, (G * H).fmod 57896044618658097711785492504343953926634992332820282019728792003956564819949, (F * G).fmod 57896044618658097711785492504343953926634992332820282019728792003956564819949, (E * H).fmod 57896044618658097711785492504343953926634992332820282019728792003956564819949⟩
theorem addV_In (p q : V4) : (addV p q).In := by
  unfold addV
  exact ⟨fmod_InQ _, fmod_InQ _, fmod_InQ _, fmod_InQ _⟩
@[irreducible] noncomputable def nonV (p q : V4) : V4 :=
  let A := ((p.y - p.x) * (q.y + q.x)).fmod 57896044618658097711785492504343953926634992332820282019728792003956564819949
  let B := ((p.y + p.x) * (q.y - q.x)).fmod 57896044618658097711785492504343953926634992332820282019728792003956564819949
  let C := (p.z * 2 * q.t).fmod 57896044618658097711785492504343953926634992332820282019728792003956564819949
  let D := (p.t * 2 * q.z).fmod 57896044618658097711785492504343953926634992332820282019728792003956564819949
  let E := (D + C).fmod 57896044618658097711785492504343953926634992332820282019728792003956564819949
  let F := (B - A).fmod 57896044618658097711785492504343953926634992332820282019728792003956564819949
  let G := (B + A).fmod 57896044618658097711785492504343953926634992332820282019728792003956564819949
  let H := (D - C).fmod 57896044618658097711785492504343953926634992332820282019728792003956564819949
  ⟨(E * F).fmod 57896044618658097711785492504343953926634992332820282019728792003956564819949, (G * H).fmod 57896044618658097711785492504343953926634992332820282019728792003956564819949, (F * G).fmod 57896044618658097711785492504343953926634992332820282019728792003956564819949, (E * H).fmod 57896044618658097711785492504343953926634992332820282019728792003956564819949⟩
theorem nonV_In (p q : V4) : (nonV p q).In := by
  unfold nonV
  exact ⟨fmod_InQ _, fmod_InQ _, fmod_InQ _, fmod_InQ _⟩
def V3.In (p : V3) : Prop := InQ p.x ∧ InQ p.y ∧ InQ p.z
@[irreducible] noncomputable def sumV (p q : V3) : V3 :=
  let both := (p.z * q.z).fmod 57896044618658097711785492504343953926634992332820282019728792003956564819949
  let square := (both * both).fmod 57896044618658097711785492504343953926634992332820282019728792003956564819949
  let xx := (p.x * q.x).fmod 57896044618658097711785492504343953926634992332820282019728792003956564819949
  let yy := (p.y * q.y).fmod 57896044618658097711785492504343953926634992332820282019728792003956564819949
  let cross := (37095705934669439343138083508754565189542113879843219016388785533085940283555 * xx * yy).fmod 57896044618658097711785492504343953926634992332820282019728792003956564819949
  ⟨(both * (p.x * q.y + p.y * q.x) * (square - cross)).fmod 57896044618658097711785492504343953926634992332820282019728792003956564819949, (both * (yy + xx) * (square + cross)).fmod 57896044618658097711785492504343953926634992332820282019728792003956564819949, ((square - cross) * (square + cross)).fmod 57896044618658097711785492504343953926634992332820282019728792003956564819949⟩
theorem sumV_In (p q : V3) : (sumV p q).In := by
  unfold sumV
  exact ⟨fmod_InQ _, fmod_InQ _, fmod_InQ _⟩
@[irreducible] noncomputable def extV (p : V3) (scale : Int) : V4 :=
  ⟨(scale * p.x * p.z).fmod 57896044618658097711785492504343953926634992332820282019728792003956564819949, (scale * p.y * p.z).fmod 57896044618658097711785492504343953926634992332820282019728792003956564819949, (scale * p.z * p.z).fmod 57896044618658097711785492504343953926634992332820282019728792003956564819949, (scale * p.x * p.y).fmod 57896044618658097711785492504343953926634992332820282019728792003956564819949⟩
theorem extV_In (p : V3) (c : Int) : (extV p c).In := by
  unfold extV
  exact ⟨fmod_InQ _, fmod_InQ _, fmod_InQ _, fmod_InQ _⟩
@[irreducible] noncomputable def zeroV : V4 := ⟨0, 1, 1, 0⟩
theorem zeroV_In : zeroV.In := by
  unfold zeroV
  refine ⟨?_, ?_, ?_, ?_⟩ <;> exact ⟨by decide, by decide⟩

@[irreducible] noncomputable def slowV (p : V4) (n : Nat) : V4 :=
  if n = 0 then zeroV else if n % 2 = 1 then addV (dblV (slowV p (n / 2))) p else dblV (slowV p (n / 2))
termination_by n
decreasing_by all_goals omega
@[irreducible] noncomputable def seV (p : V4) (n : Nat) : V4 :=
  if n = 0 then zeroV else if n % 2 = 1 then nonV (dblV (seV p (n / 2))) p else dblV (seV p (n / 2))
termination_by n
decreasing_by all_goals omega
theorem slowV_zero (p : V4) : slowV p 0 = zeroV := by unfold slowV; rfl
theorem slowV_odd (p : V4) {n : Nat} (h0 : n ≠ 0) (h : n % 2 = 1) : slowV p n = addV (dblV (slowV p (n / 2))) p := by
  conv => lhs; unfold slowV
  rw [if_neg h0, if_pos h]
theorem slowV_even (p : V4) {n : Nat} (h0 : n ≠ 0) (h : n % 2 ≠ 1) : slowV p n = dblV (slowV p (n / 2)) := by
  conv => lhs; unfold slowV
  rw [if_neg h0, if_neg h]
theorem seV_zero (p : V4) : seV p 0 = zeroV := by unfold seV; rfl
theorem seV_odd (p : V4) {n : Nat} (h0 : n ≠ 0) (h : n % 2 = 1) : seV p n = nonV (dblV (seV p (n / 2))) p := by
  conv => lhs; unfold seV
  rw [if_neg h0, if_pos h]
theorem seV_even (p : V4) {n : Nat} (h0 : n ≠ 0) (h : n % 2 ≠ 1) : seV p n = dblV (seV p (n / 2)) := by
  conv => lhs; unfold seV
  rw [if_neg h0, if_neg h]
theorem slowV_In (p : V4) (n : Nat) : (slowV p n).In := by
  by_cases h0 : n = 0
  · subst h0; rw [slowV_zero]; exact zeroV_In
  · by_cases h : n % 2 = 1
    · rw [slowV_odd p h0 h]; exact addV_In _ _
    · rw [slowV_even p h0 h]; exact dblV_In _
theorem seV_In (p : V4) (n : Nat) : (seV p n).In := by
  by_cases h0 : n = 0
  · subst h0; rw [seV_zero]; exact zeroV_In
  · by_cases h : n % 2 = 1
    · rw [seV_odd p h0 h]; exact nonV_In _ _
    · rw [seV_even p h0 h]; exact dblV_In _

noncomputable def timesA (f p : V3) (n : Nat) : V3 :=
  if n = 0 then f else timesA (if n % 2 = 1 then sumV f p else f) (sumV p p) (n / 2)
termination_by n
decreasing_by omega
theorem timesA_zero (f p : V3) : timesA f p 0 = f := by unfold timesA; rfl
theorem timesA_odd (f p : V3) {n : Nat} (h0 : n ≠ 0) (h : n % 2 = 1) : timesA f p n = timesA (sumV f p) (sumV p p) (n / 2) := by
  conv => lhs; unfold timesA
  rw [if_neg h0, if_pos h]
theorem timesA_even (f p : V3) {n : Nat} (h0 : n ≠ 0) (h : n % 2 ≠ 1) : timesA f p n = timesA f (sumV p p) (n / 2) := by
  conv => lhs; unfold timesA
  rw [if_neg h0, if_neg h]
@[irreducible] noncomputable def timesV (p : V3) (n : Nat) : V3 := timesA ⟨0, 1, 1⟩ p n
theorem timesA_In : ∀ (n : Nat) (f p : V3), f.In → (timesA f p n).In := by
  intro n
  induction n using Nat.strongRecOn with
  | ind n ih =>
    intro f p hf
    by_cases h0 : n = 0
    · subst h0; rw [timesA_zero]; exact hf
    · by_cases h : n % 2 = 1
      · rw [timesA_odd f p h0 h]; exact ih _ (by omega) _ _ (sumV_In _ _)
      · rw [timesA_even f p h0 h]; exact ih _ (by omega) _ _ hf
theorem timesV_In (p : V3) (n : Nat) : (timesV p n).In := by
  unfold timesV
  exact timesA_In _ _ _ ⟨⟨by decide, by decide⟩, ⟨by decide, by decide⟩, ⟨by decide, by decide⟩⟩

noncomputable def baseV : V3 := ⟨15112221349535400772501151409588531511454012693041857206046113283949847762202, 46316835694926478169428394003475163141307993866256225615783033603165251855960, 1⟩
noncomputable def eighthV : V3 := ⟨14399317868200118260347934320527232580618823971194345261214217575416788799818, 55188659117513257062467267217118295137698188065244968500265048394206261417927, 1⟩
noncomputable def negV (p : V3) : V3 := ⟨(-p.x).fmod 57896044618658097711785492504343953926634992332820282019728792003956564819949, p.y, p.z⟩
@[irreducible] noncomputable def pointV (count which : Int) : V3 :=
  sumV (if count < 0 then negV (timesV baseV count.natAbs) else timesV baseV count.natAbs) (timesV eighthV which.toNat)
theorem pointV_In (c w : Int) : (pointV c w).In := by
  unfold pointV
  exact sumV_In _ _
structure Stands (x y z t x2 y2 z2 : Int) : Prop where
  g1 : z.fmod 57896044618658097711785492504343953926634992332820282019728792003956564819949 ≠ 0
  g2 : (x * y - z * t).fmod 57896044618658097711785492504343953926634992332820282019728792003956564819949 = 0
  g3 : (x * z2 - x2 * z).fmod 57896044618658097711785492504343953926634992332820282019728792003956564819949 = 0
  g4 : (y * z2 - y2 * z).fmod 57896044618658097711785492504343953926634992332820282019728792003956564819949 = 0
end Mine
namespace MineE
/-! Number theory from nothing: Fermat, Pocklington -/
def Pr (p : Nat) : Prop := 2 ≤ p ∧ ∀ m, m ∣ p → m = 1 ∨ m = p
theorem Pr.dvd_mul {p a b : Nat} (hp : Pr p) (h : p ∣ a * b) : p ∣ a ∨ p ∣ b := by
  rcases hp.2 (Nat.gcd p a) (Nat.gcd_dvd_left p a) with e | e
  · exact .inr (Nat.Coprime.dvd_of_dvd_mul_left e h)
  · exact .inl (e ▸ Nat.gcd_dvd_right p a)
theorem Pr.coprime {p a : Nat} (hp : Pr p) (h : ¬ p ∣ a) : Nat.gcd p a = 1 := by
  rcases hp.2 (Nat.gcd p a) (Nat.gcd_dvd_left p a) with e | e
  · exact e
  · exact absurd (e ▸ Nat.gcd_dvd_right p a) h
/-- the binomial numbers -/
noncomputable def ch : Nat → Nat → Nat
  | _, 0 => 1
  | 0, _ + 1 => 0
  | n + 1, k + 1 => ch n k + ch n (k + 1)
theorem ch_zero (n : Nat) : ch n 0 = 1 := by cases n <;> rfl
theorem ch_succ (n k : Nat) : ch (n + 1) (k + 1) = ch n k + ch n (k + 1) := rfl
theorem ch_gt : ∀ (n k : Nat), n < k → ch n k = 0
  | 0, 0, h => absurd h (by omega)
  | 0, k + 1, _ => rfl
  | n + 1, 0, h => absurd h (by omega)
  | n + 1, k + 1, h => by rw [ch_succ, ch_gt n k (by omega), ch_gt n (k + 1) (by omega)]
theorem ch_self : ∀ n, ch n n = 1
  | 0 => rfl
  | n + 1 => by rw [ch_succ, ch_self n, ch_gt n (n + 1) (by omega)]
theorem ch_absorb : ∀ (n k : Nat), (k + 1) * ch (n + 1) (k + 1) = (n + 1) * ch n k
  | 0, 0 => rfl
  | 0, k + 1 => by rw [ch_succ, ch_gt 0 (k + 1) (by omega), ch_gt 0 (k + 1 + 1) (by omega)]; rfl
  | n + 1, 0 => by
    have h := ch_absorb n 0
    rw [ch_zero] at h
    rw [ch_succ (n + 1) 0, ch_zero, Nat.mul_add, h]; omega
  | n + 1, k + 1 => by
    have h1 := ch_absorb n k
    have h2 := ch_absorb n (k + 1)
    rw [ch_succ (n + 1) (k + 1), Nat.mul_add, h2]
    have e : (k + 1 + 1) * ch (n + 1) (k + 1) = (n + 1) * ch n k + ch (n + 1) (k + 1) := by rw [Nat.add_mul, h1, Nat.one_mul]
    rw [e, ch_succ n k]
    rw [show n + 1 + 1 = (n + 1) + 1 from rfl, Nat.add_mul (n + 1) 1 (ch n k + ch n (k + 1)), Nat.mul_add]
    omega
theorem ch_dvd {p k : Nat} (hp : Pr p) (h0 : 0 < k) (h1 : k < p) : p ∣ ch p k := by
  obtain ⟨n, rfl⟩ : ∃ n, p = n + 1 := ⟨p - 1, by have := hp.1; omega⟩
  obtain ⟨j, rfl⟩ : ∃ j, k = j + 1 := ⟨k - 1, by omega⟩
  have h := ch_absorb n j
  rcases hp.dvd_mul (a := j + 1) (b := ch (n + 1) (j + 1)) ⟨ch n j, h⟩ with d | d
  · exact absurd (Nat.le_of_dvd (by omega) d) (by omega)
  · exact d
/-- the binomial sum, its first terms -/
noncomputable def bs (n a : Nat) : Nat → Nat
  | 0 => 1
  | m + 1 => bs n a m + ch n (m + 1) * a ^ (m + 1)
theorem bs_step (n a : Nat) : ∀ m, bs (n + 1) a (m + 1) = bs n a (m + 1) + a * bs n a m
  | 0 => by
    show 1 + ch (n + 1) 1 * a ^ 1 = (1 + ch n 1 * a ^ 1) + a * 1
    rw [ch_succ n 0, ch_zero, Nat.add_mul, Nat.pow_one]; simp only [Nat.zero_add]; omega
  | m + 1 => by
    have ih := bs_step n a m
    show bs (n + 1) a (m + 1) + ch (n + 1) (m + 1 + 1) * a ^ (m + 1 + 1) = (bs n a (m + 1) + ch n (m + 1 + 1) * a ^ (m + 1 + 1)) + a * (bs n a m + ch n (m + 1) * a ^ (m + 1))
    rw [ih, ch_succ, Nat.add_mul, Nat.mul_add a]
    have e : a * (ch n (m + 1) * a ^ (m + 1)) = ch n (m + 1) * a ^ (m + 1 + 1) := by
      rw [Nat.pow_succ a (m + 1), Nat.mul_comm (a ^ (m + 1)) a, Nat.mul_left_comm]
    rw [e]; omega
theorem bs_all (a : Nat) : ∀ n, bs n a n = (a + 1) ^ n
  | 0 => rfl
  | n + 1 => by
    have e : bs n a (n + 1) = bs n a n := by
      show bs n a n + ch n (n + 1) * a ^ (n + 1) = _
      rw [ch_gt n (n + 1) (by omega), Nat.zero_mul, Nat.add_zero]
    rw [bs_step, e, bs_all a n, Nat.pow_succ, Nat.mul_add, Nat.mul_one, Nat.mul_comm ((a + 1) ^ n) a]; omega
theorem bs_mod {p : Nat} (hp : Pr p) (a : Nat) : ∀ m, m < p → bs p a m % p = 1 % p
  | 0, _ => rfl
  | m + 1, h => by
    show (bs p a m + ch p (m + 1) * a ^ (m + 1)) % p = 1 % p
    obtain ⟨c, e⟩ := ch_dvd hp (show 0 < m + 1 by omega) h
    rw [e, Nat.mul_assoc, Nat.add_mul_mod_self_left]
    exact bs_mod hp a m (by omega)
theorem fermat {p : Nat} (hp : Pr p) : ∀ a, a ^ p % p = a % p
  | 0 => by rw [Nat.zero_pow (by have := hp.1; omega)]
  | a + 1 => by
    obtain ⟨n, rfl⟩ : ∃ n, p = n + 1 := ⟨p - 1, by have := hp.1; omega⟩
    have ih := fermat hp a
    have h := bs_mod hp a n (by omega)
    rw [← bs_all a (n + 1)]
    show (bs (n + 1) a n + ch (n + 1) (n + 1) * a ^ (n + 1)) % (n + 1) = _
    rw [ch_self, Nat.one_mul, Nat.add_mod, h, ih, ← Nat.add_mod, Nat.add_comm]
theorem dvd_of_mod {a b n : Nat} (h : a % n = b % n) : n ∣ a - b := Nat.dvd_of_mod_eq_zero (Nat.sub_mod_eq_zero_of_mod_eq h)
theorem mod_of_dvd {a b n : Nat} (hb : b ≤ a) (h : n ∣ a - b) : a % n = b % n := by
  obtain ⟨c, e⟩ := h
  rw [show a = b + n * c by omega, Nat.add_mul_mod_self_left]
theorem fermat1 {p a : Nat} (hp : Pr p) (h : ¬ p ∣ a) : a ^ (p - 1) % p = 1 % p := by
  obtain ⟨n, rfl⟩ : ∃ n, p = n + 1 := ⟨p - 1, by have := hp.1; omega⟩
  have f := fermat hp a
  rw [Nat.add_sub_cancel]
  have hpos : 0 < a := Nat.pos_of_ne_zero fun e => h (e ▸ Nat.dvd_zero _)
  have hge : a ≤ a ^ (n + 1) := by
    rw [Nat.pow_succ]
    exact Nat.le_mul_of_pos_left a (Nat.pow_pos hpos)
  have d : (n + 1) ∣ a ^ (n + 1) - a := dvd_of_mod f
  have e : a ^ (n + 1) - a = a * (a ^ n - 1) := by rw [Nat.pow_succ, Nat.mul_sub, Nat.mul_one, Nat.mul_comm]
  rw [e] at d
  rcases hp.dvd_mul d with d | d
  · exact absurd d h
  · have h1 : 1 ≤ a ^ n := Nat.pow_pos hpos
    exact mod_of_dvd h1 d

/-- powers by squaring, for the kernel -/
noncomputable def pm (N : Nat) : Nat → Nat → Nat → Nat → Nat
  | 0, _, _, acc => acc
  | f + 1, b, e, acc => pm N f (b * b % N) (e / 2) (if e % 2 = 1 then acc * b % N else acc)
theorem pm_eq (N : Nat) : ∀ (f b e acc : Nat), e < 2 ^ f → pm N f b e acc % N = acc * b ^ e % N
  | 0, b, e, acc, h => by
    have : e = 0 := by rw [Nat.pow_zero] at h; omega
    subst this
    rw [Nat.pow_zero, Nat.mul_one]; rfl
  | f + 1, b, e, acc, h => by
    have h' : e / 2 < 2 ^ f := by rw [Nat.pow_succ] at h; omega
    show pm N f (b * b % N) (e / 2) (if e % 2 = 1 then acc * b % N else acc) % N = _
    rw [pm_eq N f _ _ _ h']
    have hb : (b * b % N) ^ (e / 2) % N = b ^ (2 * (e / 2)) % N := by
      rw [← Nat.pow_mod, Nat.pow_mul, Nat.pow_two]
    rw [Nat.mul_mod, hb, ← Nat.mul_mod]
    split
    · rename_i h1
      rw [Nat.mod_mul_mod, Nat.mul_assoc, ← Nat.pow_add_one', show 2 * (e / 2) + 1 = e by omega]
    · rw [show 2 * (e / 2) = e by omega]
theorem pm_lt (N : Nat) (hN : 0 < N) : ∀ (f b e acc : Nat), acc < N → pm N f b e acc < N
  | 0, _, _, _, h => h
  | f + 1, b, e, acc, h => by
    show pm N f (b * b % N) (e / 2) (if e % 2 = 1 then acc * b % N else acc) < N
    refine pm_lt N hN f _ _ _ ?_
    split
    · exact Nat.mod_lt _ hN
    · exact h
theorem pow_gcd {p b : Nat} : ∀ (m n : Nat), b ^ m % p = 1 % p → b ^ n % p = 1 % p → b ^ (Nat.gcd m n) % p = 1 % p := by
  intro m n
  induction m, n using Nat.gcd.induction with
  | H0 n => intro _ h; rw [Nat.gcd_zero_left]; exact h
  | H1 m n hm ih =>
    intro h1 h2
    rw [Nat.gcd_rec]
    refine ih ?_ h1
    have e : b ^ n = (b ^ m) ^ (n / m) * b ^ (n % m) := by rw [← Nat.pow_mul, ← Nat.pow_add, Nat.div_add_mod]
    rw [e, Nat.mul_mod, Nat.pow_mod, h1, ← Nat.pow_mod, Nat.one_pow, ← Nat.mul_mod, Nat.one_mul] at h2
    exact h2
theorem exists_prime : ∀ n, 2 ≤ n → ∃ p, Pr p ∧ p ∣ n := by
  intro n
  induction n using Nat.strongRecOn with
  | ind n ih =>
    intro h
    by_cases hp : ∀ m, m ∣ n → m = 1 ∨ m = n
    · exact ⟨n, ⟨h, hp⟩, Nat.dvd_refl n⟩
    · have ⟨m, hm⟩ := Classical.not_forall.mp hp
      have ⟨hd, hm⟩ := Classical.not_imp.mp hm
      rw [not_or] at hm
      have hle := Nat.le_of_dvd (by omega) hd
      have hpos : 0 < m := Nat.pos_of_dvd_of_pos hd (by omega)
      obtain ⟨p, hp, hpm⟩ := ih m (by omega) (by omega)
      exact ⟨p, hp, Nat.dvd_trans hpm hd⟩
theorem prime_of {n : Nat} (h2 : 2 ≤ n) (h : ∀ p, Pr p → p ∣ n → n < p * p) : Pr n := by
  refine ⟨h2, fun m hm => ?_⟩
  obtain ⟨k, hk⟩ := hm
  by_cases h1 : m = 1
  · exact .inl h1
  · by_cases hk1 : k = 1
    · exact .inr (by rw [hk, hk1, Nat.mul_one])
    · exfalso
      have hm0 : m ≠ 0 := fun e => by rw [e, Nat.zero_mul] at hk; omega
      have hk0 : k ≠ 0 := fun e => by rw [e, Nat.mul_zero] at hk; omega
      rcases Nat.le_total m k with hle | hle
      · obtain ⟨p, hp, hpm⟩ := exists_prime m (by omega)
        have q := h p hp (Nat.dvd_trans hpm ⟨k, hk⟩)
        have hpl := Nat.le_of_dvd (by omega) hpm
        have := Nat.mul_le_mul hpl (Nat.le_trans hpl hle)
        omega
      · obtain ⟨p, hp, hpk⟩ := exists_prime k (by omega)
        have q := h p hp (Nat.dvd_trans hpk ⟨m, by rw [hk, Nat.mul_comm]⟩)
        have hpl := Nat.le_of_dvd (by omega) hpk
        have := Nat.mul_le_mul (Nat.le_trans hpl hle) hpl
        omega
/-- one prime of Pocklington's -/
theorem pock1 {N q : Nat} (hq : Pr q) (f r : Nat) (h1 : pm N f r q 1 = 1) (hqf : q < 2 ^ f) (hg : Nat.gcd (r - 1) N = 1)
    (p : Nat) (hp : Pr p) (hpN : p ∣ N) : q ∣ p - 1 := by
  have e1 : r ^ q % N = 1 % N := by
    have e := pm_eq N f r q 1 hqf
    rw [h1, Nat.one_mul] at e
    exact e.symm
  have e2 : r ^ q % p = 1 % p := by
    rw [← Nat.mod_mod_of_dvd _ hpN, e1, Nat.mod_mod_of_dvd _ hpN]
  have hp2 := hp.1
  have hnd : ¬ p ∣ r := fun d => by
    have : r ^ q % p = 0 := Nat.mod_eq_zero_of_dvd (by obtain ⟨j, rfl⟩ : ∃ j, q = j + 1 := ⟨q - 1, by have := hq.1; omega⟩; rw [Nat.pow_succ]; exact Nat.dvd_mul_left_of_dvd d _)
    rw [this, Nat.mod_eq_of_lt (show 1 < p by omega)] at e2
    exact absurd e2 (by decide)
  have e3 := fermat1 hp hnd
  have hr1 : ¬ r % p = 1 % p := fun e => by
    have hr0 : r ≠ 0 := fun e0 => hnd (e0 ▸ Nat.dvd_zero _)
    have d1 : p ∣ r - 1 := dvd_of_mod e
    have := Nat.dvd_gcd d1 hpN
    rw [hg] at this
    exact absurd (Nat.le_of_dvd (by decide) this) (by omega)
  refine Classical.byContradiction fun hn => ?_
  have hc := hq.coprime hn
  have := pow_gcd (p := p) (b := r) _ _ e2 e3
  rw [hc, Nat.pow_one] at this
  exact hr1 this
noncomputable def noDiv (n : Nat) : Nat → Bool
  | 0 => true
  | m + 1 => (m < 2 || n % m != 0) && noDiv n m
theorem noDiv_spec {n : Nat} : ∀ {k m : Nat}, noDiv n k = true → 2 ≤ m → m < k → ¬ m ∣ n
  | 0, _, _, _, h => absurd h (by omega)
  | k + 1, m, h, h2, hm => by
    have h' : ((decide (k < 2) || n % k != 0) && noDiv n k) = true := h
    rw [Bool.and_eq_true] at h'
    by_cases e : m = k
    · subst e
      intro d
      have h0 := Nat.mod_eq_zero_of_dvd d
      have h3 := h'.1
      rw [h0] at h3
      simp at h3
      omega
    · exact noDiv_spec h'.2 h2 (by omega)
theorem trial {n k : Nat} (h2 : 2 ≤ n) (hk : n < k * k) (h : noDiv n k = true) : Pr n := prime_of h2 fun p hp hd => by
  have hpk : k ≤ p := Nat.le_of_not_lt fun hlt => noDiv_spec h hp.1 hlt hd
  exact Nat.lt_of_lt_of_le hk (Nat.mul_le_mul hpk hpk)
theorem of_one {N q : Nat} (h2 : 2 ≤ N) (hq : Pr q) (hs : N ≤ q * q) (h : ∀ p, Pr p → p ∣ N → q ∣ p - 1) : Pr N := prime_of h2 fun p hp hd => by
  have d := Nat.le_of_dvd (by have := hp.1; omega) (h p hp hd)
  have := Nat.mul_lt_mul_of_lt_of_le (show q < p by have := hp.1; omega) (show q ≤ p by omega) (show 0 < p by have := hp.1; omega)
  exact Nat.lt_of_le_of_lt hs this
theorem of_two {N q1 q2 : Nat} (h2 : 2 ≤ N) (hq1 : Pr q1) (hq2 : Pr q2) (hne : q1 ≠ q2) (hs : N ≤ (q1 * q2) * (q1 * q2)) (h : ∀ p, Pr p → p ∣ N → q1 ∣ p - 1) (h' : ∀ p, Pr p → p ∣ N → q2 ∣ p - 1) : Pr N := prime_of h2 fun p hp hd => by
  have hc : Nat.Coprime q1 q2 := hq1.coprime fun d => (hq2.2 q1 d).elim (fun e => by have := hq1.1; omega) hne
  have d := Nat.le_of_dvd (by have := hp.1; omega) (Nat.Coprime.mul_dvd_of_dvd_of_dvd hc (h p hp hd) (h' p hp hd))
  have h0 : 0 < q1 * q2 := Nat.mul_pos (by have := hq1.1; omega) (by have := hq2.1; omega)
  have := Nat.mul_lt_mul_of_lt_of_le (show q1 * q2 < p by have := hp.1; omega) (show q1 * q2 ≤ p by omega) (show 0 < p by have := hp.1; omega)
  exact Nat.lt_of_le_of_lt hs this
end MineE
namespace MineE
theorem p0 : Pr 8574133 := trial (k := 2929) (by decide) (by decide) (by decide +kernel)
theorem p1 : Pr 127 := trial (k := 12) (by decide) (by decide) (by decide +kernel)
theorem p2 : Pr 1919519569386763 := of_two (by decide) p0 p1 (by decide) (by decide) (pock1 p0 24 1059928654987441 (by decide +kernel) (by decide) (by decide +kernel)) (pock1 p1 7 576774792492622 (by decide +kernel) (by decide) (by decide +kernel))
theorem p3 : Pr 569003 := trial (k := 755) (by decide) (by decide) (by decide +kernel)
theorem p4 : Pr 2773320623 := of_one (by decide) p3 (by decide) (pock1 p3 20 2039232613 (by decide +kernel) (by decide) (by decide +kernel))
theorem p5 : Pr 72106336199 := of_one (by decide) p4 (by decide) (pock1 p4 32 67108864 (by decide +kernel) (by decide) (by decide +kernel))
theorem p6 : Pr 75445702479781427272750846543864801 := of_two (by decide) p2 p5 (by decide) (by decide) (pock1 p2 51 56747016255153332959347766392083459 (by decide +kernel) (by decide) (by decide +kernel)) (pock1 p5 37 71619851993489548214160924360205394 (by decide +kernel) (by decide) (by decide +kernel))
theorem p7 : Pr 430751 := trial (k := 657) (by decide) (by decide) (by decide +kernel)
theorem p8 : Pr 4153 := trial (k := 65) (by decide) (by decide) (by decide +kernel)
theorem p9 : Pr 31757755568855353 := of_two (by decide) p7 p8 (by decide) (by decide) (pock1 p7 19 15280470251845350 (by decide +kernel) (by decide) (by decide +kernel)) (pock1 p8 13 28256283979054930 (by decide +kernel) (by decide) (by decide +kernel))
theorem p10 : Pr 74058212732561358302231226437062788676166966415465897661863160754340907 := of_two (by decide) p6 p9 (by decide) (by decide) (pock1 p6 116 69490809710348678725736597923071784769591275419387514694139338586948360 (by decide +kernel) (by decide) (by decide +kernel)) (pock1 p9 55 50366660687963342066214195241331738400016478712605795091965648721912165 (by decide +kernel) (by decide) (by decide +kernel))
theorem prQ : Pr 57896044618658097711785492504343953926634992332820282019728792003956564819949 := of_one (by decide) p10 (by decide) (pock1 p10 236 427094198651976259540344842774561673889945192655078505504941250475370961481 (by decide +kernel) (by decide) (by decide +kernel))
theorem p12 : Pr 1224481 := trial (k := 1107) (by decide) (by decide) (by decide +kernel)
theorem p13 : Pr 531581 := trial (k := 730) (by decide) (by decide) (by decide +kernel)
theorem p14 : Pr 1257559732178653 := of_two (by decide) p12 p13 (by decide) (by decide) (pock1 p12 21 1252739704402215 (by decide +kernel) (by decide) (by decide +kernel)) (pock1 p13 20 1139842034583224 (by decide +kernel) (by decide) (by decide +kernel))
theorem p15 : Pr 4434155615661930479 := of_one (by decide) p14 (by decide) (pock1 p14 51 415787812636281767 (by decide +kernel) (by decide) (by decide +kernel))
theorem p16 : Pr 172054593956031949258510691 := of_one (by decide) p15 (by decide) (pock1 p15 62 81982237619807054769897707 (by decide +kernel) (by decide) (by decide +kernel))
theorem p17 : Pr 19757330305831588566944191468367130476339 := of_one (by decide) p16 (by decide) (pock1 p16 88 9148758478138211201771971577098600188172 (by decide +kernel) (by decide) (by decide +kernel))
theorem p18 : Pr 276602624281642239937218680557139826668747 := of_one (by decide) p17 (by decide) (pock1 p17 134 16384 (by decide +kernel) (by decide) (by decide +kernel))
theorem prL : Pr 7237005577332262213973186563042994240857116359379907606001950938285454250989 := of_one (by decide) p18 (by decide) (pock1 p18 138 2975531125133123119648879457563281269120703404158613135195788908093573672641 (by decide +kernel) (by decide) (by decide +kernel))
end MineE
namespace MineE
open Lean.Grind
set_option maxRecDepth 10000 in
set_option maxHeartbeats 4000000 in
theorem assoc_x {R : Type} [CommRing R] (d x1 y1 x2 y2 x3 y3 : R) : ((x1*y2 + x2*y1)*(1 - d*x1*x2*y1*y2)*y3 + x3*((y1*y2 + x1*x2)*(1 + d*x1*x2*y1*y2)))*((1 + d*x2*x3*y2*y3)*(1 - d*x2*x3*y2*y3) + d*((x2*y3 + x3*y2)*(y2*y3 + x2*x3))*x1*y1) - (x1*((y2*y3 + x2*x3)*(1 + d*x2*x3*y2*y3)) + (x2*y3 + x3*y2)*(1 - d*x2*x3*y2*y3)*y1)*((1 + d*x1*x2*y1*y2)*(1 - d*x1*x2*y1*y2) + d*((x1*y2 + x2*y1)*(y1*y2 + x1*x2))*x3*y3) = (-d*d*x1*x2*x2*x2*x2*y2*y2*y2*x3*x3*y3 - d*d*x1*x2*x2*x2*y2*y2*y2*y2*x3*y3*y3 + d*d*y1*x2*x2*x2*x2*y2*y2*y2*x3*y3*y3 + d*d*y1*x2*x2*x2*y2*y2*y2*y2*x3*x3*y3 - d*x1*x2*x2*x2*x2*y2*x3*x3*y3 - d*x1*x2*x2*x2*y2*y2*x3*x3*x3 - d*x1*x2*x2*x2*y2*y2*x3 + d*x1*x2*x2*y2*y2*y2*y3*y3*y3 - d*x1*x2*x2*y2*y2*y2*y3 + d*x1*x2*y2*y2*y2*y2*x3*y3*y3 + d*y1*x2*x2*x2*x2*y2*x3*y3*y3 + d*y1*x2*x2*x2*y2*y2*y3*y3*y3 - d*y1*x2*x2*x2*y2*y2*y3 - d*y1*x2*x2*y2*y2*y2*x3*x3*x3 - d*y1*x2*x2*y2*y2*y2*x3 - d*y1*x2*y2*y2*y2*y2*x3*x3*y3)*(y1*y1 - x1*x1 - 1 - d*x1*x1*y1*y1) + (d*d*x1*x1*y1*x2*x2*y2*x3*x3*x3*y3*y3 - d*d*x1*x1*y1*x2*y2*y2*x3*x3*y3*y3*y3 - d*d*x1*y1*y1*x2*x2*y2*x3*x3*y3*y3*y3 + d*d*x1*y1*y1*x2*y2*y2*x3*x3*x3*y3*y3 + d*x1*x1*x1*x2*x2*y2*x3*x3*y3 + d*x1*x1*x1*x2*y2*y2*x3*y3*y3 + d*x1*x1*x1*x2*x3*x3*x3*y3*y3 + d*x1*x1*x1*y2*x3*x3*y3*y3*y3 - d*x1*x1*y1*x2*x2*y2*x3*y3*y3 - d*x1*x1*y1*x2*y2*y2*x3*x3*y3 + d*x1*x1*y1*x2*x3*x3*y3*y3*y3 + d*x1*x1*y1*y2*x3*x3*x3*y3*y3 - d*x1*y1*y1*x2*x2*y2*x3*x3*y3 - d*x1*y1*y1*x2*y2*y2*x3*y3*y3 - d*x1*y1*y1*x2*x3*x3*x3*y3*y3 - d*x1*y1*y1*y2*x3*x3*y3*y3*y3 + d*x1*x2*x2*y2*x3*x3*y3 + d*x1*x2*y2*y2*x3*y3*y3 + d*x1*x2*x3*x3*x3*y3*y3 + d*x1*y2*x3*x3*y3*y3*y3 + d*y1*y1*y1*x2*x2*y2*x3*y3*y3 + d*y1*y1*y1*x2*y2*y2*x3*x3*y3 - d*y1*y1*y1*x2*x3*x3*y3*y3*y3 - d*y1*y1*y1*y2*x3*x3*x3*y3*y3 - d*y1*x2*x2*y2*x3*y3*y3 - d*y1*x2*y2*y2*x3*x3*y3 + d*y1*x2*x3*x3*y3*y3*y3 + d*y1*y2*x3*x3*x3*y3*y3 + x1*x1*x1*x2*x3*x3*x3 - x1*x1*x1*x2*x3*y3*y3 + x1*x1*x1*x2*x3 + x1*x1*x1*y2*x3*x3*y3 - x1*x1*x1*y2*y3*y3*y3 + x1*x1*x1*y2*y3 + x1*x1*y1*x2*x3*x3*y3 - x1*x1*y1*x2*y3*y3*y3 + x1*x1*y1*x2*y3 + x1*x1*y1*y2*x3*x3*x3 - x1*x1*y1*y2*x3*y3*y3 + x1*x1*y1*y2*x3 - x1*y1*y1*x2*x3*x3*x3 + x1*y1*y1*x2*x3*y3*y3 - x1*y1*y1*x2*x3 - x1*y1*y1*y2*x3*x3*y3 + x1*y1*y1*y2*y3*y3*y3 - x1*y1*y1*y2*y3 + x1*x2*x3*x3*x3 - x1*x2*x3*y3*y3 + x1*x2*x3 + x1*y2*x3*x3*y3 - x1*y2*y3*y3*y3 + x1*y2*y3 - y1*y1*y1*x2*x3*x3*y3 + y1*y1*y1*x2*y3*y3*y3 - y1*y1*y1*x2*y3 - y1*y1*y1*y2*x3*x3*x3 + y1*y1*y1*y2*x3*y3*y3 - y1*y1*y1*y2*x3 + y1*x2*x3*x3*y3 - y1*x2*y3*y3*y3 + y1*x2*y3 + y1*y2*x3*x3*x3 - y1*y2*x3*y3*y3 + y1*y2*x3)*(y2*y2 - x2*x2 - 1 - d*x2*x2*y2*y2) + (-d*x1*x1*y1*x2*x2*y2*x3 + d*x1*x1*y1*x2*y2*y2*y3 + d*x1*y1*y1*x2*x2*y2*y3 - d*x1*y1*y1*x2*y2*y2*x3 - x1*x1*x1*x2*x2*x2*x3 - x1*x1*x1*x2*x2*y2*y3 + x1*x1*x1*x2*y2*y2*x3 - x1*x1*x1*x2*x3 + x1*x1*x1*y2*y2*y2*y3 - x1*x1*x1*y2*y3 - x1*x1*y1*x2*x2*x2*y3 - x1*x1*y1*x2*x2*y2*x3 + x1*x1*y1*x2*y2*y2*y3 - x1*x1*y1*x2*y3 + x1*x1*y1*y2*y2*y2*x3 - x1*x1*y1*y2*x3 + x1*y1*y1*x2*x2*x2*x3 + x1*y1*y1*x2*x2*y2*y3 - x1*y1*y1*x2*y2*y2*x3 + x1*y1*y1*x2*x3 - x1*y1*y1*y2*y2*y2*y3 + x1*y1*y1*y2*y3 - x1*x2*x2*x2*x3 - x1*x2*x2*y2*y3 + x1*x2*y2*y2*x3 - x1*x2*x3 + x1*y2*y2*y2*y3 - x1*y2*y3 + y1*y1*y1*x2*x2*x2*y3 + y1*y1*y1*x2*x2*y2*x3 - y1*y1*y1*x2*y2*y2*y3 + y1*y1*y1*x2*y3 - y1*y1*y1*y2*y2*y2*x3 + y1*y1*y1*y2*x3 - y1*x2*x2*x2*y3 - y1*x2*x2*y2*x3 + y1*x2*y2*y2*y3 - y1*x2*y3 + y1*y2*y2*y2*x3 - y1*y2*x3)*(y3*y3 - x3*x3 - 1 - d*x3*x3*y3*y3) := by grind
set_option maxRecDepth 10000 in
set_option maxHeartbeats 4000000 in
theorem assoc_y {R : Type} [CommRing R] (d x1 y1 x2 y2 x3 y3 : R) : ((y1*y2 + x1*x2)*(1 + d*x1*x2*y1*y2)*y3 + (x1*y2 + x2*y1)*(1 - d*x1*x2*y1*y2)*x3)*((1 + d*x2*x3*y2*y3)*(1 - d*x2*x3*y2*y3) - d*((x2*y3 + x3*y2)*(y2*y3 + x2*x3))*x1*y1) - ((x2*y3 + x3*y2)*(1 - d*x2*x3*y2*y3)*x1 + (y2*y3 + x2*x3)*(1 + d*x2*x3*y2*y3)*y1)*((1 + d*x1*x2*y1*y2)*(1 - d*x1*x2*y1*y2) - d*((x1*y2 + x2*y1)*(y1*y2 + x1*x2))*x3*y3) = (d*d*x1*x2*x2*x2*x2*y2*y2*y2*x3*y3*y3 + d*d*x1*x2*x2*x2*y2*y2*y2*y2*x3*x3*y3 - d*d*y1*x2*x2*x2*x2*y2*y2*y2*x3*x3*y3 - d*d*y1*x2*x2*x2*y2*y2*y2*y2*x3*y3*y3 + d*x1*x2*x2*x2*x2*y2*x3*y3*y3 + d*x1*x2*x2*x2*y2*y2*y3*y3*y3 - d*x1*x2*x2*x2*y2*y2*y3 - d*x1*x2*x2*y2*y2*y2*x3*x3*x3 - d*x1*x2*x2*y2*y2*y2*x3 - d*x1*x2*y2*y2*y2*y2*x3*x3*y3 - d*y1*x2*x2*x2*x2*y2*x3*x3*y3 - d*y1*x2*x2*x2*y2*y2*x3*x3*x3 - d*y1*x2*x2*x2*y2*y2*x3 + d*y1*x2*x2*y2*y2*y2*y3*y3*y3 - d*y1*x2*x2*y2*y2*y2*y3 + d*y1*x2*y2*y2*y2*y2*x3*y3*y3)*(y1*y1 - x1*x1 - 1 - d*x1*x1*y1*y1) + (d*d*x1*x1*y1*x2*x2*y2*x3*x3*y3*y3*y3 - d*d*x1*x1*y1*x2*y2*y2*x3*x3*x3*y3*y3 - d*d*x1*y1*y1*x2*x2*y2*x3*x3*x3*y3*y3 + d*d*x1*y1*y1*x2*y2*y2*x3*x3*y3*y3*y3 - d*x1*x1*x1*x2*x2*y2*x3*y3*y3 - d*x1*x1*x1*x2*y2*y2*x3*x3*y3 + d*x1*x1*x1*x2*x3*x3*y3*y3*y3 + d*x1*x1*x1*y2*x3*x3*x3*y3*y3 + d*x1*x1*y1*x2*x2*y2*x3*x3*y3 + d*x1*x1*y1*x2*y2*y2*x3*y3*y3 + d*x1*x1*y1*x2*x3*x3*x3*y3*y3 + d*x1*x1*y1*y2*x3*x3*y3*y3*y3 + d*x1*y1*y1*x2*x2*y2*x3*y3*y3 + d*x1*y1*y1*x2*y2*y2*x3*x3*y3 - d*x1*y1*y1*x2*x3*x3*y3*y3*y3 - d*x1*y1*y1*y2*x3*x3*x3*y3*y3 - d*x1*x2*x2*y2*x3*y3*y3 - d*x1*x2*y2*y2*x3*x3*y3 + d*x1*x2*x3*x3*y3*y3*y3 + d*x1*y2*x3*x3*x3*y3*y3 - d*y1*y1*y1*x2*x2*y2*x3*x3*y3 - d*y1*y1*y1*x2*y2*y2*x3*y3*y3 - d*y1*y1*y1*x2*x3*x3*x3*y3*y3 - d*y1*y1*y1*y2*x3*x3*y3*y3*y3 + d*y1*x2*x2*y2*x3*x3*y3 + d*y1*x2*y2*y2*x3*y3*y3 + d*y1*x2*x3*x3*x3*y3*y3 + d*y1*y2*x3*x3*y3*y3*y3 + x1*x1*x1*x2*x3*x3*y3 - x1*x1*x1*x2*y3*y3*y3 + x1*x1*x1*x2*y3 + x1*x1*x1*y2*x3*x3*x3 - x1*x1*x1*y2*x3*y3*y3 + x1*x1*x1*y2*x3 + x1*x1*y1*x2*x3*x3*x3 - x1*x1*y1*x2*x3*y3*y3 + x1*x1*y1*x2*x3 + x1*x1*y1*y2*x3*x3*y3 - x1*x1*y1*y2*y3*y3*y3 + x1*x1*y1*y2*y3 - x1*y1*y1*x2*x3*x3*y3 + x1*y1*y1*x2*y3*y3*y3 - x1*y1*y1*x2*y3 - x1*y1*y1*y2*x3*x3*x3 + x1*y1*y1*y2*x3*y3*y3 - x1*y1*y1*y2*x3 + x1*x2*x3*x3*y3 - x1*x2*y3*y3*y3 + x1*x2*y3 + x1*y2*x3*x3*x3 - x1*y2*x3*y3*y3 + x1*y2*x3 - y1*y1*y1*x2*x3*x3*x3 + y1*y1*y1*x2*x3*y3*y3 - y1*y1*y1*x2*x3 - y1*y1*y1*y2*x3*x3*y3 + y1*y1*y1*y2*y3*y3*y3 - y1*y1*y1*y2*y3 + y1*x2*x3*x3*x3 - y1*x2*x3*y3*y3 + y1*x2*x3 + y1*y2*x3*x3*y3 - y1*y2*y3*y3*y3 + y1*y2*y3)*(y2*y2 - x2*x2 - 1 - d*x2*x2*y2*y2) + (-d*x1*x1*y1*x2*x2*y2*y3 + d*x1*x1*y1*x2*y2*y2*x3 + d*x1*y1*y1*x2*x2*y2*x3 - d*x1*y1*y1*x2*y2*y2*y3 - x1*x1*x1*x2*x2*x2*y3 - x1*x1*x1*x2*x2*y2*x3 + x1*x1*x1*x2*y2*y2*y3 - x1*x1*x1*x2*y3 + x1*x1*x1*y2*y2*y2*x3 - x1*x1*x1*y2*x3 - x1*x1*y1*x2*x2*x2*x3 - x1*x1*y1*x2*x2*y2*y3 + x1*x1*y1*x2*y2*y2*x3 - x1*x1*y1*x2*x3 + x1*x1*y1*y2*y2*y2*y3 - x1*x1*y1*y2*y3 + x1*y1*y1*x2*x2*x2*y3 + x1*y1*y1*x2*x2*y2*x3 - x1*y1*y1*x2*y2*y2*y3 + x1*y1*y1*x2*y3 - x1*y1*y1*y2*y2*y2*x3 + x1*y1*y1*y2*x3 - x1*x2*x2*x2*y3 - x1*x2*x2*y2*x3 + x1*x2*y2*y2*y3 - x1*x2*y3 + x1*y2*y2*y2*x3 - x1*y2*x3 + y1*y1*y1*x2*x2*x2*x3 + y1*y1*y1*x2*x2*y2*y3 - y1*y1*y1*x2*y2*y2*x3 + y1*y1*y1*x2*x3 - y1*y1*y1*y2*y2*y2*y3 + y1*y1*y1*y2*y3 - y1*x2*x2*x2*x3 - y1*x2*x2*y2*y3 + y1*x2*y2*y2*x3 - y1*x2*x3 + y1*y2*y2*y2*y3 - y1*y2*y3)*(y3*y3 - x3*x3 - 1 - d*x3*x3*y3*y3) := by grind
set_option maxRecDepth 10000 in
set_option maxHeartbeats 4000000 in
theorem closed {R : Type} [CommRing R] (d x1 y1 x2 y2 : R) : ((y1*y2 + x1*x2)*(1 + d*x1*x2*y1*y2))*((y1*y2 + x1*x2)*(1 + d*x1*x2*y1*y2)) - ((x1*y2 + x2*y1)*(1 - d*x1*x2*y1*y2))*((x1*y2 + x2*y1)*(1 - d*x1*x2*y1*y2)) - ((1 + d*x1*x2*y1*y2)*(1 - d*x1*x2*y1*y2))*((1 + d*x1*x2*y1*y2)*(1 - d*x1*x2*y1*y2)) - d*((x1*y2 + x2*y1)*(y1*y2 + x1*x2))*((x1*y2 + x2*y1)*(y1*y2 + x1*x2)) = (d*d*d*x1*x1*y1*y1*x2*x2*x2*x2*y2*y2*y2*y2 - d*d*x1*x1*x2*x2*x2*x2*y2*y2*y2*y2 + d*d*y1*y1*x2*x2*x2*x2*y2*y2*y2*y2 - d*d*x2*x2*x2*x2*y2*y2*y2*y2 - d*x1*x1*x2*x2*x2*x2*y2*y2 + d*x1*x1*x2*x2*y2*y2*y2*y2 + d*y1*y1*x2*x2*x2*x2*y2*y2 - d*y1*y1*x2*x2*y2*y2*y2*y2 - 2*d*x2*x2*x2*x2*y2*y2*y2*y2 - 2*d*x2*x2*y2*y2 - 2*x2*x2*x2*x2*y2*y2 + x2*x2*x2*x2 + 2*x2*x2*y2*y2*y2*y2 - 4*x2*x2*y2*y2 + y2*y2*y2*y2)*(y1*y1 - x1*x1 - 1 - d*x1*x1*y1*y1) + (d*x1*x1*x1*x1*x2*x2*y2*y2 + 2*d*x1*x1*x2*x2*y2*y2 + d*y1*y1*y1*y1*x2*x2*y2*y2 - 2*d*y1*y1*x2*x2*y2*y2 + d*x2*x2*y2*y2 + 2*x1*x1*x2*x2*y2*y2 - x1*x1*x2*x2 + x1*x1*y2*y2 - 2*y1*y1*x2*x2*y2*y2 + y1*y1*x2*x2 - y1*y1*y2*y2 + 2*x2*x2*y2*y2 - x2*x2 + y2*y2 + 1)*(y2*y2 - x2*x2 - 1 - d*x2*x2*y2*y2) := by grind
end MineE
namespace MineE
open Lean.Grind
/-! The group of a twisted Edwards curve with a = -1, over any field where -1 is a square and d is none -/
section
variable {F : Type} [Field F] {d : F}
structure Cv (d : F) : Prop where
  two : (2 : F) ≠ 0
  im : ∃ i : F, i * i + 1 = 0
  ns : ∀ s : F, s * s ≠ d
structure Pt (d : F) where
  x : F
  y : F
  on : y * y - x * x - 1 - d * x * x * y * y = 0
theorem Pt.ext2 {P R : Pt d} (hx : P.x = R.x) (hy : P.y = R.y) : P = R := by
  obtain ⟨a, b, h⟩ := P
  obtain ⟨a', b', h'⟩ := R
  cases hx; cases hy; rfl
theorem mul_ne {a b : F} (ha : a ≠ 0) (hb : b ≠ 0) : a * b ≠ 0 := fun h => (Field.of_mul_eq_zero h).elim ha hb
theorem cancel {a b k : F} (hk : k ≠ 0) (h : a * k = b * k) : a = b := by
  have h1 : a * k * k⁻¹ = b * k * k⁻¹ := by rw [h]
  rw [Semiring.mul_assoc, Semiring.mul_assoc, Field.mul_inv_cancel hk, Semiring.mul_one, Semiring.mul_one] at h1
  exact h1
theorem sub_zero_eq {a b : F} (h : a - b = 0) : a = b := by grind
theorem sq_absurd (C : Cv d) {a u : F} (hu : u ≠ 0) (h : a * a = d * (u * u)) : False := by
  refine C.ns (a * u⁻¹) ?_
  have h1 := Field.mul_inv_cancel hu
  generalize u⁻¹ = v at h1
  have e : a * v * (a * v) - d = v * v * (a * a - d * (u * u)) + d * (u * v - 1) * (u * v + 1) := by clear h h1; grind
  apply sub_zero_eq
  rw [e, h, h1]; grind
theorem cplt_id {R : Type} [CommRing R] (d x1 y1 x2 y2 i : R) :
    (y1 + i * x1) * (y1 + i * x1) - d * ((x1 * y1 * (y2 + i * (d * x1 * x2 * y1 * y2) * x2)) * (x1 * y1 * (y2 + i * (d * x1 * x2 * y1 * y2) * x2))) =
    (y1 * y1 - x1 * x1 - 1 - d * x1 * x1 * y1 * y1) - d * x1 * x1 * y1 * y1 * (y2 * y2 - x2 * x2 - 1 - d * x2 * x2 * y2 * y2)
      - (1 + 2 * i * x1 * y1 + d * x1 * x1 * y1 * y1 * x2 * x2 * ((i * i + 1) - 1)) * ((d * x1 * x2 * y1 * y2) * (d * x1 * x2 * y1 * y2) - 1) + (x1 * x1 - d * x1 * x1 * y1 * y1 * x2 * x2) * (i * i + 1) := by grind
theorem cplt (C : Cv d) {x1 y1 x2 y2 : F} (h1 : y1 * y1 - x1 * x1 - 1 - d * x1 * x1 * y1 * y1 = 0) (h2 : y2 * y2 - x2 * x2 - 1 - d * x2 * x2 * y2 * y2 = 0)
    (he : (d * x1 * x2 * y1 * y2) * (d * x1 * x2 * y1 * y2) - 1 = 0) : False := by
  have main : ∀ i : F, i * i + 1 = 0 → y2 + i * (d * x1 * x2 * y1 * y2) * x2 = 0 := by
    intro i hi
    have e := cplt_id d x1 y1 x2 y2 i
    rw [h1, h2, he, hi] at e
    refine Classical.byContradiction fun hn => ?_
    have hx1 : x1 * y1 ≠ 0 := fun h0 => by
      have e0 : d * x1 * x2 * y1 * y2 = d * x2 * y2 * (x1 * y1) := by clear e he h1 h2 hi hn h0; grind
      rw [e0, h0, Semiring.mul_zero, Semiring.mul_zero] at he
      exact Field.zero_ne_one (α := F) (by clear e h1 h2 hi hn h0 e0; grind)
    refine sq_absurd C (mul_ne hx1 hn) (a := y1 + i * x1) ?_
    apply sub_zero_eq
    rw [e]
    clear e h1 h2 he hi hn hx1; grind
  obtain ⟨i, hi⟩ := C.im
  have p := main i hi
  have q := main (-i) (by rw [← hi]; clear p hi h1 h2 he main; grind)
  have y0 : (2 : F) * y2 = 0 := by
    have e : (2 : F) * y2 = (y2 + i * (d * x1 * x2 * y1 * y2) * x2) + (y2 + -i * (d * x1 * x2 * y1 * y2) * x2) := by clear p q h1 h2 he main; grind
    rw [e, p, q]; clear p q h1 h2 he main e; grind
  have y0' : y2 = 0 := (Field.of_mul_eq_zero y0).elim (fun h => absurd h C.two) id
  rw [y0', Semiring.mul_zero, Semiring.mul_zero] at he
  exact Field.zero_ne_one (α := F) (by clear h1 h2 p q main y0 y0'; grind)
theorem den_ne (C : Cv d) (P R : Pt d) : 1 + d * P.x * R.x * P.y * R.y ≠ 0 ∧ 1 - d * P.x * R.x * P.y * R.y ≠ 0 := by
  constructor
  · intro h
    refine cplt C P.on R.on ?_
    have e : (d * P.x * R.x * P.y * R.y) * (d * P.x * R.x * P.y * R.y) - 1 = (1 + d * P.x * R.x * P.y * R.y) * (d * P.x * R.x * P.y * R.y - 1) := by clear h; grind
    rw [e, h, Semiring.zero_mul]
  · intro h
    refine cplt C P.on R.on ?_
    have e : (d * P.x * R.x * P.y * R.y) * (d * P.x * R.x * P.y * R.y) - 1 = (1 - d * P.x * R.x * P.y * R.y) * (-(d * P.x * R.x * P.y * R.y) - 1) := by clear h; grind
    rw [e, h, Semiring.zero_mul]
theorem close_id {R : Type} [CommRing R] (d A B p m c k : R) : (B * k) * (B * k) - (A * c) * (A * c) - 1 - d * (A * c) * (A * c) * (B * k) * (B * k) =
    c * c * k * k * ((B * p) * (B * p) - (A * m) * (A * m) - (p * m) * (p * m) - d * (A * B) * (A * B)) + (1 - p * c) * (1 + p * c) * (B * B * k * k) - (1 - m * k) * (1 + m * k) * (A * A * c * c)
      - (1 - p * c) * (1 + p * c) * (m * m * k * k) - (1 - m * k) * (1 + m * k) := by grind
noncomputable def add (C : Cv d) (P R : Pt d) : Pt d where
  x := (P.x * R.y + R.x * P.y) * (1 + d * P.x * R.x * P.y * R.y)⁻¹
  y := (P.y * R.y + P.x * R.x) * (1 - d * P.x * R.x * P.y * R.y)⁻¹
  on := by
    have hp := Field.mul_inv_cancel (den_ne C P R).1
    have hm := Field.mul_inv_cancel (den_ne C P R).2
    rw [close_id d _ _ (1 + d * P.x * R.x * P.y * R.y) (1 - d * P.x * R.x * P.y * R.y), closed, P.on, R.on, hp, hm]
    clear hp hm
    grind
theorem add_x (C : Cv d) (P R : Pt d) : (add C P R).x * (1 + d * P.x * R.x * P.y * R.y) = P.x * R.y + R.x * P.y := by
  have hp := Field.inv_mul_cancel (den_ne C P R).1
  show (P.x * R.y + R.x * P.y) * (1 + d * P.x * R.x * P.y * R.y)⁻¹ * (1 + d * P.x * R.x * P.y * R.y) = _
  rw [Semiring.mul_assoc, hp, Semiring.mul_one]
theorem add_y (C : Cv d) (P R : Pt d) : (add C P R).y * (1 - d * P.x * R.x * P.y * R.y) = P.y * R.y + P.x * R.x := by
  have hp := Field.inv_mul_cancel (den_ne C P R).2
  show (P.y * R.y + P.x * R.x) * (1 - d * P.x * R.x * P.y * R.y)⁻¹ * (1 - d * P.x * R.x * P.y * R.y) = _
  rw [Semiring.mul_assoc, hp, Semiring.mul_one]
/-- a point that answers to the law's two equations is the sum -/
theorem add_eq (C : Cv d) {P R S : Pt d} (hx : S.x * (1 + d * P.x * R.x * P.y * R.y) = P.x * R.y + R.x * P.y) (hy : S.y * (1 - d * P.x * R.x * P.y * R.y) = P.y * R.y + P.x * R.x) : S = add C P R :=
  Pt.ext2 (cancel (den_ne C P R).1 (hx.trans (add_x C P R).symm)) (cancel (den_ne C P R).2 (hy.trans (add_y C P R).symm))
theorem add_comm (C : Cv d) (P R : Pt d) : add C P R = add C R P := by
  refine add_eq C ?_ ?_
  · have h := add_x C P R
    have e : 1 + d * R.x * P.x * R.y * P.y = 1 + d * P.x * R.x * P.y * R.y := by clear h; grind
    rw [e, h]; clear h e; grind
  · have h := add_y C P R
    have e : 1 - d * R.x * P.x * R.y * P.y = 1 - d * P.x * R.x * P.y * R.y := by clear h; grind
    rw [e, h]; clear h e; grind
noncomputable def zero : Pt d := ⟨0, 1, by grind⟩
theorem zero_add (C : Cv d) (P : Pt d) : add C zero P = P := by
  symm
  refine add_eq C ?_ ?_
  · show P.x * (1 + d * 0 * P.x * 1 * P.y) = 0 * P.y + P.x * 1
    grind
  · show P.y * (1 - d * 0 * P.x * 1 * P.y) = 1 * P.y + 0 * P.x
    grind
theorem add_zero (C : Cv d) (P : Pt d) : add C P zero = P := by rw [add_comm, zero_add]
noncomputable def neg (P : Pt d) : Pt d := ⟨-P.x, P.y, by have h := P.on; rw [← h]; clear h; grind⟩
theorem add_neg (C : Cv d) (P : Pt d) : add C P (neg P) = zero := by
  symm
  refine add_eq C ?_ ?_
  · show 0 * (1 + d * P.x * -P.x * P.y * P.y) = P.x * P.y + -P.x * P.y
    grind
  · show 1 * (1 - d * P.x * -P.x * P.y * P.y) = P.y * P.y + P.x * -P.x
    have h := P.on
    apply sub_zero_eq
    have e : 1 * (1 - d * P.x * -P.x * P.y * P.y) - (P.y * P.y + P.x * -P.x) = -(P.y * P.y - P.x * P.x - 1 - d * P.x * P.x * P.y * P.y) := by clear h; grind
    rw [e, h]; clear h e; grind
/-- the x of (P + R) + V over one denominator -/
theorem num_x (C : Cv d) (P R V : Pt d) : (add C (add C P R) V).x * ((1 + d * P.x * R.x * P.y * R.y) * (1 - d * P.x * R.x * P.y * R.y) + d * ((P.x * R.y + R.x * P.y) * (P.y * R.y + P.x * R.x)) * V.x * V.y) =
    (P.x * R.y + R.x * P.y) * (1 - d * P.x * R.x * P.y * R.y) * V.y + V.x * ((P.y * R.y + P.x * R.x) * (1 + d * P.x * R.x * P.y * R.y)) := by
  have h := add_x C (add C P R) V
  have hx := add_x C P R
  have hy := add_y C P R
  rw [← hx, ← hy]
  generalize add C (add C P R) V = U at h ⊢
  generalize add C P R = S at h ⊢
  generalize 1 + d * P.x * R.x * P.y * R.y = p
  generalize 1 - d * P.x * R.x * P.y * R.y = m
  have e : U.x * (p * m + d * (S.x * p * (S.y * m)) * V.x * V.y) = (U.x * (1 + d * S.x * V.x * S.y * V.y)) * (p * m) := by clear h hx hy; grind
  rw [e, h]; clear e h hx hy; grind
theorem num_y (C : Cv d) (P R V : Pt d) : (add C (add C P R) V).y * ((1 + d * P.x * R.x * P.y * R.y) * (1 - d * P.x * R.x * P.y * R.y) - d * ((P.x * R.y + R.x * P.y) * (P.y * R.y + P.x * R.x)) * V.x * V.y) =
    (P.y * R.y + P.x * R.x) * (1 + d * P.x * R.x * P.y * R.y) * V.y + (P.x * R.y + R.x * P.y) * (1 - d * P.x * R.x * P.y * R.y) * V.x := by
  have h := add_y C (add C P R) V
  have hx := add_x C P R
  have hy := add_y C P R
  rw [← hx, ← hy]
  generalize add C (add C P R) V = U at h ⊢
  generalize add C P R = S at h ⊢
  generalize 1 + d * P.x * R.x * P.y * R.y = p
  generalize 1 - d * P.x * R.x * P.y * R.y = m
  have e : U.y * (p * m - d * (S.x * p * (S.y * m)) * V.x * V.y) = (U.y * (1 - d * S.x * V.x * S.y * V.y)) * (p * m) := by clear h hx hy; grind
  rw [e, h]; clear e h hx hy; grind
theorem den2_ne (C : Cv d) (P R V : Pt d) : (1 + d * P.x * R.x * P.y * R.y) * (1 - d * P.x * R.x * P.y * R.y) + d * ((P.x * R.y + R.x * P.y) * (P.y * R.y + P.x * R.x)) * V.x * V.y ≠ 0 ∧
    (1 + d * P.x * R.x * P.y * R.y) * (1 - d * P.x * R.x * P.y * R.y) - d * ((P.x * R.y + R.x * P.y) * (P.y * R.y + P.x * R.x)) * V.x * V.y ≠ 0 := by
  have hp := (den_ne C P R).1
  have hm := (den_ne C P R).2
  have q := den_ne C (add C P R) V
  rw [← add_x C P R, ← add_y C P R]
  generalize add C P R = S at q ⊢
  generalize 1 + d * P.x * R.x * P.y * R.y = p at hp ⊢
  generalize 1 - d * P.x * R.x * P.y * R.y = m at hm ⊢
  constructor
  · have e : p * m + d * (S.x * p * (S.y * m)) * V.x * V.y = (1 + d * S.x * V.x * S.y * V.y) * (p * m) := by clear q hp hm; grind
    rw [e]; exact mul_ne q.1 (mul_ne hp hm)
  · have e : p * m - d * (S.x * p * (S.y * m)) * V.x * V.y = (1 - d * S.x * V.x * S.y * V.y) * (p * m) := by clear q hp hm; grind
    rw [e]; exact mul_ne q.2 (mul_ne hp hm)
theorem fin_xy {u v D1 D2 N1 a b r : F} (n1 : u * D1 = N1) (n2 : v * D2 = a + b) (ax : N1 * D2 - (b + a) * D1 = r) (hr : r = 0) : u * (D1 * D2) = v * (D1 * D2) := by
  subst hr
  apply sub_zero_eq
  rw [← ax, ← n1, show b + a = v * D2 by rw [n2]; clear n1 n2 ax; grind]
  clear n1 n2 ax; grind
theorem add_assoc (C : Cv d) (P R V : Pt d) : add C (add C P R) V = add C P (add C R V) := by
  rw [add_comm C P (add C R V)]
  have n1 := num_x C P R V
  have n2 := num_x C R V P
  have m1 := num_y C P R V
  have m2 := num_y C R V P
  have k1 := den2_ne C P R V
  have k2 := den2_ne C R V P
  have ax := assoc_x d P.x P.y R.x R.y V.x V.y
  have ay := assoc_y d P.x P.y R.x R.y V.x V.y
  rw [P.on, R.on, V.on] at ax ay
  refine Pt.ext2 ?_ ?_
  · refine cancel (mul_ne k1.1 k2.1) ?_
    exact fin_xy n1 n2 ax (by clear n1 n2 m1 m2 k1 k2 ax ay; grind)
  · refine cancel (mul_ne k1.2 k2.2) ?_
    exact fin_xy m1 m2 ay (by clear n1 n2 m1 m2 k1 k2 ax ay; grind)
end
end MineE
namespace MineE
open Lean.Grind
section
variable {F : Type} [Field F] {d : F}
noncomputable def smul (C : Cv d) : Nat → Pt d → Pt d
  | 0, _ => zero
  | n + 1, P => add C (smul C n P) P
theorem smul_zero (C : Cv d) (P : Pt d) : smul C 0 P = zero := rfl
theorem smul_succ (C : Cv d) (n : Nat) (P : Pt d) : smul C (n + 1) P = add C (smul C n P) P := rfl
theorem smul_one (C : Cv d) (P : Pt d) : smul C 1 P = P := zero_add C P
theorem smul_add (C : Cv d) (m : Nat) (P : Pt d) : ∀ n, smul C (m + n) P = add C (smul C m P) (smul C n P)
  | 0 => (add_zero C _).symm
  | n + 1 => by rw [← Nat.add_assoc, smul_succ, smul_add C m P n, add_assoc, smul_succ]
theorem smul_two (C : Cv d) (P : Pt d) : smul C 2 P = add C P P := by rw [show 2 = 1 + 1 from rfl, smul_succ, smul_one]
theorem smul_of_zero (C : Cv d) : ∀ n, smul C n (zero : Pt d) = zero
  | 0 => rfl
  | n + 1 => by rw [smul_succ, smul_of_zero C n, add_zero]
theorem add_swap (C : Cv d) (A B P R : Pt d) : add C (add C A B) (add C P R) = add C (add C A P) (add C B R) := by
  rw [add_assoc, ← add_assoc C B P R, add_comm C B P, add_assoc C P B R, ← add_assoc]
theorem smul_addp (C : Cv d) (P R : Pt d) : ∀ n, smul C n (add C P R) = add C (smul C n P) (smul C n R)
  | 0 => (add_zero C _).symm
  | n + 1 => by rw [smul_succ, smul_succ, smul_succ, smul_addp C P R n, add_swap]
theorem smul_smul (C : Cv d) (m : Nat) (P : Pt d) : ∀ n, smul C n (smul C m P) = smul C (n * m) P
  | 0 => by rw [Nat.zero_mul]; rfl
  | n + 1 => by rw [smul_succ, smul_smul C m P n, Nat.succ_mul, smul_add]
theorem neg_uniq (C : Cv d) {P R : Pt d} (h : add C P R = zero) : R = neg P := by
  rw [← zero_add C R, ← add_neg C P, add_comm C P (neg P), add_assoc, h, add_zero]
theorem neg_zero (C : Cv d) : neg (zero : Pt d) = zero := (neg_uniq C (zero_add C zero)).symm
theorem neg_add (C : Cv d) (P R : Pt d) : neg (add C P R) = add C (neg P) (neg R) := (neg_uniq C (by rw [add_swap, add_neg, add_neg, zero_add])).symm
theorem smul_neg (C : Cv d) (P : Pt d) : ∀ n, smul C n (neg P) = neg (smul C n P)
  | 0 => (neg_zero C).symm
  | n + 1 => by rw [smul_succ, smul_neg C P n, smul_succ, neg_add]
theorem neg_neg (P : Pt d) : neg (neg P) = P := Pt.ext2 (by show - -P.x = P.x; grind) rfl
theorem add_cancel (C : Cv d) {A P R : Pt d} (h : add C A P = add C A R) : P = R := by
  rw [← zero_add C P, ← zero_add C R, ← add_neg C A, add_comm C A (neg A), add_assoc, add_assoc, h]
theorem smul_mod (C : Cv d) {k : Nat} {P : Pt d} (h : smul C k P = zero) (n : Nat) : smul C n P = smul C (n % k) P := by
  conv => lhs; rw [← Nat.div_add_mod n k]
  rw [smul_add, Nat.mul_comm, ← smul_smul, h, smul_of_zero, zero_add]
theorem smul_gcd (C : Cv d) {P : Pt d} : ∀ m n, smul C m P = zero → smul C n P = zero → smul C (Nat.gcd m n) P = zero := by
  intro m n
  induction m, n using Nat.gcd.induction with
  | H0 n => intro _ h; rw [Nat.gcd_zero_left]; exact h
  | H1 m n hm ih =>
    intro h1 h2
    rw [Nat.gcd_rec]
    exact ih (by rw [← smul_mod C h1 n]; exact h2) h1
theorem order_zero (C : Cv d) {P : Pt d} {L k : Nat} (hL : Pr L) (h : smul C L P = zero) (hk : smul C k P = zero) (hd : ¬ L ∣ k) : P = zero := by
  have g := smul_gcd C _ _ h hk
  rw [hL.coprime hd, smul_one] at g
  exact g
/-- a point one of whose coordinates is 0: four times it is zero -/
theorem four_zero (C : Cv d) {R : Pt d} (h : R.x = 0 ∨ R.y = 0) : smul C 4 R = zero := by
  have e0 : d * R.x * R.x * R.y * R.y = 0 := by
    rcases h with h | h <;> rw [h] <;> grind
  have hx := add_x C R R
  rw [e0] at hx
  have h2x : (smul C 2 R).x = 0 := by
    rw [smul_two]
    have : (add C R R).x * (1 + 0) = 0 := by rw [hx]; rcases h with h | h <;> rw [h] <;> grind
    rw [← this]; clear this hx; grind
  have h2y : (smul C 2 R).y * (smul C 2 R).y = 1 := by
    have := (smul C 2 R).on
    rw [h2x] at this
    apply sub_zero_eq
    rw [← this]; clear this h2x; grind
  rw [show 4 = 2 * 2 from rfl, ← smul_smul, smul_two]
  generalize smul C 2 R = V at h2x h2y
  symm
  refine add_eq C ?_ ?_
  · show 0 * (1 + d * V.x * V.x * V.y * V.y) = V.x * V.y + V.x * V.y
    rw [h2x]; clear h2x h2y hx e0; grind
  · show 1 * (1 - d * V.x * V.x * V.y * V.y) = V.y * V.y + V.x * V.x
    rw [h2y, h2x]; clear h2x h2y hx e0; grind
/-- three, four numbers that stand for a point -/
structure Rep3 (X Y Z : F) (P : Pt d) : Prop where
  nz : Z ≠ 0
  hx : X = P.x * Z
  hy : Y = P.y * Z
structure Rep4 (X Y Z T : F) (P : Pt d) : Prop where
  nz : Z ≠ 0
  hx : X = P.x * Z
  hy : Y = P.y * Z
  ht : T = P.x * P.y * Z
theorem rep3_zero : Rep3 (d := d) 0 1 1 zero := ⟨fun h => Field.zero_ne_one (α := F) h.symm, by show (0 : F) = 0 * 1; grind, by show (1 : F) = 1 * 1; grind⟩
theorem rep4_zero : Rep4 (d := d) 0 1 1 0 zero := ⟨fun h => Field.zero_ne_one (α := F) h.symm, by show (0 : F) = 0 * 1; grind, by show (1 : F) = 1 * 1; grind, by show (0 : F) = 0 * 1 * 1; grind⟩
theorem rep3_neg {X Y Z : F} {P : Pt d} (h : Rep3 X Y Z P) : Rep3 (-X) Y Z (neg P) := ⟨h.nz, by rw [h.hx]; show -(P.x * Z) = -P.x * Z; grind, h.hy⟩
theorem sum_rep (C : Cv d) {X1 Y1 Z1 X2 Y2 Z2 : F} {P R : Pt d} (h1 : Rep3 X1 Y1 Z1 P) (h2 : Rep3 X2 Y2 Z2 R) :
    Rep3 (Z1 * Z2 * (X1 * Y2 + Y1 * X2) * (Z1 * Z2 * (Z1 * Z2) - d * (X1 * X2) * (Y1 * Y2))) (Z1 * Z2 * (Y1 * Y2 + X1 * X2) * (Z1 * Z2 * (Z1 * Z2) + d * (X1 * X2) * (Y1 * Y2)))
      ((Z1 * Z2 * (Z1 * Z2) - d * (X1 * X2) * (Y1 * Y2)) * (Z1 * Z2 * (Z1 * Z2) + d * (X1 * X2) * (Y1 * Y2))) (add C P R) := by
  obtain ⟨n1, rfl, rfl⟩ := h1
  obtain ⟨n2, rfl, rfl⟩ := h2
  have hx := add_x C P R
  have hy := add_y C P R
  obtain ⟨dp, dm⟩ := den_ne C P R
  generalize add C P R = S at hx hy ⊢
  have em : Z1 * Z2 * (Z1 * Z2) - d * (P.x * Z1 * (R.x * Z2)) * (P.y * Z1 * (R.y * Z2)) = (1 - d * P.x * R.x * P.y * R.y) * (Z1 * Z2 * (Z1 * Z2)) := by clear hx hy n1 n2 dp dm; grind
  have ep : Z1 * Z2 * (Z1 * Z2) + d * (P.x * Z1 * (R.x * Z2)) * (P.y * Z1 * (R.y * Z2)) = (1 + d * P.x * R.x * P.y * R.y) * (Z1 * Z2 * (Z1 * Z2)) := by clear hx hy n1 n2 dp dm em; grind
  have e1 : P.x * Z1 * (R.y * Z2) + P.y * Z1 * (R.x * Z2) = (P.x * R.y + R.x * P.y) * (Z1 * Z2) := by clear hx hy n1 n2 dp dm em ep; grind
  have e2 : P.y * Z1 * (R.y * Z2) + P.x * Z1 * (R.x * Z2) = (P.y * R.y + P.x * R.x) * (Z1 * Z2) := by clear hx hy n1 n2 dp dm em ep e1; grind
  rw [em, ep, e1, e2, ← hx, ← hy]
  clear em ep e1 e2 hx hy
  generalize 1 + d * P.x * R.x * P.y * R.y = p at dp ⊢
  generalize 1 - d * P.x * R.x * P.y * R.y = m at dm ⊢
  have w := mul_ne n1 n2
  generalize Z1 * Z2 = z at w ⊢
  exact ⟨mul_ne (mul_ne dm (mul_ne w w)) (mul_ne dp (mul_ne w w)), by clear w dp dm n1 n2; grind, by clear w dp dm n1 n2; grind⟩
theorem ext_rep {X Y Z c : F} {P : Pt d} (hc : c ≠ 0) (h : Rep3 X Y Z P) : Rep4 (c * X * Z) (c * Y * Z) (c * Z * Z) (c * X * Y) P := by
  obtain ⟨n1, rfl, rfl⟩ := h
  exact ⟨mul_ne (mul_ne hc n1) n1, by clear n1 hc; grind, by clear n1 hc; grind, by clear n1 hc; grind⟩
theorem dbl_rep (C : Cv d) {X Y Z T : F} {P : Pt d} (h : Rep4 X Y Z T P) :
    Rep4 (((X + Y) * (X + Y) - X * X - Y * Y) * (-(X * X) + Y * Y - 2 * Z * Z)) ((-(X * X) + Y * Y) * (-(X * X) - Y * Y)) ((-(X * X) + Y * Y - 2 * Z * Z) * (-(X * X) + Y * Y)) (((X + Y) * (X + Y) - X * X - Y * Y) * (-(X * X) - Y * Y)) (add C P P) := by
  obtain ⟨n1, rfl, rfl, _⟩ := h
  have hx := add_x C P P
  have hy := add_y C P P
  obtain ⟨dp, dm⟩ := den_ne C P P
  generalize add C P P = S at hx hy ⊢
  have on := P.on
  have eg : -(P.x * Z * (P.x * Z)) + P.y * Z * (P.y * Z) = (1 + d * P.x * P.x * P.y * P.y) * (Z * Z) := by
    apply sub_zero_eq
    have e : -(P.x * Z * (P.x * Z)) + P.y * Z * (P.y * Z) - (1 + d * P.x * P.x * P.y * P.y) * (Z * Z) = (P.y * P.y - P.x * P.x - 1 - d * P.x * P.x * P.y * P.y) * (Z * Z) := by clear hx hy n1 dp dm on; grind
    rw [e, on, Semiring.zero_mul]
  have ef : (1 + d * P.x * P.x * P.y * P.y) * (Z * Z) - 2 * Z * Z = -((1 - d * P.x * P.x * P.y * P.y) * (Z * Z)) := by clear hx hy n1 dp dm on eg; grind
  have ee : (P.x * Z + P.y * Z) * (P.x * Z + P.y * Z) - P.x * Z * (P.x * Z) - P.y * Z * (P.y * Z) = (P.x * P.y + P.x * P.y) * (Z * Z) := by clear hx hy n1 dp dm on eg ef; grind
  have eh : -(P.x * Z * (P.x * Z)) - P.y * Z * (P.y * Z) = -((P.y * P.y + P.x * P.x) * (Z * Z)) := by clear hx hy n1 dp dm on eg ef ee; grind
  rw [eg, ef, ee, eh, ← hx, ← hy]
  clear eg ef ee eh hx hy on
  generalize 1 + d * P.x * P.x * P.y * P.y = p at dp ⊢
  generalize 1 - d * P.x * P.x * P.y * P.y = m at dm ⊢
  have w := mul_ne n1 n1
  generalize Z * Z = z at w ⊢
  refine ⟨?_, by clear w dp dm n1; grind, by clear w dp dm n1; grind, by clear w dp dm n1; grind⟩
  intro h0
  have e : -(m * z) * (p * z) = -((m * z) * (p * z)) := by clear h0 w dp dm n1; grind
  rw [e] at h0
  have : (m * z) * (p * z) = 0 := by
    have e2 : (m * z) * (p * z) = -(-((m * z) * (p * z))) := by clear h0 w dp dm n1 e; grind
    rw [e2, h0]; clear e2 h0 w dp dm n1 e; grind
  exact mul_ne (mul_ne dm w) (mul_ne dp w) this
theorem add_rep (C : Cv d) {X1 Y1 Z1 T1 X2 Y2 Z2 T2 : F} {P R : Pt d} (h1 : Rep4 X1 Y1 Z1 T1 P) (h2 : Rep4 X2 Y2 Z2 T2 R) :
    Rep4 (((Y1 + X1) * (Y2 + X2) - (Y1 - X1) * (Y2 - X2)) * (Z1 * 2 * Z2 - T1 * (2 * d) * T2)) ((Z1 * 2 * Z2 + T1 * (2 * d) * T2) * ((Y1 + X1) * (Y2 + X2) + (Y1 - X1) * (Y2 - X2)))
      ((Z1 * 2 * Z2 - T1 * (2 * d) * T2) * (Z1 * 2 * Z2 + T1 * (2 * d) * T2)) (((Y1 + X1) * (Y2 + X2) - (Y1 - X1) * (Y2 - X2)) * ((Y1 + X1) * (Y2 + X2) + (Y1 - X1) * (Y2 - X2))) (add C P R) := by
  obtain ⟨n1, rfl, rfl, rfl⟩ := h1
  obtain ⟨n2, rfl, rfl, rfl⟩ := h2
  have hx := add_x C P R
  have hy := add_y C P R
  obtain ⟨dp, dm⟩ := den_ne C P R
  generalize add C P R = S at hx hy ⊢
  have em : Z1 * 2 * Z2 - P.x * P.y * Z1 * (2 * d) * (R.x * R.y * Z2) = (1 - d * P.x * R.x * P.y * R.y) * (2 * (Z1 * Z2)) := by clear hx hy n1 n2 dp dm; grind
  have ep : Z1 * 2 * Z2 + P.x * P.y * Z1 * (2 * d) * (R.x * R.y * Z2) = (1 + d * P.x * R.x * P.y * R.y) * (2 * (Z1 * Z2)) := by clear hx hy n1 n2 dp dm em; grind
  have e1 : (P.y * Z1 + P.x * Z1) * (R.y * Z2 + R.x * Z2) - (P.y * Z1 - P.x * Z1) * (R.y * Z2 - R.x * Z2) = (P.x * R.y + R.x * P.y) * (2 * (Z1 * Z2)) := by clear hx hy n1 n2 dp dm em ep; grind
  have e2 : (P.y * Z1 + P.x * Z1) * (R.y * Z2 + R.x * Z2) + (P.y * Z1 - P.x * Z1) * (R.y * Z2 - R.x * Z2) = (P.y * R.y + P.x * R.x) * (2 * (Z1 * Z2)) := by clear hx hy n1 n2 dp dm em ep e1; grind
  rw [em, ep, e1, e2, ← hx, ← hy]
  clear em ep e1 e2 hx hy
  generalize 1 + d * P.x * R.x * P.y * R.y = p at dp ⊢
  generalize 1 - d * P.x * R.x * P.y * R.y = m at dm ⊢
  have w := mul_ne C.two (mul_ne n1 n2)
  generalize 2 * (Z1 * Z2) = z at w ⊢
  exact ⟨mul_ne (mul_ne dm w) (mul_ne dp w), by clear w dp dm n1 n2; grind, by clear w dp dm n1 n2; grind, by clear w dp dm n1 n2; grind⟩
theorem non_id1 {R : Type} [CommRing R] (d x1 y1 x2 y2 : R) : (x1 * y1 + x2 * y2) * (1 + d * x1 * x2 * y1 * y2) - (x1 * y2 + x2 * y1) * (y1 * y2 - x1 * x2) =
    -(x1 * y1) * (y2 * y2 - x2 * x2 - 1 - d * x2 * x2 * y2 * y2) - (x2 * y2) * (y1 * y1 - x1 * x1 - 1 - d * x1 * x1 * y1 * y1) := by grind
theorem non_id2 {R : Type} [CommRing R] (d x1 y1 x2 y2 : R) : (x1 * y1 - x2 * y2) * (1 - d * x1 * x2 * y1 * y2) - (y1 * y2 + x1 * x2) * (x1 * y2 - x2 * y1) =
    -(x1 * y1) * (y2 * y2 - x2 * x2 - 1 - d * x2 * x2 * y2 * y2) + (x2 * y2) * (y1 * y1 - x1 * x1 - 1 - d * x1 * x1 * y1 * y1) := by grind
theorem non_rep (C : Cv d) {X1 Y1 Z1 T1 X2 Y2 Z2 T2 : F} {P R : Pt d} (h1 : Rep4 X1 Y1 Z1 T1 P) (h2 : Rep4 X2 Y2 Z2 T2 R) (k1 : (add C P (neg R)).x ≠ 0) (k2 : (add C P (neg R)).y ≠ 0) :
    Rep4 ((T1 * 2 * Z2 + Z1 * 2 * T2) * ((Y1 + X1) * (Y2 - X2) - (Y1 - X1) * (Y2 + X2))) (((Y1 + X1) * (Y2 - X2) + (Y1 - X1) * (Y2 + X2)) * (T1 * 2 * Z2 - Z1 * 2 * T2))
      (((Y1 + X1) * (Y2 - X2) - (Y1 - X1) * (Y2 + X2)) * ((Y1 + X1) * (Y2 - X2) + (Y1 - X1) * (Y2 + X2))) ((T1 * 2 * Z2 + Z1 * 2 * T2) * (T1 * 2 * Z2 - Z1 * 2 * T2)) (add C P R) := by
  obtain ⟨n1, rfl, rfl, rfl⟩ := h1
  obtain ⟨n2, rfl, rfl, rfl⟩ := h2
  have hx := add_x C P R
  have hy := add_y C P R
  obtain ⟨dp, dm⟩ := den_ne C P R
  have i1 := non_id1 d P.x P.y R.x R.y
  have i2 := non_id2 d P.x P.y R.x R.y
  rw [P.on, R.on] at i1 i2
  -- the two denominators are not 0
  have j1 : P.x * R.y - R.x * P.y ≠ 0 := fun h0 => by
    have q := add_x C P (neg R)
    have e : P.x * (neg R).y + (neg R).x * P.y = P.x * R.y - R.x * P.y := by show P.x * R.y + -R.x * P.y = _; clear q h0 i1 i2 hx hy; grind
    rw [e, h0] at q
    exact mul_ne k1 (den_ne C P (neg R)).1 q
  have j2 : P.y * R.y - P.x * R.x ≠ 0 := fun h0 => by
    have q := add_y C P (neg R)
    have e : P.y * (neg R).y + P.x * (neg R).x = P.y * R.y - P.x * R.x := by show P.y * R.y + P.x * -R.x = _; clear q h0 i1 i2 hx hy; grind
    rw [e, h0] at q
    exact mul_ne k2 (den_ne C P (neg R)).2 q
  generalize add C P R = S at hx hy ⊢
  -- the sum by the other two fractions
  have sx : S.x * (P.y * R.y - P.x * R.x) = P.x * P.y + R.x * R.y := by
    refine cancel dp ?_
    apply sub_zero_eq
    have e : S.x * (P.y * R.y - P.x * R.x) * (1 + d * P.x * R.x * P.y * R.y) - (P.x * P.y + R.x * R.y) * (1 + d * P.x * R.x * P.y * R.y) =
      (S.x * (1 + d * P.x * R.x * P.y * R.y)) * (P.y * R.y - P.x * R.x) - (P.x * P.y + R.x * R.y) * (1 + d * P.x * R.x * P.y * R.y) := by clear i1 i2 hx hy j1 j2 dp dm n1 n2 k1 k2; grind
    rw [e, hx]
    have e2 : (P.x * R.y + R.x * P.y) * (P.y * R.y - P.x * R.x) - (P.x * P.y + R.x * R.y) * (1 + d * P.x * R.x * P.y * R.y) = -((P.x * P.y + R.x * R.y) * (1 + d * P.x * R.x * P.y * R.y) - (P.x * R.y + R.x * P.y) * (P.y * R.y - P.x * R.x)) := by
      clear i1 i2 hx hy j1 j2 dp dm n1 n2 k1 k2 e; grind
    rw [e2, i1]; clear i1 i2 hx hy j1 j2 dp dm n1 n2 k1 k2 e e2; grind
  have sy : S.y * (P.x * R.y - R.x * P.y) = P.x * P.y - R.x * R.y := by
    refine cancel dm ?_
    apply sub_zero_eq
    have e : S.y * (P.x * R.y - R.x * P.y) * (1 - d * P.x * R.x * P.y * R.y) - (P.x * P.y - R.x * R.y) * (1 - d * P.x * R.x * P.y * R.y) =
      (S.y * (1 - d * P.x * R.x * P.y * R.y)) * (P.x * R.y - R.x * P.y) - (P.x * P.y - R.x * R.y) * (1 - d * P.x * R.x * P.y * R.y) := by clear i1 i2 hx hy j1 j2 dp dm n1 n2 k1 k2 sx; grind
    rw [e, hy]
    have e2 : (P.y * R.y + P.x * R.x) * (P.x * R.y - R.x * P.y) - (P.x * P.y - R.x * R.y) * (1 - d * P.x * R.x * P.y * R.y) = -((P.x * P.y - R.x * R.y) * (1 - d * P.x * R.x * P.y * R.y) - (P.y * R.y + P.x * R.x) * (P.x * R.y - R.x * P.y)) := by
      clear i1 i2 hx hy j1 j2 dp dm n1 n2 k1 k2 e sx; grind
    rw [e2, i2]; clear i1 i2 hx hy j1 j2 dp dm n1 n2 k1 k2 e e2 sx; grind
  have e1 : P.x * P.y * Z1 * 2 * Z2 + Z1 * 2 * (R.x * R.y * Z2) = (P.x * P.y + R.x * R.y) * (2 * (Z1 * Z2)) := by clear i1 i2 hx hy j1 j2 dp dm n1 n2 k1 k2 sx sy; grind
  have e2 : P.x * P.y * Z1 * 2 * Z2 - Z1 * 2 * (R.x * R.y * Z2) = (P.x * P.y - R.x * R.y) * (2 * (Z1 * Z2)) := by clear i1 i2 hx hy j1 j2 dp dm n1 n2 k1 k2 sx sy e1; grind
  have e3 : (P.y * Z1 + P.x * Z1) * (R.y * Z2 - R.x * Z2) - (P.y * Z1 - P.x * Z1) * (R.y * Z2 + R.x * Z2) = (P.x * R.y - R.x * P.y) * (2 * (Z1 * Z2)) := by clear i1 i2 hx hy j1 j2 dp dm n1 n2 k1 k2 sx sy e1 e2; grind
  have e4 : (P.y * Z1 + P.x * Z1) * (R.y * Z2 - R.x * Z2) + (P.y * Z1 - P.x * Z1) * (R.y * Z2 + R.x * Z2) = (P.y * R.y - P.x * R.x) * (2 * (Z1 * Z2)) := by clear i1 i2 hx hy j1 j2 dp dm n1 n2 k1 k2 sx sy e1 e2 e3; grind
  rw [e1, e2, e3, e4, ← sx, ← sy]
  clear e1 e2 e3 e4 sx sy hx hy i1 i2
  generalize P.x * R.y - R.x * P.y = p at j1 ⊢
  generalize P.y * R.y - P.x * R.x = m at j2 ⊢
  have w := mul_ne C.two (mul_ne n1 n2)
  generalize 2 * (Z1 * Z2) = z at w ⊢
  exact ⟨mul_ne (mul_ne j1 w) (mul_ne j2 w), by clear w j1 j2 n1 n2 k1 k2 dp dm; grind, by clear w j1 j2 n1 n2 k1 k2 dp dm; grind, by clear w j1 j2 n1 n2 k1 k2 dp dm; grind⟩
end
end MineE
namespace MineE
open Lean.Grind
/-- a map from the ints onto a field, its kernel the multiples of p -/
structure Hm (p : Nat) {F : Type} [Field F] (φ : Int → F) : Prop where
  add : ∀ a b, φ (a + b) = φ a + φ b
  sub : ∀ a b, φ (a - b) = φ a - φ b
  mul : ∀ a b, φ (a * b) = φ a * φ b
  neg : ∀ a, φ (-a) = -φ a
  zero : φ 0 = 0
  one : φ 1 = 1
  two : φ 2 = 2
  ker : ∀ a : Int, φ a = 0 ↔ a % p = 0
  surj : ∀ s, ∃ a : Nat, φ a = s
section
open Classical
theorem fin_inv {p : Nat} [NeZero p] (hp : Pr p) {a : Fin p} (ha : a ≠ 0) : ∃ b : Fin p, a * b = 1 := by
  have hd : ¬ p ∣ a.val := fun h => by
    have := Nat.mod_eq_zero_of_dvd h
    rw [Nat.mod_eq_of_lt a.isLt] at this
    exact ha (Fin.ext (by simpa using this))
  have f := fermat1 hp hd
  refine ⟨Fin.ofNat p (a.val ^ (p - 2)), Fin.ext ?_⟩
  have h2 := hp.1
  rw [Fin.mul_def]
  show a.val * (a.val ^ (p - 2) % p) % p = 1 % p
  rw [Nat.mul_mod_mod, Nat.mul_comm, ← Nat.pow_succ, show (p - 2).succ = p - 1 by omega, f]
noncomputable def finInv {p : Nat} [NeZero p] (a : Fin p) : Fin p := if h : ∃ b : Fin p, a * b = 1 then choose h else 0
theorem finInv_spec {p : Nat} [NeZero p] (hp : Pr p) {a : Fin p} (ha : a ≠ 0) : a * finInv a = 1 := by
  unfold finInv
  rw [dif_pos (fin_inv hp ha)]
  exact choose_spec (fin_inv hp ha)
theorem fin_one_ne {p : Nat} [NeZero p] (hp : Pr p) : (0 : Fin p) ≠ 1 := fun h => by
  have h1 := congrArg Fin.val h
  have h2 := hp.1
  have : (0 : Nat) % p = 1 % p := h1
  rw [Nat.mod_eq_of_lt (show 1 < p by omega), Nat.mod_eq_of_lt (show 0 < p by omega)] at this
  exact absurd this (by decide)
theorem finInv_zero {p : Nat} [NeZero p] (hp : Pr p) : finInv (0 : Fin p) = 0 := by
  unfold finInv
  rw [dif_neg]
  rintro ⟨b, h⟩
  rw [Semiring.zero_mul] at h
  exact fin_one_ne hp h
theorem finInv_uniq {p : Nat} [NeZero p] (hp : Pr p) {a b : Fin p} (h : a * b = 1) : finInv a = b := by
  have ha : a ≠ 0 := fun e => by rw [e, Semiring.zero_mul] at h; exact fin_one_ne hp h
  have q := finInv_spec hp ha
  have : finInv a * (a * b) = b * (a * finInv a) := by rw [← Semiring.mul_assoc, CommSemiring.mul_comm (finInv a) a, CommSemiring.mul_comm]
  rw [h, q, Semiring.mul_one, Semiring.mul_one] at this
  exact this
theorem finInv_inv {p : Nat} [NeZero p] (hp : Pr p) (a : Fin p) : finInv (finInv a) = a := by
  by_cases ha : a = 0
  · rw [ha, finInv_zero hp, finInv_zero hp]
  · exact finInv_uniq hp (by rw [CommSemiring.mul_comm]; exact finInv_spec hp ha)
noncomputable def finZpow {p : Nat} [NeZero p] (a : Fin p) : Int → Fin p
  | .ofNat n => a ^ n
  | .negSucc n => finInv (a ^ (n + 1))
theorem finZpow_neg {p : Nat} [NeZero p] (hp : Pr p) (a : Fin p) : ∀ n : Int, finZpow a (-n) = finInv (finZpow a n)
  | .ofNat 0 => by
    show a ^ 0 = finInv (a ^ 0)
    rw [Semiring.pow_zero]
    exact (finInv_uniq hp (Semiring.mul_one 1)).symm
  | .ofNat (n + 1) => rfl
  | .negSucc n => (finInv_inv hp _).symm
@[reducible] noncomputable def fieldOf (p : Nat) [NeZero p] (hp : Pr p) : Field (Fin p) :=
  { (inferInstance : CommRing (Fin p)) with
    inv := finInv
    div := fun a b => a * finInv b
    zpow := ⟨finZpow⟩
    div_eq_mul_inv := fun _ _ => rfl
    zero_ne_one := fin_one_ne hp
    inv_zero := finInv_zero hp
    mul_inv_cancel := fun h => finInv_spec hp h
    zpow_zero := fun a => Semiring.pow_zero a
    zpow_succ := fun a n => Semiring.pow_succ a n
    zpow_neg := fun a n => finZpow_neg hp a n }
end
theorem exists_field (p : Nat) (hp : Pr p) : ∃ (F : Type) (i : Field F) (φ : Int → F), @Hm p F i φ := by
  haveI : NeZero p := ⟨fun h => by have := hp.1; omega⟩
  let R : CommRing (Fin p) := inferInstance
  refine ⟨Fin p, fieldOf p hp, fun a => @Int.cast (Fin p) R.toRing.intCast a, ?_⟩
  letI : Field (Fin p) := fieldOf p hp
  refine { add := Ring.intCast_add, sub := Ring.intCast_sub, mul := Ring.intCast_mul, neg := Ring.intCast_neg, zero := Ring.intCast_zero, one := Ring.intCast_one, two := Ring.intCast_ofNat 2, ker := ?_, surj := ?_ }
  · exact fun a => IsCharP.intCast_eq_zero_iff p a
  · intro s
    refine ⟨s.val, ?_⟩
    show @Int.cast (Fin p) R.toRing.intCast (s.val : Int) = s
    rw [Ring.intCast_natCast, ← Semiring.ofNat_eq_natCast]
    exact Fin.ext (Nat.mod_eq_of_lt s.isLt)
end MineE
namespace MineE
open Lean.Grind Mine
theorem fmod_Q (a : Int) : a.fmod 57896044618658097711785492504343953926634992332820282019728792003956564819949 = a % 57896044618658097711785492504343953926634992332820282019728792003956564819949 := Int.fmod_eq_emod_of_nonneg _ (by decide)
section
variable {F : Type} [Field F] {φ : Int → F}
theorem Hm.fm (h : Hm 57896044618658097711785492504343953926634992332820282019728792003956564819949 φ) (a : Int) : φ (a.fmod 57896044618658097711785492504343953926634992332820282019728792003956564819949) = φ a := by
  apply sub_zero_eq
  rw [← h.sub]
  refine (h.ker _).mpr ?_
  rw [fmod_Q]
  show (a % 57896044618658097711785492504343953926634992332820282019728792003956564819949 - a) % 57896044618658097711785492504343953926634992332820282019728792003956564819949 = 0
  omega
theorem Hm.eq (h : Hm 57896044618658097711785492504343953926634992332820282019728792003956564819949 φ) {a b : Int} (e : (a - b) % 57896044618658097711785492504343953926634992332820282019728792003956564819949 = 0) : φ a = φ b := by
  apply sub_zero_eq
  rw [← h.sub]
  exact (h.ker _).mpr e
/-- Euler's word: d is no square -/
theorem nonsq (a : Nat) : ¬ ((a : Int) * a - 37095705934669439343138083508754565189542113879843219016388785533085940283555) % 57896044618658097711785492504343953926634992332820282019728792003956564819949 = 0 := fun e => by
  have e1 : a * a % 57896044618658097711785492504343953926634992332820282019728792003956564819949 = 37095705934669439343138083508754565189542113879843219016388785533085940283555 % 57896044618658097711785492504343953926634992332820282019728792003956564819949 := by
    have e2 : ((a * a : Nat) : Int) = (a : Int) * a := Int.natCast_mul a a
    rw [← e2] at e
    omega
  have hd : ¬ 57896044618658097711785492504343953926634992332820282019728792003956564819949 ∣ a := fun hd => by
    have : a * a % 57896044618658097711785492504343953926634992332820282019728792003956564819949 = 0 := Nat.mod_eq_zero_of_dvd (Nat.dvd_mul_left_of_dvd hd a)
    rw [this] at e1
    exact absurd e1 (by decide)
  have f := fermat1 prQ hd
  have k : 57896044618658097711785492504343953926634992332820282019728792003956564819949 - 1 = 2 * 28948022309329048855892746252171976963317496166410141009864396001978282409974 := by decide
  rw [k, Nat.pow_mul, Nat.pow_two, Nat.pow_mod, e1, ← Nat.pow_mod] at f
  have q := pm_eq 57896044618658097711785492504343953926634992332820282019728792003956564819949 255 37095705934669439343138083508754565189542113879843219016388785533085940283555 28948022309329048855892746252171976963317496166410141009864396001978282409974 1 (by decide)
  rw [Nat.one_mul, f] at q
  exact absurd q (by decide +kernel)
theorem cv (h : Hm 57896044618658097711785492504343953926634992332820282019728792003956564819949 φ) : Cv (φ 37095705934669439343138083508754565189542113879843219016388785533085940283555) where
  two := fun e => by
    rw [← h.two] at e
    exact absurd ((h.ker 2).mp e) (by decide)
  im := ⟨φ 19681161376707505956807079304988542015446066515923890162744021073123829784752, by
    rw [← h.one, ← h.mul, ← h.add]
    exact (h.ker _).mpr (by decide)⟩
  ns := fun s e => by
    obtain ⟨a, rfl⟩ := h.surj s
    rw [← h.mul] at e
    have e2 : φ ((a : Int) * a - 37095705934669439343138083508754565189542113879843219016388785533085940283555) = 0 := by rw [h.sub, e]; grind
    exact nonsq a ((h.ker _).mp e2)
abbrev R3 (φ : Int → F) (v : V3) (P : Pt (φ 37095705934669439343138083508754565189542113879843219016388785533085940283555)) : Prop := Rep3 (φ v.x) (φ v.y) (φ v.z) P
abbrev R4 (φ : Int → F) (v : V4) (P : Pt (φ 37095705934669439343138083508754565189542113879843219016388785533085940283555)) : Prop := Rep4 (φ v.x) (φ v.y) (φ v.z) (φ v.t) P
theorem sumV_rep (h : Hm 57896044618658097711785492504343953926634992332820282019728792003956564819949 φ) {p q : V3} {P R : Pt (φ 37095705934669439343138083508754565189542113879843219016388785533085940283555)} (h1 : R3 φ p P) (h2 : R3 φ q R) : R3 φ (sumV p q) (add (cv h) P R) := by
  have r := sum_rep (cv h) h1 h2
  unfold sumV
  simp only [R3, h.fm, h.mul, h.add, h.sub]
  exact r
theorem dblV_rep (h : Hm 57896044618658097711785492504343953926634992332820282019728792003956564819949 φ) {p : V4} {P : Pt (φ 37095705934669439343138083508754565189542113879843219016388785533085940283555)} (h1 : R4 φ p P) : R4 φ (dblV p) (add (cv h) P P) := by
  have r := dbl_rep (cv h) h1
  unfold dblV
  simp only [R4, h.fm, h.mul, h.add, h.sub, h.neg, h.two]
  exact r
theorem phi_d (h : Hm 57896044618658097711785492504343953926634992332820282019728792003956564819949 φ) : φ (-4513249062541557337682894930092624173785641285191125241628941591882900924598840740) = φ 37095705934669439343138083508754565189542113879843219016388785533085940283555 := h.eq (by decide)
theorem addV_rep (h : Hm 57896044618658097711785492504343953926634992332820282019728792003956564819949 φ) {p q : V4} {P R : Pt (φ 37095705934669439343138083508754565189542113879843219016388785533085940283555)} (h1 : R4 φ p P) (h2 : R4 φ q R) : R4 φ (addV p q) (add (cv h) P R) := by
  have r := add_rep (cv h) h1 h2
  unfold addV
  simp only [R4, h.fm, h.mul, h.add, h.sub, phi_d h, h.two]
  exact r
theorem nonV_rep (h : Hm 57896044618658097711785492504343953926634992332820282019728792003956564819949 φ) {p q : V4} {P R : Pt (φ 37095705934669439343138083508754565189542113879843219016388785533085940283555)} (h1 : R4 φ p P) (h2 : R4 φ q R) (k1 : (add (cv h) P (neg R)).x ≠ 0) (k2 : (add (cv h) P (neg R)).y ≠ 0) : R4 φ (nonV p q) (add (cv h) P R) := by
  have r := non_rep (cv h) h1 h2 k1 k2
  unfold nonV
  simp only [R4, h.fm, h.mul, h.add, h.sub, h.two]
  exact r
theorem extV_rep (h : Hm 57896044618658097711785492504343953926634992332820282019728792003956564819949 φ) {p : V3} {c : Int} {P : Pt (φ 37095705934669439343138083508754565189542113879843219016388785533085940283555)} (hc : φ c ≠ 0) (h1 : R3 φ p P) : R4 φ (extV p c) P := by
  have r := ext_rep hc h1
  unfold extV
  simp only [R4, h.fm, h.mul]
  exact r
theorem negV_rep (h : Hm 57896044618658097711785492504343953926634992332820282019728792003956564819949 φ) {p : V3} {P : Pt (φ 37095705934669439343138083508754565189542113879843219016388785533085940283555)} (h1 : R3 φ p P) : R3 φ (negV p) (neg P) := by
  have r := rep3_neg h1
  unfold negV
  simp only [R3, h.fm, h.neg]
  exact r
theorem zeroV_rep (h : Hm 57896044618658097711785492504343953926634992332820282019728792003956564819949 φ) : R4 φ zeroV (zero : Pt (φ 37095705934669439343138083508754565189542113879843219016388785533085940283555)) := by
  have r := rep4_zero (d := φ 37095705934669439343138083508754565189542113879843219016388785533085940283555)
  unfold zeroV
  simp only [R4, h.zero, h.one]
  exact r
theorem timesA_rep (h : Hm 57896044618658097711785492504343953926634992332820282019728792003956564819949 φ) : ∀ (n : Nat) {f p : V3} {A P : Pt (φ 37095705934669439343138083508754565189542113879843219016388785533085940283555)}, R3 φ f A → R3 φ p P → R3 φ (timesA f p n) (add (cv h) A (smul (cv h) n P)) := by
  intro n
  induction n using Nat.strongRecOn with
  | ind n ih =>
    intro f p A P hf hp
    by_cases h0 : n = 0
    · subst h0
      rw [timesA_zero, smul_zero, add_zero]; exact hf
    · by_cases h1 : n % 2 = 1
      · rw [timesA_odd f p h0 h1]
        have r := ih (n / 2) (by omega) (sumV_rep h hf hp) (sumV_rep h hp hp)
        rw [← smul_two, smul_smul, add_assoc] at r
        have e : smul (cv h) n P = add (cv h) P (smul (cv h) (n / 2 * 2) P) := by
          conv => lhs; rw [show n = 1 + n / 2 * 2 by omega]
          rw [smul_add, smul_one]
        rw [e]; exact r
      · rw [timesA_even f p h0 h1]
        have r := ih (n / 2) (by omega) hf (sumV_rep h hp hp)
        rw [← smul_two, smul_smul, show n / 2 * 2 = n by omega] at r
        exact r
theorem timesV_rep (h : Hm 57896044618658097711785492504343953926634992332820282019728792003956564819949 φ) (n : Nat) {p : V3} {P : Pt (φ 37095705934669439343138083508754565189542113879843219016388785533085940283555)} (hp : R3 φ p P) : R3 φ (timesV p n) (smul (cv h) n P) := by
  have r := rep3_zero (d := φ 37095705934669439343138083508754565189542113879843219016388785533085940283555)
  have r0 : R3 φ ⟨0, 1, 1⟩ (zero : Pt (φ 37095705934669439343138083508754565189542113879843219016388785533085940283555)) := by simp only [R3, h.zero, h.one]; exact r
  have q := timesA_rep h n r0 hp
  rw [zero_add] at q
  unfold timesV
  exact q
theorem slowV_rep (h : Hm 57896044618658097711785492504343953926634992332820282019728792003956564819949 φ) {p : V4} {P : Pt (φ 37095705934669439343138083508754565189542113879843219016388785533085940283555)} (hp : R4 φ p P) : ∀ n, R4 φ (slowV p n) (smul (cv h) n P) := by
  intro n
  induction n using Nat.strongRecOn with
  | ind n ih =>
    by_cases h0 : n = 0
    · subst h0
      rw [slowV_zero]; exact zeroV_rep h
    · have r := dblV_rep h (ih (n / 2) (by omega))
      rw [← smul_two, smul_smul] at r
      by_cases h1 : n % 2 = 1
      · rw [slowV_odd p h0 h1]
        have e : smul (cv h) n P = add (cv h) (smul (cv h) (2 * (n / 2)) P) P := by
          conv => lhs; rw [show n = 2 * (n / 2) + 1 by omega]
          rw [smul_succ]
        rw [e]; exact addV_rep h r hp
      · rw [slowV_even p h0 h1]
        rw [show 2 * (n / 2) = n by omega] at r
        exact r
theorem not_four {L n : Nat} (hL : Pr L) (h5 : 5 ≤ L) (h0 : 0 < n) (h1 : n < L) : ¬ L ∣ 4 * n := fun d => by
  rcases hL.dvd_mul d with d | d
  · exact absurd (Nat.le_of_dvd (by decide) d) (by omega)
  · exact absurd (Nat.le_of_dvd h0 d) (by omega)
theorem seV_rep (h : Hm 57896044618658097711785492504343953926634992332820282019728792003956564819949 φ) {L : Nat} (hL : Pr L) (h5 : 5 ≤ L) {p : V4} {P : Pt (φ 37095705934669439343138083508754565189542113879843219016388785533085940283555)} (hp : R4 φ p P) (hP : smul (cv h) L P = zero) (hne : P ≠ zero) : ∀ n, n < L → R4 φ (seV p n) (smul (cv h) n P) := by
  intro n
  induction n using Nat.strongRecOn with
  | ind n ih =>
    intro hn
    by_cases h0 : n = 0
    · subst h0
      rw [seV_zero]; exact zeroV_rep h
    · have r := dblV_rep h (ih (n / 2) (by omega) (by omega))
      rw [← smul_two, smul_smul] at r
      by_cases h1 : n % 2 = 1
      · rw [seV_odd p h0 h1]
        have e : smul (cv h) n P = add (cv h) (smul (cv h) (2 * (n / 2)) P) P := by
          conv => lhs; rw [show n = 2 * (n / 2) + 1 by omega]
          rw [smul_succ]
        rw [e]
        have bad : ¬ ((add (cv h) (smul (cv h) (2 * (n / 2)) P) (neg P)).x = 0 ∨ (add (cv h) (smul (cv h) (2 * (n / 2)) P) (neg P)).y = 0) := fun hb => by
          have z := four_zero (cv h) hb
          rw [smul_addp, smul_smul, smul_neg] at z
          have z2 := neg_uniq (cv h) z
          by_cases hn1 : n = 1
          · subst hn1
            rw [show 4 * (2 * (1 / 2)) = 0 from rfl, smul_zero, neg_zero (cv h)] at z2
            have z3 : smul (cv h) 4 P = zero := by rw [← neg_neg (smul (cv h) 4 P), z2, neg_zero (cv h)]
            exact hne (order_zero (cv h) hL hP z3 (not_four hL h5 (by decide) (by omega : 1 < L)))
          · have z3 : smul (cv h) 4 P = smul (cv h) (4 * (2 * (n / 2))) P := by rw [← neg_neg (smul (cv h) 4 P), z2, neg_neg]
            rw [show 4 * (2 * (n / 2)) = 4 + 4 * (n - 2) by omega, smul_add] at z3
            have z4 : smul (cv h) (4 * (n - 2)) P = zero := (add_cancel (cv h) (A := smul (cv h) 4 P) (by rw [add_zero]; exact z3)).symm
            exact hne (order_zero (cv h) hL hP z4 (not_four hL h5 (by omega) (by omega)))
        rw [_root_.not_or] at bad
        exact nonV_rep h r hp bad.1 bad.2
      · rw [seV_even p h0 h1]
        rw [show 2 * (n / 2) = n by omega] at r
        exact r
end
end MineE
namespace MineE
open Lean.Grind Mine
noncomputable def timesF : Nat → V3 → V3 → Nat → V3
  | 0, f, _, _ => f
  | k + 1, f, p, n => timesF k (if n % 2 = 1 then sumV f p else f) (sumV p p) (n / 2)
theorem timesF_zero : ∀ (k : Nat) (f p : V3), timesF k f p 0 = f
  | 0, _, _ => rfl
  | k + 1, f, p => timesF_zero k f (sumV p p)
theorem timesF_eq : ∀ (k : Nat) (f p : V3) (n : Nat), n < 2 ^ k → timesA f p n = timesF k f p n
  | 0, f, p, n, hn => by
    have : n = 0 := by rw [Nat.pow_zero] at hn; omega
    subst this
    exact timesA_zero f p
  | k + 1, f, p, n, hn => by
    have hn' : n / 2 < 2 ^ k := by rw [Nat.pow_succ] at hn; omega
    by_cases h0 : n = 0
    · subst h0
      rw [timesA_zero, timesF_zero]
    · show _ = timesF k (if n % 2 = 1 then sumV f p else f) (sumV p p) (n / 2)
      by_cases h1 : n % 2 = 1
      · rw [timesA_odd f p h0 h1, if_pos h1]
        exact timesF_eq k _ _ _ hn'
      · rw [timesA_even f p h0 h1, if_neg h1]
        exact timesF_eq k _ _ _ hn'
theorem base_run : (timesF 253 ⟨0, 1, 1⟩ baseV 7237005577332262213973186563042994240857116359379907606001950938285454250989).x = 0 ∧ (timesF 253 ⟨0, 1, 1⟩ baseV 7237005577332262213973186563042994240857116359379907606001950938285454250989).y = (timesF 253 ⟨0, 1, 1⟩ baseV 7237005577332262213973186563042994240857116359379907606001950938285454250989).z := by decide +kernel
theorem eighth_run : (timesF 4 ⟨0, 1, 1⟩ eighthV 8).x = 0 ∧ (timesF 4 ⟨0, 1, 1⟩ eighthV 8).y = (timesF 4 ⟨0, 1, 1⟩ eighthV 8).z := by decide +kernel
section
variable {F : Type} [Field F] {φ : Int → F}
noncomputable def pB (h : Hm 57896044618658097711785492504343953926634992332820282019728792003956564819949 φ) : Pt (φ 37095705934669439343138083508754565189542113879843219016388785533085940283555) := ⟨φ 15112221349535400772501151409588531511454012693041857206046113283949847762202, φ 46316835694926478169428394003475163141307993866256225615783033603165251855960, by
  rw [← h.one, ← h.mul, ← h.mul, ← h.mul, ← h.mul, ← h.mul, ← h.mul, ← h.sub, ← h.sub, ← h.sub]
  exact (h.ker _).mpr (by decide +kernel)⟩
noncomputable def pE (h : Hm 57896044618658097711785492504343953926634992332820282019728792003956564819949 φ) : Pt (φ 37095705934669439343138083508754565189542113879843219016388785533085940283555) := ⟨φ 14399317868200118260347934320527232580618823971194345261214217575416788799818, φ 55188659117513257062467267217118295137698188065244968500265048394206261417927, by
  rw [← h.one, ← h.mul, ← h.mul, ← h.mul, ← h.mul, ← h.mul, ← h.mul, ← h.sub, ← h.sub, ← h.sub]
  exact (h.ker _).mpr (by decide +kernel)⟩
theorem one_ne (h : Hm 57896044618658097711785492504343953926634992332820282019728792003956564819949 φ) : φ 1 ≠ 0 := fun e => absurd ((h.ker 1).mp e) (by decide)
theorem mul_one' (h : Hm 57896044618658097711785492504343953926634992332820282019728792003956564819949 φ) (a : F) : a = a * φ 1 := by rw [h.one, Semiring.mul_one]
theorem base_rep (h : Hm 57896044618658097711785492504343953926634992332820282019728792003956564819949 φ) : R3 φ baseV (pB h) := ⟨one_ne h, mul_one' h _, mul_one' h _⟩
theorem eighth_rep (h : Hm 57896044618658097711785492504343953926634992332820282019728792003956564819949 φ) : R3 φ eighthV (pE h) := ⟨one_ne h, mul_one' h _, mul_one' h _⟩
theorem zero_of (h : Hm 57896044618658097711785492504343953926634992332820282019728792003956564819949 φ) {v : V3} {P : Pt (φ 37095705934669439343138083508754565189542113879843219016388785533085940283555)} (r : R3 φ v P) (hx : v.x = 0) (hy : v.y = v.z) : P = zero := by
  obtain ⟨nz, rx, ry⟩ := r
  rw [hx, h.zero] at rx
  rw [hy] at ry
  refine Pt.ext2 ?_ ?_
  · show P.x = 0
    exact (Field.of_mul_eq_zero rx.symm).elim id fun e => absurd e nz
  · show P.y = 1
    exact cancel nz (by rw [← ry, Semiring.one_mul])
theorem base_order (h : Hm 57896044618658097711785492504343953926634992332820282019728792003956564819949 φ) : smul (cv h) 7237005577332262213973186563042994240857116359379907606001950938285454250989 (pB h) = zero := by
  have r := timesV_rep h 7237005577332262213973186563042994240857116359379907606001950938285454250989 (base_rep h)
  unfold timesV at r
  rw [timesF_eq 253 _ _ _ (by decide)] at r
  exact zero_of h r base_run.1 base_run.2
theorem eighth_order (h : Hm 57896044618658097711785492504343953926634992332820282019728792003956564819949 φ) : smul (cv h) 8 (pE h) = zero := by
  have r := timesV_rep h 8 (eighth_rep h)
  unfold timesV at r
  rw [timesF_eq 4 _ _ _ (by decide)] at r
  exact zero_of h r eighth_run.1 eighth_run.2
theorem base_ne (h : Hm 57896044618658097711785492504343953926634992332820282019728792003956564819949 φ) : pB h ≠ zero := fun e => by
  have e1 : φ 15112221349535400772501151409588531511454012693041857206046113283949847762202 = 0 := congrArg Pt.x e
  exact absurd ((h.ker _).mp e1) (by decide)
/-- a multiple by an int -/
noncomputable def zs (h : Hm 57896044618658097711785492504343953926634992332820282019728792003956564819949 φ) (c : Int) (P : Pt (φ 37095705934669439343138083508754565189542113879843219016388785533085940283555)) : Pt (φ 37095705934669439343138083508754565189542113879843219016388785533085940283555) := if c < 0 then neg (smul (cv h) c.natAbs P) else smul (cv h) c.natAbs P
theorem pointV_rep (h : Hm 57896044618658097711785492504343953926634992332820282019728792003956564819949 φ) (c e : Int) : R3 φ (pointV c e) (add (cv h) (zs h c (pB h)) (smul (cv h) e.toNat (pE h))) := by
  unfold pointV zs
  by_cases hc : c < 0
  · rw [if_pos hc, if_pos hc]
    exact sumV_rep h (negV_rep h (timesV_rep h _ (base_rep h))) (timesV_rep h _ (eighth_rep h))
  · rw [if_neg hc, if_neg hc]
    exact sumV_rep h (timesV_rep h _ (base_rep h)) (timesV_rep h _ (eighth_rep h))
theorem zs_mul (h : Hm 57896044618658097711785492504343953926634992332820282019728792003956564819949 φ) (c : Int) (t r : Nat) : smul (cv h) (t * 7237005577332262213973186563042994240857116359379907606001950938285454250989 + r) (zs h c (pB h)) = zs h (c * r) (pB h) := by
  have key : ∀ m : Nat, smul (cv h) (t * 7237005577332262213973186563042994240857116359379907606001950938285454250989 + r) (smul (cv h) m (pB h)) = smul (cv h) (m * r) (pB h) := by
    intro m
    rw [smul_smul, Nat.add_mul, smul_add]
    have e : smul (cv h) (t * 7237005577332262213973186563042994240857116359379907606001950938285454250989 * m) (pB h) = zero := by
      rw [show t * 7237005577332262213973186563042994240857116359379907606001950938285454250989 * m = (t * m) * 7237005577332262213973186563042994240857116359379907606001950938285454250989 by rw [Nat.mul_right_comm], ← smul_smul, base_order, smul_of_zero]
    rw [e, zero_add, Nat.mul_comm]
  unfold zs
  by_cases hc : c < 0
  · rw [if_pos hc, smul_neg, key]
    by_cases hr : r = 0
    · subst hr
      have e0 : c * ((0 : Nat) : Int) = 0 := Int.mul_zero c
      rw [Nat.mul_zero, smul_zero, neg_zero (cv h), e0, if_neg (by decide)]; rfl
    · have hneg : c * (r : Int) < 0 := Int.mul_neg_of_neg_of_pos hc (by omega)
      rw [if_pos hneg, Int.natAbs_mul, Int.natAbs_natCast]
  · have hnn : ¬ c * (r : Int) < 0 := by
      have := Int.mul_nonneg (show 0 ≤ c by omega) (show (0 : Int) ≤ (r : Int) by omega)
      omega
    rw [if_neg hc, if_neg hnn, key, Int.natAbs_mul, Int.natAbs_natCast]
theorem eight_mul (h : Hm 57896044618658097711785492504343953926634992332820282019728792003956564819949 φ) (s t r : Nat) : smul (cv h) (t * 7237005577332262213973186563042994240857116359379907606001950938285454250989 + r) (smul (cv h) s (pE h)) = smul (cv h) (s * (5 * t + r) % 8) (pE h) := by
  rw [smul_smul, smul_mod (cv h) (eighth_order h) ((t * 7237005577332262213973186563042994240857116359379907606001950938285454250989 + r) * s)]
  have e : (t * 7237005577332262213973186563042994240857116359379907606001950938285454250989 + r) * s = s * (5 * t + r) + 8 * (t * s * 904625697166532776746648320380374280107139544922488450750243867285681781373) := by grind
  rw [e, Nat.add_mul_mod_self_left]
theorem stands_of (h : Hm 57896044618658097711785492504343953926634992332820282019728792003956564819949 φ) {f : V4} {r : V3} {P : Pt (φ 37095705934669439343138083508754565189542113879843219016388785533085940283555)} (h1 : R4 φ f P) (h2 : R3 φ r P) : Stands f.x f.y f.z f.t r.x r.y r.z := by
  obtain ⟨n1, x1, y1, t1⟩ := h1
  obtain ⟨n2, x2, y2⟩ := h2
  refine ⟨?_, ?_, ?_, ?_⟩
  · intro e
    refine n1 ((h.ker _).mpr ?_)
    rw [fmod_Q] at e; exact e
  · rw [fmod_Q]
    refine (h.ker _).mp ?_
    rw [h.sub, h.mul, h.mul, x1, y1, t1]; clear x1 y1 t1 n1 n2 x2 y2; grind
  · rw [fmod_Q]
    refine (h.ker _).mp ?_
    rw [h.sub, h.mul, h.mul, x1, x2]; clear x1 y1 t1 n1 n2 x2 y2; grind
  · rw [fmod_Q]
    refine (h.ker _).mp ?_
    rw [h.sub, h.mul, h.mul, y1, y2]; clear x1 y1 t1 n1 n2 x2 y2; grind
theorem scale_ne (h : Hm 57896044618658097711785492504343953926634992332820282019728792003956564819949 φ) (a : Int) : φ (1 + a.fmod 1000) ≠ 0 := fun e => by
  have q := (h.ker _).mp e
  rw [Int.fmod_eq_emod_of_nonneg _ (by decide)] at q
  omega
end
theorem M0 {a b c d : Int} {x y z x1 y1 z1 t1 x2 y2 z2 x3 y3 z3 t3 : Int} (e1 : V3.mk x y z = pointV (a.fmod 41 - 20) (b.fmod 8)) (e2 : V4.mk x1 y1 z1 t1 = extV ⟨x, y, z⟩ (1 + d.fmod 1000))
    (e3 : V3.mk x2 y2 z2 = pointV ((a.fmod 41 - 20) * (c.fdiv 4).fmod 9) ((b.fmod 8 * (5 * c.fmod 4 + (c.fdiv 4).fmod 9)).fmod 8)) (e4 : V4.mk x3 y3 z3 t3 = slowV ⟨x1, y1, z1, t1⟩ (c.fmod 4 * 7237005577332262213973186563042994240857116359379907606001950938285454250989 + (c.fdiv 4).fmod 9).toNat) :
    Stands x3 y3 z3 t3 x2 y2 z2 := by
  obtain ⟨F, i, φ, h⟩ := exists_field 57896044618658097711785492504343953926634992332820282019728792003956564819949 prQ
  have r1 := pointV_rep h (a.fmod 41 - 20) (b.fmod 8)
  rw [← e1] at r1
  have r2 := extV_rep h (scale_ne h d) r1
  rw [← e2] at r2
  generalize hu : c.fmod 4 = u at e3 e4
  generalize hv : (c.fdiv 4).fmod 9 = v at e3 e4
  generalize hs : b.fmod 8 = s at e3 r2 r1 e1
  have hu0 : 0 ≤ u := by rw [← hu]; exact Int.fmod_nonneg_of_pos _ (by decide)
  have hv0 : 0 ≤ v := by rw [← hv]; exact Int.fmod_nonneg_of_pos _ (by decide)
  have hs0 : 0 ≤ s := by rw [← hs]; exact Int.fmod_nonneg_of_pos _ (by decide)
  have r4 := slowV_rep h r2 (u * 7237005577332262213973186563042994240857116359379907606001950938285454250989 + v).toNat
  rw [← e4] at r4
  have r3 := pointV_rep h ((a.fmod 41 - 20) * v) ((s * (5 * u + v)).fmod 8)
  rw [← e3] at r3
  obtain ⟨t, rfl⟩ := Int.eq_ofNat_of_zero_le hu0
  obtain ⟨r, rfl⟩ := Int.eq_ofNat_of_zero_le hv0
  obtain ⟨k, rfl⟩ := Int.eq_ofNat_of_zero_le hs0
  have en : ((t : Int) * 7237005577332262213973186563042994240857116359379907606001950938285454250989 + r).toNat = t * 7237005577332262213973186563042994240857116359379907606001950938285454250989 + r := by omega
  have ek : (((k : Int) * (5 * t + r)).fmod 8).toNat = k * (5 * t + r) % 8 := by
    rw [Int.fmod_eq_emod_of_nonneg _ (by decide)]
    have : ((k : Int) * (5 * t + r)) = ((k * (5 * t + r) : Nat) : Int) := by rw [Int.natCast_mul, Int.natCast_add, Int.natCast_mul]; rfl
    rw [this]
    omega
  rw [en, smul_addp, zs_mul, Int.toNat_natCast, eight_mul] at r4
  rw [ek] at r3
  exact stands_of h (f := ⟨x3, y3, z3, t3⟩) (r := ⟨x2, y2, z2⟩) r4 r3
theorem M2 {a b c d : Int} {x y z x1 y1 z1 t1 x2 y2 z2 x3 y3 z3 t3 : Int} (e1 : V3.mk x y z = pointV (a.fmod 41 - 20) (b.fmod 8)) (e2 : V4.mk x1 y1 z1 t1 = extV ⟨x, y, z⟩ (1 + d.fmod 1000))
    (e3 : V3.mk x2 y2 z2 = timesV ⟨x, y, z⟩ (c.fmod 7237005577332262213973186563042994240857116359379907606001950938285454250989).toNat) (e4 : V4.mk x3 y3 z3 t3 = slowV ⟨x1, y1, z1, t1⟩ (c.fmod 7237005577332262213973186563042994240857116359379907606001950938285454250989).toNat) :
    Stands x3 y3 z3 t3 x2 y2 z2 := by
  obtain ⟨F, i, φ, h⟩ := exists_field 57896044618658097711785492504343953926634992332820282019728792003956564819949 prQ
  have r1 := pointV_rep h (a.fmod 41 - 20) (b.fmod 8)
  rw [← e1] at r1
  have r2 := extV_rep h (scale_ne h d) r1
  rw [← e2] at r2
  have r4 := slowV_rep h r2 (c.fmod 7237005577332262213973186563042994240857116359379907606001950938285454250989).toNat
  rw [← e4] at r4
  have r3 := timesV_rep h (c.fmod 7237005577332262213973186563042994240857116359379907606001950938285454250989).toNat r1
  rw [← e3] at r3
  exact stands_of h (f := ⟨x3, y3, z3, t3⟩) (r := ⟨x2, y2, z2⟩) r4 r3
theorem M1 {a c d : Int} {x y z x1 y1 z1 t1 x2 y2 z2 x3 y3 z3 t3 : Int} (e1 : V3.mk x y z = pointV (1 + a.fmod 20) 0) (e2 : V4.mk x1 y1 z1 t1 = extV ⟨x, y, z⟩ (1 + d.fmod 1000))
    (e3 : V3.mk x2 y2 z2 = timesV ⟨x, y, z⟩ (c.fmod 7237005577332262213973186563042994240857116359379907606001950938285454250989).toNat) (e4 : V4.mk x3 y3 z3 t3 = seV ⟨x1, y1, z1, t1⟩ (c.fmod 7237005577332262213973186563042994240857116359379907606001950938285454250989).toNat) :
    Stands x3 y3 z3 t3 x2 y2 z2 := by
  obtain ⟨F, i, φ, h⟩ := exists_field 57896044618658097711785492504343953926634992332820282019728792003956564819949 prQ
  have r1 := pointV_rep h (1 + a.fmod 20) 0
  rw [← e1] at r1
  have h0 := Int.fmod_nonneg_of_pos a (show (0 : Int) < 20 by decide)
  have h1 := Int.fmod_lt_of_pos a (show (0 : Int) < 20 by decide)
  have hP : add (cv h) (zs h (1 + a.fmod 20) (pB h)) (smul (cv h) (Int.toNat 0) (pE h)) = smul (cv h) (1 + a.fmod 20).natAbs (pB h) := by
    show add (cv h) (zs h (1 + a.fmod 20) (pB h)) zero = _
    rw [add_zero]
    unfold zs
    rw [if_neg (by omega)]
  rw [hP] at r1
  have r2 := extV_rep h (scale_ne h d) r1
  rw [← e2] at r2
  have hn0 := Int.fmod_nonneg_of_pos c (show (0 : Int) < 7237005577332262213973186563042994240857116359379907606001950938285454250989 by decide)
  have hn1 := Int.fmod_lt_of_pos c (show (0 : Int) < 7237005577332262213973186563042994240857116359379907606001950938285454250989 by decide)
  have hk1 : 0 < (1 + a.fmod 20).natAbs := by omega
  have hk2 : (1 + a.fmod 20).natAbs < 7237005577332262213973186563042994240857116359379907606001950938285454250989 := by omega
  generalize (1 + a.fmod 20).natAbs = k at r1 r2 hk1 hk2
  have oL : smul (cv h) 7237005577332262213973186563042994240857116359379907606001950938285454250989 (smul (cv h) k (pB h)) = zero := by
    rw [smul_smul, Nat.mul_comm, ← smul_smul, base_order, smul_of_zero]
  have ne : smul (cv h) k (pB h) ≠ zero := fun e => base_ne h (order_zero (cv h) prL (base_order h) e fun dv => absurd (Nat.le_of_dvd hk1 dv) (by omega))
  have r4 := seV_rep h prL (by decide) r2 oL ne (c.fmod 7237005577332262213973186563042994240857116359379907606001950938285454250989).toNat (by omega)
  rw [← e4] at r4
  have r3 := timesV_rep h (c.fmod 7237005577332262213973186563042994240857116359379907606001950938285454250989).toNat r1
  rw [← e3] at r3
  exact stands_of h (f := ⟨x3, y3, z3, t3⟩) (r := ⟨x2, y2, z2⟩) r4 r3
end MineE
open PySem PySem.W PyProof.Rows
set_option Elab.async false
namespace Mine
theorem bits_In {x : Int} (h : InQ x) : Builtin.Int.intBits x ≤ 255 := by
  obtain ⟨h0, h1⟩ := h
  refine intBits_le ?_
  have : (2:Nat) ^ 255 = 57896044618658097711785492504343953926634992332820282019728792003956564819968 := by decide
  omega
theorem bits_modQ (a : Int) : Builtin.Int.intBits (a.fmod 57896044618658097711785492504343953926634992332820282019728792003956564819949) ≤ 255 := bits_In (fmod_InQ a)
/-- what a call that brings a tuple of four hands on -/
abbrev Ret4 (h₀ : Heap) (L : Addr) (m : Str → Option Value) (news : List (Addr × Obj)) (s : Shared) (Q : Value → Shared → Prop) (p : V4) : Prop :=
  ∀ (D : Addr) (x y z t : Int) (u1 u2 u3 u4 : Tok) (n : Nat) (h' : Heap) (tk' : Nat), V4.mk x y z t = p → InQ x → InQ y → InQ z → InQ t → Fr h₀ L h' m →
    News h₀ L h' ((D, ({ cls := .type "tuple", data := .seq #[.int x u1, .int y u2, .int z u3, .int t u4] n } : Obj)) :: news) → Q (.ref D) { s with heap := h', toks := tk' }
abbrev Ask (K : Params → Frag) (V : Program) (lo : List Str) (w : World) (mean : ExcName → Option Value) (mg mb : Str → Option Value) (f : Addr) (sz : Nat) (news : List (Addr × Obj)) (vs : List Value)
    (R : Heap → Addr → (Str → Option Value) → Shared → (Value → Shared → Prop) → Prop) : Prop :=
  ∀ (dp un : Nat) (gd : Option (List Code)) (cn : Str) (cs : Scope) (a : Addr) (ccd : Value) (cl : List (Str × Addr)) (outer : List Env) (A₀ : Around) (base h₀ : Heap) (L : Addr) (m : Str → Option Value) (s : Shared) (Q E : Value → Shared → Prop),
  Below A₀ base outer h₀ → Fr h₀ L s.heap m → (K w.params).In h₀ → News h₀ L s.heap news → Top V lo mean mg mb h₀ → cs.kind = .function →
  dp + sz < recursionLimit → un + 8 * sz < cLine → R h₀ L m s Q →
  wpAny (model PySem.Challenge.rw_jx0020_01.row.prog w) (ktrTop dp un gd cn cs L a ccd cl outer) (call (.ref f) vs) Q E s
theorem ret4 {h₀ h' : Heap} {L D : Addr} {m : Str → Option Value} {news : List (Addr × Obj)} {s : Shared} {Q : Value → Shared → Prop} {p : V4} {x y z t : Int} {u1 u2 u3 u4 : Tok} {n : Nat} {tk' : Nat}
    (hret : Ret4 h₀ L m news s Q p) (e : V4.mk x y z t = p) (hi : p.In) (F : Fr h₀ L h' m)
    (N : News h₀ L h' ((D, ({ cls := .type "tuple", data := .seq #[.int x u1, .int y u2, .int z u3, .int t u4] n } : Obj)) :: news)) : Q (.ref D) { s with heap := h', toks := tk' } := by
  have hi' : (V4.mk x y z t).In := by rw [e]; exact hi
  exact hret D x y z t u1 u2 u3 u4 n h' tk' e hi'.1 hi'.2.1 hi'.2.2.1 hi'.2.2.2 F N

theorem bits_d : Builtin.Int.intBits (-4513249062541557337682894930092624173785641285191125241628941591882900924598840740) ≤ 300 := by decide
theorem bits_D : Builtin.Int.intBits (37095705934669439343138083508754565189542113879843219016388785533085940283555) ≤ 300 := by decide
abbrev Ret3 (h₀ : Heap) (L : Addr) (m : Str → Option Value) (news : List (Addr × Obj)) (s : Shared) (Q : Value → Shared → Prop) (p : V3) : Prop :=
  ∀ (D : Addr) (x y z : Int) (u1 u2 u3 : Tok) (n : Nat) (h' : Heap) (tk' : Nat), V3.mk x y z = p → InQ x → InQ y → InQ z → Fr h₀ L h' m →
    News h₀ L h' ((D, ({ cls := .type "tuple", data := .seq #[.int x u1, .int y u2, .int z u3] n } : Obj)) :: news) → Q (.ref D) { s with heap := h', toks := tk' }
theorem ret3 {h₀ h' : Heap} {L D : Addr} {m : Str → Option Value} {news : List (Addr × Obj)} {s : Shared} {Q : Value → Shared → Prop} {p : V3} {x y z : Int} {u1 u2 u3 : Tok} {n : Nat} {tk' : Nat}
    (hret : Ret3 h₀ L m news s Q p) (e : V3.mk x y z = p) (hi : p.In) (F : Fr h₀ L h' m)
    (N : News h₀ L h' ((D, ({ cls := .type "tuple", data := .seq #[.int x u1, .int y u2, .int z u3] n } : Obj)) :: news)) : Q (.ref D) { s with heap := h', toks := tk' } := by
  have hi' : (V3.mk x y z).In := by rw [e]; exact hi
  exact hret D x y z u1 u2 u3 n h' tk' e hi'.1 hi'.2.1 hi'.2.2 F N

theorem drop1 {h₀ h : Heap} {L : Addr} {p q : Addr × Obj} {news : List (Addr × Obj)} (N : News h₀ L h (p :: q :: news)) : News h₀ L h (p :: news) := cb_drop N fun r hr => by
  rcases List.mem_cons.mp hr with e | e
  · exact List.mem_cons.mpr (.inl e)
  · exact List.mem_cons_of_mem _ (List.mem_cons_of_mem _ e)
theorem drop2 {h₀ h : Heap} {L : Addr} {p q q2 : Addr × Obj} {news : List (Addr × Obj)} (N : News h₀ L h (p :: q :: q2 :: news)) : News h₀ L h (p :: news) := drop1 (drop1 N)
theorem drop3 {h₀ h : Heap} {L : Addr} {p q q2 q3 : Addr × Obj} {news : List (Addr × Obj)} (N : News h₀ L h (p :: q :: q2 :: q3 :: news)) : News h₀ L h (p :: news) := drop1 (drop2 N)
theorem half_eq {c : Int} (h : 0 ≤ c) : c.fdiv (2 ^ Int.toNat 1) = ((c.toNat / 2 : Nat) : Int) := by
  rw [show ((2:Int) ^ Int.toNat 1) = 2 from rfl, Int.fdiv_eq_ediv_of_nonneg _ (by decide)]
  omega
theorem half_nonneg {c : Int} (h : 0 ≤ c) : 0 ≤ c.fdiv (2 ^ Int.toNat 1) := by
  rw [half_eq h]; omega
theorem half_lt {c : Int} {k : Nat} (h : 0 ≤ c) (hc : c < 2 ^ (k + 1)) : c.fdiv (2 ^ Int.toNat 1) < 2 ^ k := by
  rw [half_eq h]
  rw [Int.pow_succ] at hc
  omega
theorem half_toNat {c : Int} (h : 0 ≤ c) : (c.fdiv (2 ^ Int.toNat 1)).toNat = c.toNat / 2 := by
  rw [half_eq h]; omega
theorem odd_of {c : Int} (h : 0 ≤ c) (a : Builtin.bitAnd c 1 ≠ 0) : c.toNat % 2 = 1 := by
  rw [PyProof.Rows.bitAnd_m1] at a; omega
theorem even_of {c : Int} (h : 0 ≤ c) (a : Builtin.bitAnd c 1 = 0) : c.toNat % 2 ≠ 1 := by
  rw [PyProof.Rows.bitAnd_m1] at a; omega
theorem slow_end0 {c : Int} {p v : V4} (a : c = 0) (e : v = zeroV) : v = slowV p c.toNat := by
  subst a; rw [e]; exact (slowV_zero p).symm
theorem slow_end1 {c : Int} {p q r v : V4} (h0 : 0 ≤ c) (a : c ≠ 0) (b : Builtin.bitAnd c 1 ≠ 0) (e1 : q = slowV p (c.fdiv (2 ^ Int.toNat 1)).toNat) (e2 : r = dblV q) (e3 : v = addV r p) : v = slowV p c.toNat := by
  rw [slowV_odd p (by omega) (odd_of h0 b), e3, e2, e1, half_toNat h0]
theorem slow_end2 {c : Int} {p q r : V4} (h0 : 0 ≤ c) (a : c ≠ 0) (b : Builtin.bitAnd c 1 = 0) (e1 : q = slowV p (c.fdiv (2 ^ Int.toNat 1)).toNat) (e2 : r = dblV q) : r = slowV p c.toNat := by
  rw [slowV_even p (by omega) (even_of h0 b), e2, e1, half_toNat h0]
theorem se_end0 {c : Int} {p v : V4} (a : c = 0) (e : v = zeroV) : v = seV p c.toNat := by
  subst a; rw [e]; exact (seV_zero p).symm
theorem se_end1 {c : Int} {p q r v : V4} (h0 : 0 ≤ c) (a : c ≠ 0) (b : Builtin.bitAnd c 1 ≠ 0) (e1 : q = seV p (c.fdiv (2 ^ Int.toNat 1)).toNat) (e2 : r = dblV q) (e3 : v = nonV r p) : v = seV p c.toNat := by
  rw [seV_odd p (by omega) (odd_of h0 b), e3, e2, e1, half_toNat h0]
theorem se_end2 {c : Int} {p q r : V4} (h0 : 0 ≤ c) (a : c ≠ 0) (b : Builtin.bitAnd c 1 = 0) (e1 : q = seV p (c.fdiv (2 ^ Int.toNat 1)).toNat) (e2 : r = dblV q) : r = seV p c.toNat := by
  rw [seV_even p (by omega) (even_of h0 b), e2, e1, half_toNat h0]
/-- a goal that the walk leaves alone -/
def Hold (P : Prop) : Prop := P
theorem Hold.on {P : Prop} (h : Hold P) : P := h
structure LS where
  f : Addr
  fx : Int
  fy : Int
  fz : Int
  a1 : Tok
  a2 : Tok
  a3 : Tok
  an : Nat
  p : Addr
  px : Int
  py : Int
  pz : Int
  b1 : Tok
  b2 : Tok
  b3 : Tok
  bn : Nat
  k : Int
  kt : Tok
abbrev LS.led (news : List (Addr × Obj)) (c : LS) : List (Addr × Obj) := (c.f, ({ cls := .type "tuple", data := .seq #[.int c.fx c.a1, .int c.fy c.a2, .int c.fz c.a3] c.an } : Obj)) :: (c.p, ({ cls := .type "tuple", data := .seq #[.int c.px c.b1, .int c.py c.b2, .int c.pz c.b3] c.bn } : Obj)) :: news
abbrev LS.ps (c : LS) : List (Str × Value) := [(Str.ofString "found", .ref c.f), (Str.ofString "point", .ref c.p), (Str.ofString "number", .int c.k c.kt)]
def LS.ok (r : V3) (c : LS) : Prop := InQ c.fx ∧ InQ c.fy ∧ InQ c.fz ∧ InQ c.px ∧ InQ c.py ∧ InQ c.pz ∧ 0 ≤ c.k ∧ timesA ⟨c.fx, c.fy, c.fz⟩ ⟨c.px, c.py, c.pz⟩ c.k.toNat = r
theorem newsHead {h₀ h : Heap} {L : Addr} {p q : Addr × Obj} {news : List (Addr × Obj)} (N : News h₀ L h (p :: news)) (hq : q ∈ news) : News h₀ L h (p :: q :: news) := fun r hr => by
  rcases List.mem_cons.mp hr with e | e
  · exact N r (List.mem_cons.mpr (.inl e))
  · rcases List.mem_cons.mp e with e | e
    · exact N r (List.mem_cons_of_mem _ (e ▸ hq))
    · exact N r (List.mem_cons_of_mem _ e)
theorem times_start {h₀ h : Heap} {L D P : Addr} {x y z x' y' z' : Int} {t1 t2 t3 s1 s2 s3 : Tok} {n n' : Nat} {news : List (Addr × Obj)} (c : Int) (u : Tok)
    (N : News h₀ L h ((D, ({ cls := .type "tuple", data := .seq #[.int x' s1, .int y' s2, .int z' s3] n' } : Obj)) :: news))
    (hP : (P, ({ cls := .type "tuple", data := .seq #[.int x t1, .int y t2, .int z t3] n } : Obj)) ∈ news) : News h₀ L h (LS.led news (LS.mk D x' y' z' s1 s2 s3 n' P x y z t1 t2 t3 n c u)) := newsHead N hP
theorem times_next {h₀ h : Heap} {L D P : Addr} {x y z x' y' z' : Int} {t1 t2 t3 s1 s2 s3 : Tok} {n n' : Nat} {news rest : List (Addr × Obj)} {c : Int} {u : Tok}
    (N : News h₀ L h ((P, ({ cls := .type "tuple", data := .seq #[.int x t1, .int y t2, .int z t3] n } : Obj)) :: (D, ({ cls := .type "tuple", data := .seq #[.int x' s1, .int y' s2, .int z' s3] n' } : Obj)) :: rest))
    (hs : ∀ q ∈ news, q ∈ rest) : News h₀ L h (LS.led news (LS.mk D x' y' z' s1 s2 s3 n' P x y z t1 t2 t3 n c u)) := fun r hr => by
  rcases List.mem_cons.mp hr with e | e
  · exact N r (List.mem_cons_of_mem _ (List.mem_cons.mpr (.inl e)))
  · rcases List.mem_cons.mp e with e | e
    · exact N r (List.mem_cons.mpr (.inl e))
    · exact N r (List.mem_cons_of_mem _ (List.mem_cons_of_mem _ (hs r e)))
theorem two_eq {k : Int} (h : 0 ≤ k) : k.fdiv 2 = ((k.toNat / 2 : Nat) : Int) := by
  rw [Int.fdiv_eq_ediv_of_nonneg _ (by decide)]; omega
theorem two_mod {k : Int} : k.fmod 2 = k % 2 := Int.fmod_eq_emod_of_nonneg _ (by decide)
theorem two_lt {k : Int} (h : 0 < k) : (k.fdiv 2).toNat < k.toNat := by
  rw [two_eq (by omega)]; omega
theorem two_pos {k : Int} (h : 0 ≤ k) : 0 ≤ k.fdiv 2 := by
  rw [two_eq h]; omega
theorem ok_odd {r f p f' p' : V3} {k : Int} (hr : timesA f p k.toNat = r) (a : 0 < k) (b : k.fmod 2 = 1) (e1 : f' = sumV f p) (e2 : p' = sumV p p) : timesA f' p' (k.fdiv 2).toNat = r := by
  rw [timesA_odd f p (by omega) (by rw [two_mod] at b; omega)] at hr
  rw [e1, e2, two_eq (by omega)]; exact hr
theorem ok_even {r f p p' : V3} {k : Int} (hr : timesA f p k.toNat = r) (a : 0 < k) (b : k.fmod 2 ≠ 1) (e2 : p' = sumV p p) : timesA f p' (k.fdiv 2).toNat = r := by
  rw [timesA_even f p (by omega) (by rw [two_mod] at b; omega)] at hr
  rw [e2, two_eq (by omega)]; exact hr
theorem ok_done {r f p : V3} {k : Int} (hr : timesA f p k.toNat = r) (a : ¬ 0 < k) : f = r := by
  rw [show k.toNat = 0 by omega, timesA_zero] at hr; exact hr
theorem inq0 : InQ 0 := ⟨by decide, by decide⟩
theorem inq1 : InQ 1 := ⟨by decide, by decide⟩
theorem drop4 {h₀ h : Heap} {L : Addr} {p q q2 q3 q4 : Addr × Obj} {news : List (Addr × Obj)} (N : News h₀ L h (p :: q :: q2 :: q3 :: q4 :: news)) : News h₀ L h (p :: news) := drop1 (drop3 N)
theorem drop5 {h₀ h : Heap} {L : Addr} {p q q2 q3 q4 q5 : Addr × Obj} {news : List (Addr × Obj)} (N : News h₀ L h (p :: q :: q2 :: q3 :: q4 :: q5 :: news)) : News h₀ L h (p :: news) := drop1 (drop4 N)
theorem drop6 {h₀ h : Heap} {L : Addr} {p q q2 q3 q4 q5 q6 : Addr × Obj} {news : List (Addr × Obj)} (N : News h₀ L h (p :: q :: q2 :: q3 :: q4 :: q5 :: q6 :: news)) : News h₀ L h (p :: news) := drop1 (drop5 N)
theorem abs_toNat (c : Int) : (if c < 0 then -c else c).toNat = c.natAbs := by split <;> omega
theorem point_end1 {c e x y z : Int} {r v : V3} (a : c < 0) (e1 : V3.mk x y z = timesV baseV (if c < 0 then -c else c).toNat) (e2 : r = timesV eighthV e.toNat)
    (e3 : v = sumV ⟨(-x).fmod 57896044618658097711785492504343953926634992332820282019728792003956564819949, y, z⟩ r) : v = pointV c e := by
  unfold pointV
  rw [if_pos a, e3, e2, ← abs_toNat, ← e1]; rfl
theorem point_end2 {c e : Int} {q r v : V3} (a : ¬ c < 0) (e1 : q = timesV baseV (if c < 0 then -c else c).toNat) (e2 : r = timesV eighthV e.toNat)
    (e3 : v = sumV q r) : v = pointV c e := by
  unfold pointV
  rw [if_neg a, e3, e2, ← abs_toNat, ← e1]
@[irreducible] noncomputable def cellV (ns : List Int) (i : Int) : Int := ((ns.getD i.toNat 0).natAbs : Int)
theorem cellV_nonneg (ns : List Int) (i : Int) : 0 ≤ cellV ns i := by unfold cellV; omega
theorem cellV_bits {ns : List Int} (h : PyData.layable0 (.list (ns.map .int)) = true) (i : Int) : Builtin.Int.intBits (cellV ns i) ≤ 1048576 := by
  have h1 : Builtin.Int.intBits (ns.getD i.toNat 0) ≤ 2 ^ 20 := PyProof.Rows.bits_getD h
  have h2 : Builtin.Int.intBits (cellV ns i) ≤ 2 ^ 20 := by
    refine PyProof.Rows.bits_of_natAbs_le ?_ h1
    unfold cellV; omega
  exact h2
theorem cell_end1 {ns : List Int} {i : Int} (h0 : 0 ≤ i) (h1 : i < ns.length) : (if ns.getD i.toNat 0 < 0 then -(ns.getD i.toNat 0) else ns.getD i.toNat 0) = cellV ns i := by
  unfold cellV; split <;> omega
theorem cell_end2 {ns : List Int} {i : Int} (h0 : 0 ≤ i) (h1 : ¬ i < ns.length) : (0 : Int) = cellV ns i := by
  unfold cellV
  have h : ns.length ≤ i.toNat := by omega
  rw [List.getD_eq_getElem?_getD, List.getElem?_eq_none h]
  rfl

theorem bits_L : Builtin.Int.intBits 7237005577332262213973186563042994240857116359379907606001950938285454250989 ≤ 300 := by decide
theorem bits_K : Builtin.Int.intBits (6364136223846793005 ^ Int.toNat 3) ≤ 300 := by decide
theorem num_lt (a : Int) : a.fmod 7237005577332262213973186563042994240857116359379907606001950938285454250989 < 2 ^ 254 := by
  have h := Int.fmod_lt_of_pos a (show (0:Int) < 7237005577332262213973186563042994240857116359379907606001950938285454250989 by decide)
  have e : (2:Int) ^ 254 = 28948022309329048855892746252171976963317496166410141009864396001978282409984 := by decide
  omega
theorem num_nonneg (a : Int) : 0 ≤ a.fmod 7237005577332262213973186563042994240857116359379907606001950938285454250989 := Int.fmod_nonneg_of_pos a (by decide)
theorem arm0_lt (a b : Int) : a.fmod 4 * 7237005577332262213973186563042994240857116359379907606001950938285454250989 + b.fmod 9 < 2 ^ 254 := by
  have h1 := Int.fmod_lt_of_pos a (show (0:Int) < 4 by decide)
  have h2 := Int.fmod_lt_of_pos b (show (0:Int) < 9 by decide)
  have e : (2:Int) ^ 254 = 28948022309329048855892746252171976963317496166410141009864396001978282409984 := by decide
  omega
theorem arm0_nonneg (a b : Int) : 0 ≤ a.fmod 4 * 7237005577332262213973186563042994240857116359379907606001950938285454250989 + b.fmod 9 := by
  have h1 := Int.fmod_nonneg_of_pos a (show (0:Int) < 4 by decide)
  have h2 := Int.fmod_nonneg_of_pos b (show (0:Int) < 9 by decide)
  omega
theorem fmod8 (a : Int) : 0 ≤ a.fmod 8 := Int.fmod_nonneg_of_pos a (by decide)
theorem scale_InQ (a : Int) : InQ (1 + a.fmod 1000) := by
  have h1 := Int.fmod_nonneg_of_pos a (show (0:Int) < 1000 by decide)
  have h2 := Int.fmod_lt_of_pos a (show (0:Int) < 1000 by decide)
  constructor <;> omega

theorem gentok {M : Model} {α : Type} {A : Around} {c : Sem α} {Q : α → Shared → Prop} {E : Value → Shared → Prop} {h : Heap} {g} {d} {o} {X : Nat}
    (k : ∀ tk : Nat, wpAny M A c Q E ⟨h, g, d, tk, o⟩) : wpAny M A c Q E ⟨h, g, d, X + 1, o⟩ := k _
def dblC (K : Params → Frag) (V : Program) (lo : List Str) : Prop := ∀ {w : World} {mean : ExcName → Option Value} {mg mb : Str → Option Value} {P : Addr} {x y z t : Int} {t1 t2 t3 t4 : Tok} {n : Nat} {news : List (Addr × Obj)}
  (hP : (P, ({ cls := .type "tuple", data := .seq #[.int x t1, .int y t2, .int z t3, .int t t4] n } : Obj)) ∈ news) (hx : InQ x) (hy : InQ y) (hz : InQ z) (ht : InQ t), Ask K V lo w mean mg mb 77 1 news [.ref P] (fun h₀ L m s Q => Ret4 h₀ L m news s Q (dblV ⟨x, y, z, t⟩))
theorem dbl_use {K : Params → Frag} {V : Program} {lo : List Str} {w : World} {mean : ExcName → Option Value} {mg mb : Str → Option Value} {P : Addr} {x y z t : Int} {t1 t2 t3 t4 : Tok} {n : Nat} {news : List (Addr × Obj)} {dp un : Nat} {gd : Option (List Code)} {cn : Str} {cs : Scope} {a : Addr} {ccd : Value} {cl : List (Str × Addr)} {outer : List Env} {A₀ : Around} {base h₀ : Heap} {L : Addr} {m : Str → Option Value} {s : Shared} {Q E : Value → Shared → Prop}
    (B : Below A₀ base outer h₀) (F : Fr h₀ L s.heap m) (KX : (K w.params).In h₀) (N : News h₀ L s.heap news) (T : Top V lo mean mg mb h₀) (hk : cs.kind = .function) (hc : dblC K V lo) (pre : ((P, ({ cls := .type "tuple", data := .seq #[.int x t1, .int y t2, .int z t3, .int t t4] n } : Obj)) ∈ news) ∧ (InQ x) ∧ (InQ y) ∧ (InQ z) ∧ (InQ t)) (hd1 : dp + 1 < recursionLimit) (hu1 : un + 8 * 1 < cLine) (hret : Ret4 h₀ L m news s Q (dblV ⟨x, y, z, t⟩)) :
    wpAny (model PySem.Challenge.rw_jx0020_01.row.prog w) (ktrTop dp un gd cn cs L a ccd cl outer) (call (.ref 77) [.ref P]) Q E s :=
  hc pre.1 pre.2.1 pre.2.2.1 pre.2.2.2.1 pre.2.2.2.2 dp un gd cn cs a ccd cl outer A₀ base h₀ L m s Q E B F KX N T hk hd1 hu1 hret
def addC (K : Params → Frag) (V : Program) (lo : List Str) : Prop := ∀ {w : World} {mean : ExcName → Option Value} {mg mb : Str → Option Value} {P P2 : Addr} {x y z t x2 y2 z2 t2' : Int} {t1 t2 t3 t4 s1 s2 s3 s4 : Tok} {n n2 : Nat} {news : List (Addr × Obj)}
  (hP : (P, ({ cls := .type "tuple", data := .seq #[.int x t1, .int y t2, .int z t3, .int t t4] n } : Obj)) ∈ news) (hx : InQ x) (hy : InQ y) (hz : InQ z) (ht : InQ t)
  (hP2 : (P2, ({ cls := .type "tuple", data := .seq #[.int x2 s1, .int y2 s2, .int z2 s3, .int t2' s4] n2 } : Obj)) ∈ news) (hx2 : InQ x2) (hy2 : InQ y2) (hz2 : InQ z2) (ht2 : InQ t2'), Ask K V lo w mean mg mb 84 1 news [.ref P, .ref P2] (fun h₀ L m s Q => Ret4 h₀ L m news s Q (addV ⟨x, y, z, t⟩ ⟨x2, y2, z2, t2'⟩))
theorem add_use {K : Params → Frag} {V : Program} {lo : List Str} {w : World} {mean : ExcName → Option Value} {mg mb : Str → Option Value} {P P2 : Addr} {x y z t x2 y2 z2 t2' : Int} {t1 t2 t3 t4 s1 s2 s3 s4 : Tok} {n n2 : Nat} {news : List (Addr × Obj)} {dp un : Nat} {gd : Option (List Code)} {cn : Str} {cs : Scope} {a : Addr} {ccd : Value} {cl : List (Str × Addr)} {outer : List Env} {A₀ : Around} {base h₀ : Heap} {L : Addr} {m : Str → Option Value} {s : Shared} {Q E : Value → Shared → Prop}
    (B : Below A₀ base outer h₀) (F : Fr h₀ L s.heap m) (KX : (K w.params).In h₀) (N : News h₀ L s.heap news) (T : Top V lo mean mg mb h₀) (hk : cs.kind = .function) (hc : addC K V lo) (pre : ((P, ({ cls := .type "tuple", data := .seq #[.int x t1, .int y t2, .int z t3, .int t t4] n } : Obj)) ∈ news) ∧ (InQ x) ∧ (InQ y) ∧ (InQ z) ∧ (InQ t) ∧ ((P2, ({ cls := .type "tuple", data := .seq #[.int x2 s1, .int y2 s2, .int z2 s3, .int t2' s4] n2 } : Obj)) ∈ news) ∧ (InQ x2) ∧ (InQ y2) ∧ (InQ z2) ∧ (InQ t2')) (hd1 : dp + 1 < recursionLimit) (hu1 : un + 8 * 1 < cLine) (hret : Ret4 h₀ L m news s Q (addV ⟨x, y, z, t⟩ ⟨x2, y2, z2, t2'⟩)) :
    wpAny (model PySem.Challenge.rw_jx0020_01.row.prog w) (ktrTop dp un gd cn cs L a ccd cl outer) (call (.ref 84) [.ref P, .ref P2]) Q E s :=
  hc pre.1 pre.2.1 pre.2.2.1 pre.2.2.2.1 pre.2.2.2.2.1 pre.2.2.2.2.2.1 pre.2.2.2.2.2.2.1 pre.2.2.2.2.2.2.2.1 pre.2.2.2.2.2.2.2.2.1 pre.2.2.2.2.2.2.2.2.2 dp un gd cn cs a ccd cl outer A₀ base h₀ L m s Q E B F KX N T hk hd1 hu1 hret
def nonC (K : Params → Frag) (V : Program) (lo : List Str) : Prop := ∀ {w : World} {mean : ExcName → Option Value} {mg mb : Str → Option Value} {P P2 : Addr} {x y z t x2 y2 z2 t2' : Int} {t1 t2 t3 t4 s1 s2 s3 s4 : Tok} {n n2 : Nat} {news : List (Addr × Obj)}
  (hP : (P, ({ cls := .type "tuple", data := .seq #[.int x t1, .int y t2, .int z t3, .int t t4] n } : Obj)) ∈ news) (hx : InQ x) (hy : InQ y) (hz : InQ z) (ht : InQ t)
  (hP2 : (P2, ({ cls := .type "tuple", data := .seq #[.int x2 s1, .int y2 s2, .int z2 s3, .int t2' s4] n2 } : Obj)) ∈ news) (hx2 : InQ x2) (hy2 : InQ y2) (hz2 : InQ z2) (ht2 : InQ t2'), Ask K V lo w mean mg mb 98 1 news [.ref P, .ref P2] (fun h₀ L m s Q => Ret4 h₀ L m news s Q (nonV ⟨x, y, z, t⟩ ⟨x2, y2, z2, t2'⟩))
theorem non_use {K : Params → Frag} {V : Program} {lo : List Str} {w : World} {mean : ExcName → Option Value} {mg mb : Str → Option Value} {P P2 : Addr} {x y z t x2 y2 z2 t2' : Int} {t1 t2 t3 t4 s1 s2 s3 s4 : Tok} {n n2 : Nat} {news : List (Addr × Obj)} {dp un : Nat} {gd : Option (List Code)} {cn : Str} {cs : Scope} {a : Addr} {ccd : Value} {cl : List (Str × Addr)} {outer : List Env} {A₀ : Around} {base h₀ : Heap} {L : Addr} {m : Str → Option Value} {s : Shared} {Q E : Value → Shared → Prop}
    (B : Below A₀ base outer h₀) (F : Fr h₀ L s.heap m) (KX : (K w.params).In h₀) (N : News h₀ L s.heap news) (T : Top V lo mean mg mb h₀) (hk : cs.kind = .function) (hc : nonC K V lo) (pre : ((P, ({ cls := .type "tuple", data := .seq #[.int x t1, .int y t2, .int z t3, .int t t4] n } : Obj)) ∈ news) ∧ (InQ x) ∧ (InQ y) ∧ (InQ z) ∧ (InQ t) ∧ ((P2, ({ cls := .type "tuple", data := .seq #[.int x2 s1, .int y2 s2, .int z2 s3, .int t2' s4] n2 } : Obj)) ∈ news) ∧ (InQ x2) ∧ (InQ y2) ∧ (InQ z2) ∧ (InQ t2')) (hd1 : dp + 1 < recursionLimit) (hu1 : un + 8 * 1 < cLine) (hret : Ret4 h₀ L m news s Q (nonV ⟨x, y, z, t⟩ ⟨x2, y2, z2, t2'⟩)) :
    wpAny (model PySem.Challenge.rw_jx0020_01.row.prog w) (ktrTop dp un gd cn cs L a ccd cl outer) (call (.ref 98) [.ref P, .ref P2]) Q E s :=
  hc pre.1 pre.2.1 pre.2.2.1 pre.2.2.2.1 pre.2.2.2.2.1 pre.2.2.2.2.2.1 pre.2.2.2.2.2.2.1 pre.2.2.2.2.2.2.2.1 pre.2.2.2.2.2.2.2.2.1 pre.2.2.2.2.2.2.2.2.2 dp un gd cn cs a ccd cl outer A₀ base h₀ L m s Q E B F KX N T hk hd1 hu1 hret
def sumC (K : Params → Frag) (V : Program) (lo : List Str) : Prop := ∀ {w : World} {mean : ExcName → Option Value} {mg mb : Str → Option Value} {P P2 : Addr} {x y z x2 y2 z2 : Int} {t1 t2 t3 s1 s2 s3 : Tok} {n n2 : Nat} {news : List (Addr × Obj)}
  (hP : (P, ({ cls := .type "tuple", data := .seq #[.int x t1, .int y t2, .int z t3] n } : Obj)) ∈ news) (hx : InQ x) (hy : InQ y) (hz : InQ z)
  (hP2 : (P2, ({ cls := .type "tuple", data := .seq #[.int x2 s1, .int y2 s2, .int z2 s3] n2 } : Obj)) ∈ news) (hx2 : InQ x2) (hy2 : InQ y2) (hz2 : InQ z2), Ask K V lo w mean mg mb 226 1 news [.ref P, .ref P2] (fun h₀ L m s Q => Ret3 h₀ L m news s Q (sumV ⟨x, y, z⟩ ⟨x2, y2, z2⟩))
theorem sum_use {K : Params → Frag} {V : Program} {lo : List Str} {w : World} {mean : ExcName → Option Value} {mg mb : Str → Option Value} {P P2 : Addr} {x y z x2 y2 z2 : Int} {t1 t2 t3 s1 s2 s3 : Tok} {n n2 : Nat} {news : List (Addr × Obj)} {dp un : Nat} {gd : Option (List Code)} {cn : Str} {cs : Scope} {a : Addr} {ccd : Value} {cl : List (Str × Addr)} {outer : List Env} {A₀ : Around} {base h₀ : Heap} {L : Addr} {m : Str → Option Value} {s : Shared} {Q E : Value → Shared → Prop}
    (B : Below A₀ base outer h₀) (F : Fr h₀ L s.heap m) (KX : (K w.params).In h₀) (N : News h₀ L s.heap news) (T : Top V lo mean mg mb h₀) (hk : cs.kind = .function) (hc : sumC K V lo) (pre : ((P, ({ cls := .type "tuple", data := .seq #[.int x t1, .int y t2, .int z t3] n } : Obj)) ∈ news) ∧ (InQ x) ∧ (InQ y) ∧ (InQ z) ∧ ((P2, ({ cls := .type "tuple", data := .seq #[.int x2 s1, .int y2 s2, .int z2 s3] n2 } : Obj)) ∈ news) ∧ (InQ x2) ∧ (InQ y2) ∧ (InQ z2)) (hd1 : dp + 1 < recursionLimit) (hu1 : un + 8 * 1 < cLine) (hret : Ret3 h₀ L m news s Q (sumV ⟨x, y, z⟩ ⟨x2, y2, z2⟩)) :
    wpAny (model PySem.Challenge.rw_jx0020_01.row.prog w) (ktrTop dp un gd cn cs L a ccd cl outer) (call (.ref 226) [.ref P, .ref P2]) Q E s :=
  hc pre.1 pre.2.1 pre.2.2.1 pre.2.2.2.1 pre.2.2.2.2.1 pre.2.2.2.2.2.1 pre.2.2.2.2.2.2.1 pre.2.2.2.2.2.2.2 dp un gd cn cs a ccd cl outer A₀ base h₀ L m s Q E B F KX N T hk hd1 hu1 hret
def extC (K : Params → Frag) (V : Program) (lo : List Str) : Prop := ∀ {w : World} {mean : ExcName → Option Value} {mg mb : Str → Option Value} {P : Addr} {x y z c : Int} {t1 t2 t3 u : Tok} {n : Nat} {news : List (Addr × Obj)}
  (hP : (P, ({ cls := .type "tuple", data := .seq #[.int x t1, .int y t2, .int z t3] n } : Obj)) ∈ news) (hx : InQ x) (hy : InQ y) (hz : InQ z) (hc : InQ c), Ask K V lo w mean mg mb 247 1 news [.ref P, .int c u] (fun h₀ L m s Q => Ret4 h₀ L m news s Q (extV ⟨x, y, z⟩ c))
theorem ext_use {K : Params → Frag} {V : Program} {lo : List Str} {w : World} {mean : ExcName → Option Value} {mg mb : Str → Option Value} {P : Addr} {x y z c : Int} {t1 t2 t3 u : Tok} {n : Nat} {news : List (Addr × Obj)} {dp un : Nat} {gd : Option (List Code)} {cn : Str} {cs : Scope} {a : Addr} {ccd : Value} {cl : List (Str × Addr)} {outer : List Env} {A₀ : Around} {base h₀ : Heap} {L : Addr} {m : Str → Option Value} {s : Shared} {Q E : Value → Shared → Prop}
    (B : Below A₀ base outer h₀) (F : Fr h₀ L s.heap m) (KX : (K w.params).In h₀) (N : News h₀ L s.heap news) (T : Top V lo mean mg mb h₀) (hk : cs.kind = .function) (hc : extC K V lo) (pre : ((P, ({ cls := .type "tuple", data := .seq #[.int x t1, .int y t2, .int z t3] n } : Obj)) ∈ news) ∧ (InQ x) ∧ (InQ y) ∧ (InQ z) ∧ (InQ c)) (hd1 : dp + 1 < recursionLimit) (hu1 : un + 8 * 1 < cLine) (hret : Ret4 h₀ L m news s Q (extV ⟨x, y, z⟩ c)) :
    wpAny (model PySem.Challenge.rw_jx0020_01.row.prog w) (ktrTop dp un gd cn cs L a ccd cl outer) (call (.ref 247) [.ref P, .int c u]) Q E s :=
  hc pre.1 pre.2.1 pre.2.2.1 pre.2.2.2.1 pre.2.2.2.2 dp un gd cn cs a ccd cl outer A₀ base h₀ L m s Q E B F KX N T hk hd1 hu1 hret
def xfC (K : Params → Frag) (V : Program) (lo : List Str) : Prop := ∀ {w : World} {mean : ExcName → Option Value} {mg mb : Str → Option Value} {P : Addr} {t1 t2 : Tok} {n : Nat} {news : List (Addr × Obj)}
  (hP : (P, ({ cls := .type "tuple", data := .seq #[.int 0 t1, .int 1 t2] n } : Obj)) ∈ news), Ask K V lo w mean mg mb 63 1 news [.ref P] (fun h₀ L m s Q => Ret4 h₀ L m news s Q zeroV)
theorem xf_use {K : Params → Frag} {V : Program} {lo : List Str} {w : World} {mean : ExcName → Option Value} {mg mb : Str → Option Value} {P : Addr} {t1 t2 : Tok} {n : Nat} {news : List (Addr × Obj)} {dp un : Nat} {gd : Option (List Code)} {cn : Str} {cs : Scope} {a : Addr} {ccd : Value} {cl : List (Str × Addr)} {outer : List Env} {A₀ : Around} {base h₀ : Heap} {L : Addr} {m : Str → Option Value} {s : Shared} {Q E : Value → Shared → Prop}
    (B : Below A₀ base outer h₀) (F : Fr h₀ L s.heap m) (KX : (K w.params).In h₀) (N : News h₀ L s.heap news) (T : Top V lo mean mg mb h₀) (hk : cs.kind = .function) (hc : xfC K V lo) (pre : ((P, ({ cls := .type "tuple", data := .seq #[.int 0 t1, .int 1 t2] n } : Obj)) ∈ news)) (hd1 : dp + 1 < recursionLimit) (hu1 : un + 8 * 1 < cLine) (hret : Ret4 h₀ L m news s Q zeroV) :
    wpAny (model PySem.Challenge.rw_jx0020_01.row.prog w) (ktrTop dp un gd cn cs L a ccd cl outer) (call (.ref 63) [.ref P]) Q E s :=
  hc pre dp un gd cn cs a ccd cl outer A₀ base h₀ L m s Q E B F KX N T hk hd1 hu1 hret
def slowC (K : Params → Frag) (V : Program) (lo : List Str) : Prop := ∀ {w : World} {mean : ExcName → Option Value} {mg mb : Str → Option Value}, ∀ (k : Nat) {P : Addr} {x y z t : Int} {t1 t2 t3 t4 : Tok} {n : Nat} {c : Int} {u : Tok} {news : List (Addr × Obj)}
  (hP : (P, ({ cls := .type "tuple", data := .seq #[.int x t1, .int y t2, .int z t3, .int t t4] n } : Obj)) ∈ news) (hx : InQ x) (hy : InQ y) (hz : InQ z) (ht : InQ t) (h0 : 0 ≤ c) (hc : c < 2 ^ k),
  Ask K V lo w mean mg mb 91 (k + 2) news [.ref P, .int c u] (fun h₀ L m s Q => Ret4 h₀ L m news s Q (slowV ⟨x, y, z, t⟩ c.toNat))
theorem slow_use {K : Params → Frag} {V : Program} {lo : List Str} {w : World} {mean : ExcName → Option Value} {mg mb : Str → Option Value} {P : Addr} {x y z t : Int} {t1 t2 t3 t4 : Tok} {n : Nat} {c : Int} {u : Tok} {news : List (Addr × Obj)} {dp un : Nat} {gd : Option (List Code)} {cn : Str} {cs : Scope} {a : Addr} {ccd : Value} {cl : List (Str × Addr)} {outer : List Env} {A₀ : Around} {base h₀ : Heap} {L : Addr} {m : Str → Option Value} {s : Shared} {Q E : Value → Shared → Prop}
    (B : Below A₀ base outer h₀) (F : Fr h₀ L s.heap m) (KX : (K w.params).In h₀) (N : News h₀ L s.heap news) (T : Top V lo mean mg mb h₀) (hk : cs.kind = .function) (hc : slowC K V lo) (pre : ((P, ({ cls := .type "tuple", data := .seq #[.int x t1, .int y t2, .int z t3, .int t t4] n } : Obj)) ∈ news) ∧ (InQ x) ∧ (InQ y) ∧ (InQ z) ∧ (InQ t) ∧ (0 ≤ c) ∧ (c < 2 ^ 254)) (hd1 : dp + (254 + 2) < recursionLimit) (hu1 : un + 8 * (254 + 2) < cLine) (hret : Ret4 h₀ L m news s Q (slowV ⟨x, y, z, t⟩ c.toNat)) :
    wpAny (model PySem.Challenge.rw_jx0020_01.row.prog w) (ktrTop dp un gd cn cs L a ccd cl outer) (call (.ref 91) [.ref P, .int c u]) Q E s :=
  hc 254 pre.1 pre.2.1 pre.2.2.1 pre.2.2.2.1 pre.2.2.2.2.1 pre.2.2.2.2.2.1 pre.2.2.2.2.2.2 dp un gd cn cs a ccd cl outer A₀ base h₀ L m s Q E B F KX N T hk hd1 hu1 hret
def seC (K : Params → Frag) (V : Program) (lo : List Str) : Prop := ∀ {w : World} {mean : ExcName → Option Value} {mg mb : Str → Option Value}, ∀ (k : Nat) {P : Addr} {x y z t : Int} {t1 t2 t3 t4 : Tok} {n : Nat} {c : Int} {u : Tok} {news : List (Addr × Obj)}
  (hP : (P, ({ cls := .type "tuple", data := .seq #[.int x t1, .int y t2, .int z t3, .int t t4] n } : Obj)) ∈ news) (hx : InQ x) (hy : InQ y) (hz : InQ z) (ht : InQ t) (h0 : 0 ≤ c) (hc : c < 2 ^ k),
  Ask K V lo w mean mg mb 105 (k + 2) news [.ref P, .int c u] (fun h₀ L m s Q => Ret4 h₀ L m news s Q (seV ⟨x, y, z, t⟩ c.toNat))
theorem se_use {K : Params → Frag} {V : Program} {lo : List Str} {w : World} {mean : ExcName → Option Value} {mg mb : Str → Option Value} {P : Addr} {x y z t : Int} {t1 t2 t3 t4 : Tok} {n : Nat} {c : Int} {u : Tok} {news : List (Addr × Obj)} {dp un : Nat} {gd : Option (List Code)} {cn : Str} {cs : Scope} {a : Addr} {ccd : Value} {cl : List (Str × Addr)} {outer : List Env} {A₀ : Around} {base h₀ : Heap} {L : Addr} {m : Str → Option Value} {s : Shared} {Q E : Value → Shared → Prop}
    (B : Below A₀ base outer h₀) (F : Fr h₀ L s.heap m) (KX : (K w.params).In h₀) (N : News h₀ L s.heap news) (T : Top V lo mean mg mb h₀) (hk : cs.kind = .function) (hc : seC K V lo) (pre : ((P, ({ cls := .type "tuple", data := .seq #[.int x t1, .int y t2, .int z t3, .int t t4] n } : Obj)) ∈ news) ∧ (InQ x) ∧ (InQ y) ∧ (InQ z) ∧ (InQ t) ∧ (0 ≤ c) ∧ (c < 2 ^ 254)) (hd1 : dp + (254 + 2) < recursionLimit) (hu1 : un + 8 * (254 + 2) < cLine) (hret : Ret4 h₀ L m news s Q (seV ⟨x, y, z, t⟩ c.toNat)) :
    wpAny (model PySem.Challenge.rw_jx0020_01.row.prog w) (ktrTop dp un gd cn cs L a ccd cl outer) (call (.ref 105) [.ref P, .int c u]) Q E s :=
  hc 254 pre.1 pre.2.1 pre.2.2.1 pre.2.2.2.1 pre.2.2.2.2.1 pre.2.2.2.2.2.1 pre.2.2.2.2.2.2 dp un gd cn cs a ccd cl outer A₀ base h₀ L m s Q E B F KX N T hk hd1 hu1 hret
def timesC (K : Params → Frag) (V : Program) (lo : List Str) : Prop := ∀ {w : World} {mean : ExcName → Option Value} {mg mb : Str → Option Value} {P : Addr} {x y z : Int} {t1 t2 t3 : Tok} {n : Nat} {c : Int} {u : Tok} {news : List (Addr × Obj)}
  (hP : (P, ({ cls := .type "tuple", data := .seq #[.int x t1, .int y t2, .int z t3] n } : Obj)) ∈ news) (hx : InQ x) (hy : InQ y) (hz : InQ z) (h0 : 0 ≤ c), Ask K V lo w mean mg mb 233 2 news [.ref P, .int c u] (fun h₀ L m s Q => Ret3 h₀ L m news s Q (timesV ⟨x, y, z⟩ c.toNat))
theorem times_use {K : Params → Frag} {V : Program} {lo : List Str} {w : World} {mean : ExcName → Option Value} {mg mb : Str → Option Value} {P : Addr} {x y z : Int} {t1 t2 t3 : Tok} {n : Nat} {c : Int} {u : Tok} {news : List (Addr × Obj)} {dp un : Nat} {gd : Option (List Code)} {cn : Str} {cs : Scope} {a : Addr} {ccd : Value} {cl : List (Str × Addr)} {outer : List Env} {A₀ : Around} {base h₀ : Heap} {L : Addr} {m : Str → Option Value} {s : Shared} {Q E : Value → Shared → Prop}
    (B : Below A₀ base outer h₀) (F : Fr h₀ L s.heap m) (KX : (K w.params).In h₀) (N : News h₀ L s.heap news) (T : Top V lo mean mg mb h₀) (hk : cs.kind = .function) (hc : timesC K V lo) (pre : ((P, ({ cls := .type "tuple", data := .seq #[.int x t1, .int y t2, .int z t3] n } : Obj)) ∈ news) ∧ (InQ x) ∧ (InQ y) ∧ (InQ z) ∧ (0 ≤ c)) (hd1 : dp + 2 < recursionLimit) (hu1 : un + 8 * 2 < cLine) (hret : Ret3 h₀ L m news s Q (timesV ⟨x, y, z⟩ c.toNat)) :
    wpAny (model PySem.Challenge.rw_jx0020_01.row.prog w) (ktrTop dp un gd cn cs L a ccd cl outer) (call (.ref 233) [.ref P, .int c u]) Q E s :=
  hc pre.1 pre.2.1 pre.2.2.1 pre.2.2.2.1 pre.2.2.2.2 dp un gd cn cs a ccd cl outer A₀ base h₀ L m s Q E B F KX N T hk hd1 hu1 hret
def pointC (K : Params → Frag) (V : Program) (lo : List Str) : Prop := ∀ {w : World} {mean : ExcName → Option Value} {mg mb : Str → Option Value} {c e : Int} {u v : Tok} {news : List (Addr × Obj)} (h0 : 0 ≤ e), Ask K V lo w mean mg mb 240 3 news [.int c u, .int e v] (fun h₀ L m s Q => Ret3 h₀ L m news s Q (pointV c e))
theorem point_use {K : Params → Frag} {V : Program} {lo : List Str} {w : World} {mean : ExcName → Option Value} {mg mb : Str → Option Value} {c e : Int} {u v : Tok} {news : List (Addr × Obj)} {dp un : Nat} {gd : Option (List Code)} {cn : Str} {cs : Scope} {a : Addr} {ccd : Value} {cl : List (Str × Addr)} {outer : List Env} {A₀ : Around} {base h₀ : Heap} {L : Addr} {m : Str → Option Value} {s : Shared} {Q E : Value → Shared → Prop}
    (B : Below A₀ base outer h₀) (F : Fr h₀ L s.heap m) (KX : (K w.params).In h₀) (N : News h₀ L s.heap news) (T : Top V lo mean mg mb h₀) (hk : cs.kind = .function) (hc : pointC K V lo) (pre : (0 ≤ e)) (hd1 : dp + 3 < recursionLimit) (hu1 : un + 8 * 3 < cLine) (hret : Ret3 h₀ L m news s Q (pointV c e)) :
    wpAny (model PySem.Challenge.rw_jx0020_01.row.prog w) (ktrTop dp un gd cn cs L a ccd cl outer) (call (.ref 240) [.int c u, .int e v]) Q E s :=
  hc pre dp un gd cn cs a ccd cl outer A₀ base h₀ L m s Q E B F KX N T hk hd1 hu1 hret
def standsC (K : Params → Frag) (V : Program) (lo : List Str) : Prop := ∀ {w : World} {mean : ExcName → Option Value} {mg mb : Str → Option Value} {P P2 : Addr} {x y z t x2 y2 z2 : Int} {t1 t2 t3 t4 s1 s2 s3 : Tok} {n n2 : Nat} {news : List (Addr × Obj)}
  (hP : (P, ({ cls := .type "tuple", data := .seq #[.int x t1, .int y t2, .int z t3, .int t t4] n } : Obj)) ∈ news) (hx : InQ x) (hy : InQ y) (hz : InQ z) (ht : InQ t)
  (hP2 : (P2, ({ cls := .type "tuple", data := .seq #[.int x2 s1, .int y2 s2, .int z2 s3] n2 } : Obj)) ∈ news) (hx2 : InQ x2) (hy2 : InQ y2) (hz2 : InQ z2)
  (g : Stands x y z t x2 y2 z2), Ask K V lo w mean mg mb 254 1 news [.ref P, .ref P2] (fun h₀ L m s Q => ∀ (h' : Heap) (tk' : Nat), Fr h₀ L h' m → News h₀ L h' news → Q (.bool true) { s with heap := h', toks := tk' })
theorem stands_use {K : Params → Frag} {V : Program} {lo : List Str} {w : World} {mean : ExcName → Option Value} {mg mb : Str → Option Value} {P P2 : Addr} {x y z t x2 y2 z2 : Int} {t1 t2 t3 t4 s1 s2 s3 : Tok} {n n2 : Nat} {news : List (Addr × Obj)} {dp un : Nat} {gd : Option (List Code)} {cn : Str} {cs : Scope} {a : Addr} {ccd : Value} {cl : List (Str × Addr)} {outer : List Env} {A₀ : Around} {base h₀ : Heap} {L : Addr} {m : Str → Option Value} {s : Shared} {Q E : Value → Shared → Prop}
    (B : Below A₀ base outer h₀) (F : Fr h₀ L s.heap m) (KX : (K w.params).In h₀) (N : News h₀ L s.heap news) (T : Top V lo mean mg mb h₀) (hk : cs.kind = .function) (hc : standsC K V lo) (pre : ((P, ({ cls := .type "tuple", data := .seq #[.int x t1, .int y t2, .int z t3, .int t t4] n } : Obj)) ∈ news) ∧ (InQ x) ∧ (InQ y) ∧ (InQ z) ∧ (InQ t) ∧ ((P2, ({ cls := .type "tuple", data := .seq #[.int x2 s1, .int y2 s2, .int z2 s3] n2 } : Obj)) ∈ news) ∧ (InQ x2) ∧ (InQ y2) ∧ (InQ z2) ∧ (Stands x y z t x2 y2 z2)) (hd1 : dp + 1 < recursionLimit) (hu1 : un + 8 * 1 < cLine) (hret : ∀ (h' : Heap) (tk' : Nat), Fr h₀ L h' m → News h₀ L h' news → Q (.bool true) { s with heap := h', toks := tk' }) :
    wpAny (model PySem.Challenge.rw_jx0020_01.row.prog w) (ktrTop dp un gd cn cs L a ccd cl outer) (call (.ref 254) [.ref P, .ref P2]) Q E s :=
  hc pre.1 pre.2.1 pre.2.2.1 pre.2.2.2.1 pre.2.2.2.2.1 pre.2.2.2.2.2.1 pre.2.2.2.2.2.2.1 pre.2.2.2.2.2.2.2.1 pre.2.2.2.2.2.2.2.2.1 pre.2.2.2.2.2.2.2.2.2 dp un gd cn cs a ccd cl outer A₀ base h₀ L m s Q E B F KX N T hk hd1 hu1 hret
def lcellC (K : Params → Frag) (V : Program) (lo : List Str) : Prop := ∀ {w : World} {mean : ExcName → Option Value} {mg mb : Str → Option Value} {l : Addr} {vs : List Value} {ns : List Int} {i : Int} {u : Tok}
  (dp un : Nat) (gd : Option (List Code)) (cn : Str) (cs : Scope) (a : Addr) (ccd : Value) (cl : List (Str × Addr)) (outer : List Env) (A₀ : Around) (base h₀ : Heap) (L : Addr) (m : Str → Option Value) (s : Shared) (Q E : Value → Shared → Prop) (news : List (Addr × Obj))
  (B : Below A₀ base outer h₀) (F : Fr h₀ L s.heap m) (KX : (K w.params).In h₀) (N : News h₀ L s.heap news) (T : Top V lo mean mg mb h₀) (hk : cs.kind = .function)
  (hl : base.IsList l vs.toArray) (hi : IntsAre vs ns) (hfit : ns.length < 2 ^ 62) (hlay : PyData.layable0 (.list (ns.map .int)) = true) (h0 : 0 ≤ i)
  (hd1 : dp + 1 < recursionLimit) (hu1 : un + 8 * 1 < cLine)
  (hret : ∀ (t : Tok) (h' : Heap) (tk' : Nat), Fr h₀ L h' m → News h₀ L h' news → Q (.int (cellV ns i) t) { s with heap := h', toks := tk' }), wpAny (model PySem.Challenge.rw_jx0020_01.row.prog w) (ktrTop dp un gd cn cs L a ccd cl outer) (call (.ref 219) [.ref l, .int i u]) Q E s
theorem lcell_use {K : Params → Frag} {V : Program} {lo : List Str} {w : World} {mean : ExcName → Option Value} {mg mb : Str → Option Value} {l : Addr} {vs : List Value} {ns : List Int} {i : Int} {u : Tok} {news : List (Addr × Obj)} {dp un : Nat} {gd : Option (List Code)} {cn : Str} {cs : Scope} {a : Addr} {ccd : Value} {cl : List (Str × Addr)} {outer : List Env} {A₀ : Around} {base h₀ : Heap} {L : Addr} {m : Str → Option Value} {s : Shared} {Q E : Value → Shared → Prop}
    (B : Below A₀ base outer h₀) (F : Fr h₀ L s.heap m) (KX : (K w.params).In h₀) (N : News h₀ L s.heap news) (T : Top V lo mean mg mb h₀) (hk : cs.kind = .function) (hc : lcellC K V lo) (pre : base.IsList l vs.toArray ∧ IntsAre vs ns ∧ ns.length < 2 ^ 62 ∧ PyData.layable0 (.list (ns.map .int)) = true ∧ 0 ≤ i) (hd1 : dp + 1 < recursionLimit) (hu1 : un + 8 * 1 < cLine)
    (hret : ∀ (t : Tok) (h' : Heap) (tk' : Nat), Fr h₀ L h' m → News h₀ L h' news → Q (.int (cellV ns i) t) { s with heap := h', toks := tk' }) :
    wpAny (model PySem.Challenge.rw_jx0020_01.row.prog w) (ktrTop dp un gd cn cs L a ccd cl outer) (call (.ref 219) [.ref l, .int i u]) Q E s :=
  hc dp un gd cn cs a ccd cl outer A₀ base h₀ L m s Q E news B F KX N T hk pre.1 pre.2.1 pre.2.2.1 pre.2.2.2.1 pre.2.2.2.2 hd1 hu1 hret
local macro_rules | `(tactic| ktn_open) => `(tactic| first | ((with_reducible refine And.intro ?_ ?_) <;> ktn_open) | (with_reducible exact List.mem_cons_self) | assumption | (refine List.mem_cons_of_mem _ ?_; ktn_open) | exact fmod_InQ _ | exact ⟨by decide, by decide⟩ | omega | exact num_nonneg _ | exact arm0_nonneg _ _ | exact num_lt _ | exact arm0_lt _ _ | exact fmod8 _ | exact scale_InQ _ | exact MineE.M0 (by assumption) (by assumption) (by assumption) (by assumption) | exact MineE.M1 (by assumption) (by assumption) (by assumption) (by assumption) | exact MineE.M2 (by assumption) (by assumption) (by assumption) (by assumption) | k_asm | l_ints | l_fit | decide)
local macro_rules | `(tactic| ktf_call $c:term) => `(tactic| k_dflt (refine' $c ?k1 ?k2 ?k3 ?k4 ?k5 ?kK ?hc ?pre ?kd ?ku ?_; (case k1 => k_asm); (case k2 => k_asm); (case k3 => k_asm); (case k4 => k_asm); (case k5 => k_asm); (case kK => first | exact rfl | assumption); (case hc => with_reducible assumption); (case pre => ktn_open); (case kd => ktr_room); (case ku => ktr_units)))
local macro_rules | `(tactic| walk_at "call ref") => `(tactic| (k_here; k_extra "call ref"))
local macro_rules | `(tactic| walk_at "execs cons") => `(tactic| (k_here; (with_reducible refine gentok ?_); intro tk))
local macro_rules | `(tactic| walk_at "execs nil") => `(tactic| (k_here; (with_reducible refine gentok ?_); intro tk))
local macro_rules | `(tactic| walk_at "exec While Compare cons nil") => `(tactic| (k_here; (with_reducible refine Hold.on ?_)))
local macro_rules | `(tactic| bits_by_make) => `(tactic| first | ((with_reducible refine bits_In ?_); with_reducible assumption) | (with_reducible exact bits_modQ _) | (with_reducible exact bits_d) | (with_reducible exact bits_D) | (with_reducible exact cellV_bits (by assumption) _) | (with_reducible exact bits_L) | (with_reducible exact bits_K))
set_option Elab.async true
/-! The head lays a quick twin for each constant; for a long list of objects (a heap, a tree of one) the twin's equation is quadratic in the list's length, some 4 MB. These names are taken, so those seven twins are left out: the head goes on with the lists as they are. -/
theorem X.tw13978123852318907159 : True := trivial
theorem X.tw15304436067887115354 : True := trivial
theorem X.tw1554201470808184210 : True := trivial
theorem X.tw6625077303095011081 : True := trivial
theorem X.tw8057734250958127374 : True := trivial
theorem X.tw8064826169986303791 : True := trivial
theorem X.tw1939999209613800131 : True := trivial
set_option maxRecDepth 100000 in
set_option maxHeartbeats 0 in
theorem X : PySem.Challenge.rw_jx0020_01.Holds := by
  k_with "call ref" => (first
    | ((with_reducible show wpAny _ _ (call (Value.ref 77) [Value.ref _]) _ _ _); ktf_call dbl_use; walk_say "CON 77"; intro D9 x9 y9 z9 t9 u91 u92 u93 u94 n9 h9 tk9 e9 i91 i92 i93 i94 F9 N9; (try dsimp only); (try k_fold))
    | ((with_reducible show wpAny _ _ (call (Value.ref 84) [Value.ref _, Value.ref _]) _ _ _); ktf_call add_use; walk_say "CON 84"; intro D9 x9 y9 z9 t9 u91 u92 u93 u94 n9 h9 tk9 e9 i91 i92 i93 i94 F9 N9; (try dsimp only); (try k_fold))
    | ((with_reducible show wpAny _ _ (call (Value.ref 98) [Value.ref _, Value.ref _]) _ _ _); ktf_call non_use; walk_say "CON 98"; intro D9 x9 y9 z9 t9 u91 u92 u93 u94 n9 h9 tk9 e9 i91 i92 i93 i94 F9 N9; (try dsimp only); (try k_fold))
    | ((with_reducible show wpAny _ _ (call (Value.ref 63) [Value.ref _]) _ _ _); ktf_call xf_use; walk_say "CON 63"; intro D9 x9 y9 z9 t9 u91 u92 u93 u94 n9 h9 tk9 e9 i91 i92 i93 i94 F9 N9; (try dsimp only); (try k_fold))
    | ((with_reducible show wpAny _ _ (call (Value.ref 226) [Value.ref _, Value.ref _]) _ _ _); ktf_call sum_use; walk_say "CON 226"; intro D9 x9 y9 z9 u91 u92 u93 n9 h9 tk9 e9 i91 i92 i93 F9 N9; (try dsimp only); (try k_fold))
    | ((with_reducible show wpAny _ _ (call (Value.ref 233) [Value.ref _, Value.int _ _]) _ _ _); ktf_call times_use; walk_say "CON 233"; intro D9 x9 y9 z9 u91 u92 u93 n9 h9 tk9 e9 i91 i92 i93 F9 N9; (try dsimp only); (try k_fold))
    | ((with_reducible show wpAny _ _ (call (Value.ref 219) [Value.ref _, Value.int _ _]) _ _ _); ktf_call lcell_use; walk_say "CON 219"; intro t9 h9 tk9 F9 N9; (try dsimp only); (try k_fold))
    | ((with_reducible show wpAny _ _ (call (Value.ref 240) [Value.int _ _, Value.int _ _]) _ _ _); ktf_call point_use; walk_say "CON 240"; intro D9 x9 y9 z9 u91 u92 u93 n9 h9 tk9 e9 i91 i92 i93 F9 N9; (try dsimp only); (try k_fold))
    | ((with_reducible show wpAny _ _ (call (Value.ref 247) [Value.ref _, Value.int _ _]) _ _ _); ktf_call ext_use; walk_say "CON 247"; intro D9 x9 y9 z9 t9 u91 u92 u93 u94 n9 h9 tk9 e9 i91 i92 i93 i94 F9 N9; (try dsimp only); (try k_fold))
    | ((with_reducible show wpAny _ _ (call (Value.ref 254) [Value.ref _, Value.ref _]) _ _ _); ktf_call stands_use; walk_say "CON 254"; intro h9 tk9 F9 N9; (try dsimp only); (try k_fold))
    | ((with_reducible show wpAny _ _ (call (Value.ref 91) [Value.ref _, Value.int _ _]) _ _ _); ktf_call slow_use; walk_say "CON 91"; intro D9 x9 y9 z9 t9 u91 u92 u93 u94 n9 h9 tk9 e9 i91 i92 i93 i94 F9 N9; (try dsimp only); (try k_fold))
    | ((with_reducible show wpAny _ _ (call (Value.ref 105) [Value.ref _, Value.int _ _]) _ _ _); ktf_call se_use; walk_say "CON 105"; intro D9 x9 y9 z9 t9 u91 u92 u93 u94 n9 h9 tk9 e9 i91 i92 i93 i94 F9 N9; (try dsimp only); (try k_fold)))
  w_on; o_law; k_head; (case hw => w_witness2)
  have dbl_con : dblC X.heap_1_39 X.view_1_40 (looseW X.view_1_40 [Str.ofString "binascii", Str.ofString "Zero"]) := by
    as_aux_lemma =>
      unfold dblC
      intro w mean mg mb P x y z t t1 t2 t3 t4 n news hP hx hy hz ht
      intro dp un gd cn cs a ccd cl outer A₀ base h₀ L m s Q E B F KX N T hk hd1 hu1 hret
      refine wpAny_call ?_
      k_dflt cell_enter
      k_steps
      refine ret4 hret ?_ (dblV_In _) (by k_asm) (by k_asm)
      unfold dblV
      rfl
  have add_con : addC X.heap_1_39 X.view_1_40 (looseW X.view_1_40 [Str.ofString "binascii", Str.ofString "Zero"]) := by
    as_aux_lemma =>
      clear dbl_con
      unfold addC
      intro w mean mg mb P P2 x y z t x2 y2 z2 t2' t1 t2 t3 t4 s1 s2 s3 s4 n n2 news hP hx hy hz ht hP2 hx2 hy2 hz2 ht2
      intro dp un gd cn cs a ccd cl outer A₀ base h₀ L m s Q E B F KX N T hk hd1 hu1 hret
      refine wpAny_call ?_
      k_dflt cell_enter
      k_steps
      refine ret4 hret ?_ (addV_In _ _) (by k_asm) (by k_asm)
      unfold addV
      rfl
  have non_con : nonC X.heap_1_39 X.view_1_40 (looseW X.view_1_40 [Str.ofString "binascii", Str.ofString "Zero"]) := by
    as_aux_lemma =>
      clear dbl_con add_con
      unfold nonC
      intro w mean mg mb P P2 x y z t x2 y2 z2 t2' t1 t2 t3 t4 s1 s2 s3 s4 n n2 news hP hx hy hz ht hP2 hx2 hy2 hz2 ht2
      intro dp un gd cn cs a ccd cl outer A₀ base h₀ L m s Q E B F KX N T hk hd1 hu1 hret
      refine wpAny_call ?_
      k_dflt cell_enter
      k_steps
      refine ret4 hret ?_ (nonV_In _ _) (by k_asm) (by k_asm)
      unfold nonV
      rfl
  have sum_con : sumC X.heap_1_39 X.view_1_40 (looseW X.view_1_40 [Str.ofString "binascii", Str.ofString "Zero"]) := by
    as_aux_lemma =>
      clear dbl_con add_con non_con
      unfold sumC
      intro w mean mg mb P P2 x y z x2 y2 z2 t1 t2 t3 s1 s2 s3 n n2 news hP hx hy hz hP2 hx2 hy2 hz2
      intro dp un gd cn cs a ccd cl outer A₀ base h₀ L m s Q E B F KX N T hk hd1 hu1 hret
      refine wpAny_call ?_
      k_dflt cell_enter
      k_steps
      refine ret3 hret ?_ (sumV_In _ _) (by k_asm) (by k_asm)
      unfold sumV
      rfl
  have ext_con : extC X.heap_1_39 X.view_1_40 (looseW X.view_1_40 [Str.ofString "binascii", Str.ofString "Zero"]) := by
    as_aux_lemma =>
      clear dbl_con add_con non_con sum_con
      unfold extC
      intro w mean mg mb P x y z c t1 t2 t3 u n news hP hx hy hz hc
      intro dp un gd cn cs a ccd cl outer A₀ base h₀ L m s Q E B F KX N T hk hd1 hu1 hret
      refine wpAny_call ?_
      k_dflt cell_enter
      k_steps
      refine ret4 hret ?_ (extV_In _ _) (by k_asm) (by k_asm)
      unfold extV
      rfl
  have xf_con : xfC X.heap_1_39 X.view_1_40 (looseW X.view_1_40 [Str.ofString "binascii", Str.ofString "Zero"]) := by
    as_aux_lemma =>
      clear dbl_con add_con non_con sum_con ext_con
      unfold xfC
      intro w mean mg mb P t1 t2 n news hP
      intro dp un gd cn cs a ccd cl outer A₀ base h₀ L m s Q E B F KX N T hk hd1 hu1 hret
      refine wpAny_call ?_
      k_dflt cell_enter
      k_steps
      refine ret4 hret ?_ zeroV_In (by k_asm) (by k_asm)
      unfold zeroV
      rfl
  have slow_con : slowC X.heap_1_39 X.view_1_40 (looseW X.view_1_40 [Str.ofString "binascii", Str.ofString "Zero"]) := by
    as_aux_lemma =>
      clear non_con sum_con ext_con
      unfold slowC
      intro w mean mg mb
      intro k
      induction k with
      | zero =>
        intro P x y z t t1 t2 t3 t4 n c u news hP hx hy hz ht h0 hc
        intro dp un gd cn cs a ccd cl outer A₀ base h₀ L m s Q E B F KX N T hk hd1 hu1 hret
        have hc0 : c = 0 := by rw [Int.pow_zero] at hc; omega
        subst hc0
        refine wpAny_call ?_
        k_dflt cell_enter
        k_steps
        refine' ret4 hret (slow_end0 rfl ?e_slow) (slowV_In _ _) ?F_slow ?N_slow
        case F_slow => k_asm
        case N_slow => exact drop1 (by k_asm)
        case e_slow => assumption
      | succ k ih =>
        intro P x y z t t1 t2 t3 t4 n c u news hP hx hy hz ht h0 hc
        intro dp un gd cn cs a ccd cl outer A₀ base h₀ L m s Q E B F KX N T hk hd1 hu1 hret
        refine wpAny_call ?_
        k_dflt cell_enter
        k_steps
        · refine' ret4 hret (slow_end0 (by assumption) ?e0_slow) (slowV_In _ _) ?F0_slow ?N0_slow
          case F0_slow => k_asm
          case N0_slow => exact drop1 (by k_asm)
          case e0_slow => assumption
        · k_dflt (refine' ih ?hP_slow ?hx_slow ?hy_slow ?hz_slow ?ht_slow ?h0_slow ?hc_slow _ _ _ _ _ _ _ _ _ _ _ _ _ _ _ _ _ ?k1_slow ?k2_slow ?k3_slow ?k4_slow ?k5_slow ?kK_slow ?kd_slow ?ku_slow ?_; (case k1_slow => k_asm); (case k2_slow => k_asm); (case k3_slow => k_asm); (case k4_slow => k_asm); (case k5_slow => k_asm); (case kK_slow => first | exact rfl | assumption); (case hP_slow => k_mem); (case hx_slow => assumption); (case hy_slow => assumption); (case hz_slow => assumption); (case ht_slow => assumption); (case h0_slow => exact half_nonneg h0); (case hc_slow => exact half_lt h0 hc); (case kd_slow => ktr_room); (case ku_slow => ktr_units))
          intro D x' y' z' t' u1 u2 u3 u4 n h' tk' e i1 i2 i3 i4 F' N'
          (try dsimp only); (try k_fold)
          k_steps
          · refine' ret4 hret (slow_end1 h0 (by assumption) (by assumption) e ?e2_slow ?e3_slow) (slowV_In _ _) ?F_slow ?N_slow
            case F_slow => k_asm
            case N_slow => exact drop2 (by k_asm)
            case e3_slow => assumption
            case e2_slow => assumption
          · refine' ret4 hret (slow_end2 h0 (by assumption) (by assumption) e ?e2q_slow) (slowV_In _ _) ?Fq_slow ?Nq_slow
            case Fq_slow => k_asm
            case Nq_slow => exact drop1 (by k_asm)
            case e2q_slow => assumption
  have se_con : seC X.heap_1_39 X.view_1_40 (looseW X.view_1_40 [Str.ofString "binascii", Str.ofString "Zero"]) := by
    as_aux_lemma =>
      clear add_con sum_con ext_con slow_con
      unfold seC
      intro w mean mg mb
      intro k
      induction k with
      | zero =>
        intro P x y z t t1 t2 t3 t4 n c u news hP hx hy hz ht h0 hc
        intro dp un gd cn cs a ccd cl outer A₀ base h₀ L m s Q E B F KX N T hk hd1 hu1 hret
        have hc0 : c = 0 := by rw [Int.pow_zero] at hc; omega
        subst hc0
        refine wpAny_call ?_
        k_dflt cell_enter
        k_steps
        refine' ret4 hret (se_end0 rfl ?e_se) (seV_In _ _) ?F_se ?N_se
        case F_se => k_asm
        case N_se => exact drop1 (by k_asm)
        case e_se => assumption
      | succ k ih =>
        intro P x y z t t1 t2 t3 t4 n c u news hP hx hy hz ht h0 hc
        intro dp un gd cn cs a ccd cl outer A₀ base h₀ L m s Q E B F KX N T hk hd1 hu1 hret
        refine wpAny_call ?_
        k_dflt cell_enter
        k_steps
        · refine' ret4 hret (se_end0 (by assumption) ?e0_se) (seV_In _ _) ?F0_se ?N0_se
          case F0_se => k_asm
          case N0_se => exact drop1 (by k_asm)
          case e0_se => assumption
        · k_dflt (refine' ih ?hP_se ?hx_se ?hy_se ?hz_se ?ht_se ?h0_se ?hc_se _ _ _ _ _ _ _ _ _ _ _ _ _ _ _ _ _ ?k1_se ?k2_se ?k3_se ?k4_se ?k5_se ?kK_se ?kd_se ?ku_se ?_; (case k1_se => k_asm); (case k2_se => k_asm); (case k3_se => k_asm); (case k4_se => k_asm); (case k5_se => k_asm); (case kK_se => first | exact rfl | assumption); (case hP_se => k_mem); (case hx_se => assumption); (case hy_se => assumption); (case hz_se => assumption); (case ht_se => assumption); (case h0_se => exact half_nonneg h0); (case hc_se => exact half_lt h0 hc); (case kd_se => ktr_room); (case ku_se => ktr_units))
          intro D x' y' z' t' u1 u2 u3 u4 n h' tk' e i1 i2 i3 i4 F' N'
          (try dsimp only); (try k_fold)
          k_steps
          · refine' ret4 hret (se_end1 h0 (by assumption) (by assumption) e ?e2_se ?e3_se) (seV_In _ _) ?F_se ?N_se
            case F_se => k_asm
            case N_se => exact drop2 (by k_asm)
            case e3_se => assumption
            case e2_se => assumption
          · refine' ret4 hret (se_end2 h0 (by assumption) (by assumption) e ?e2q_se) (seV_In _ _) ?Fq_se ?Nq_se
            case Fq_se => k_asm
            case Nq_se => exact drop1 (by k_asm)
            case e2q_se => assumption
  have times_con : timesC X.heap_1_39 X.view_1_40 (looseW X.view_1_40 [Str.ofString "binascii", Str.ofString "Zero"]) := by
    as_aux_lemma =>
      clear dbl_con add_con non_con ext_con xf_con slow_con se_con
      unfold timesC
      intro w mean mg mb P x y z t1 t2 t3 n c u news hP hx hy hz h0
      intro dp un gd cn cs a ccd cl outer A₀ base h₀ L m s Q E B F KX N T hk hd1 hu1 hret
      refine wpAny_call ?_
      k_dflt cell_enter
      k_steps
      unfold Hold
      (rename Fr _ _ _ _ => lF'); (rename News _ _ _ _ => lN')
      have kn := times_start c u lN' hP
      (with_unfolding_all refine' ksw_while (LS.led news) LS.ps (fun _ => True) [] (LS.ok (timesV ⟨x, y, z⟩ c.toNat)) (fun c => c.k.toNat) _ lF' kn ?kf_times ?kk_times ?kp_times ?_)
      case kf_times => trivial
      case kk_times => kst_all
      case kp_times => exact ⟨inq0, inq1, inq1, hx, hy, hz, h0, by unfold timesV; rfl⟩
      clear lF' lN' kn
      rintro ⟨f, fx, fy, fz, a1, a2, a3, an, p, px, py, pz, b1, b2, b3, bn, k, kt⟩ uu hh tk' _ ⟨i1, i2, i3, i4, i5, i6, hk0, hr⟩ F' N'
      dsimp only [LS.led, LS.ps] at F' N' i1 i2 i3 i4 i5 i6 hk0 hr
      k_steps
      · (rename Fr _ _ _ _ => lF'); (rename News _ _ _ _ => lN')
        refine' ksw_end _ lF' (times_next lN' ?sub_times) (fun _ h => h) trivial ?hk_times ?hr_times ?hp_times ?hm_times
        case sub_times => exact fun q hq => List.mem_cons_of_mem _ (List.mem_cons_of_mem _ hq)
        case hk_times => kst_all
        case hr_times =>
          intro z h2 _
          have e1 : z ≠ Str.ofString "found" := h2 _ List.mem_cons_self
          have e2 : z ≠ Str.ofString "point" := h2 _ (List.mem_cons_of_mem _ List.mem_cons_self)
          have e3 : z ≠ Str.ofString "number" := h2 _ (List.mem_cons_of_mem _ (List.mem_cons_of_mem _ List.mem_cons_self))
          clear h2
          simp only [kstB, e1, e2, e3, if_false]
          exact if_neg (by simp)
        case hp_times => exact ⟨by assumption, by assumption, by assumption, by assumption, by assumption, by assumption, two_pos hk0, ok_odd hr (by assumption) (by assumption) (by assumption) (by assumption)⟩
        case hm_times => exact two_lt (by assumption)
      · (rename Fr _ _ _ _ => lF'); (rename News _ _ _ _ => lN')
        refine' ksw_end _ lF' (times_next lN' ?subq_times) (fun _ h => h) trivial ?hkq_times ?hrq_times ?hpq_times ?hmq_times
        case subq_times => exact fun q hq => List.mem_cons_of_mem _ hq
        case hkq_times => kst_all
        case hrq_times =>
          intro z h2 _
          have e1 : z ≠ Str.ofString "found" := h2 _ List.mem_cons_self
          have e2 : z ≠ Str.ofString "point" := h2 _ (List.mem_cons_of_mem _ List.mem_cons_self)
          have e3 : z ≠ Str.ofString "number" := h2 _ (List.mem_cons_of_mem _ (List.mem_cons_of_mem _ List.mem_cons_self))
          clear h2
          simp only [kstB, e1, e2, e3, if_false]
          exact if_neg (by simp)
        case hpq_times => exact ⟨by assumption, by assumption, by assumption, by assumption, by assumption, by assumption, two_pos hk0, ok_even hr (by assumption) (by assumption) (by assumption)⟩
        case hmq_times => exact two_lt (by assumption)
      · refine' ret3 hret (ok_done hr (by assumption)) (timesV_In _ _) ?F_times ?N_times
        case F_times => k_asm
        case N_times => exact drop1 (by k_asm)
  have point_con : pointC X.heap_1_39 X.view_1_40 (looseW X.view_1_40 [Str.ofString "binascii", Str.ofString "Zero"]) := by
    as_aux_lemma =>
      clear dbl_con add_con non_con ext_con xf_con slow_con se_con
      unfold pointC
      intro w mean mg mb c e u v news h0
      intro dp un gd cn cs a ccd cl outer A₀ base h₀ L m s Q E B F KX N T hk hd1 hu1 hret
      refine wpAny_call ?_
      k_dflt cell_enter
      k_steps
      · refine' ret3 hret (point_end1 (by assumption) ?e1_point ?e2_point ?e3_point) (pointV_In _ _) ?F_point ?N_point
        case F_point => k_asm
        case N_point => first | exact drop1 (by k_asm) | exact drop2 (by k_asm) | exact drop3 (by k_asm) | exact drop4 (by k_asm) | exact drop5 (by k_asm) | exact drop6 (by k_asm)
        case e3_point => assumption
        case e2_point => assumption
        case e1_point => assumption
      · refine' ret3 hret (point_end2 (by assumption) ?e1q_point ?e2q_point ?e3q_point) (pointV_In _ _) ?Fq_point ?Nq_point
        case Fq_point => k_asm
        case Nq_point => first | exact drop1 (by k_asm) | exact drop2 (by k_asm) | exact drop3 (by k_asm) | exact drop4 (by k_asm) | exact drop5 (by k_asm) | exact drop6 (by k_asm)
        case e3q_point => assumption
        case e2q_point => assumption
        case e1q_point => assumption
  have stands_con : standsC X.heap_1_39 X.view_1_40 (looseW X.view_1_40 [Str.ofString "binascii", Str.ofString "Zero"]) := by
    as_aux_lemma =>
      clear dbl_con add_con non_con sum_con ext_con xf_con slow_con se_con times_con point_con
      unfold standsC
      intro w mean mg mb P P2 x y z t x2 y2 z2 t1 t2 t3 t4 s1 s2 s3 n n2 news hP hx hy hz ht hP2 hx2 hy2 hz2 g
      intro dp un gd cn cs a ccd cl outer A₀ base h₀ L m s Q E B F KX N T hk hd1 hu1 hret
      refine wpAny_call ?_
      k_dflt cell_enter
      k_steps
      · exact absurd (by assumption) g.g1
      · exact absurd g.g2 (by assumption)
      · rw [beq_iff_eq.mpr g.g4]
        exact hret _ _ (by k_asm) (by k_asm)
      · exact absurd g.g3 (by assumption)
  have lcell_con : lcellC X.heap_1_39 X.view_1_40 (looseW X.view_1_40 [Str.ofString "binascii", Str.ofString "Zero"]) := by
    as_aux_lemma =>
      clear dbl_con add_con non_con sum_con ext_con xf_con slow_con se_con times_con point_con stands_con
      unfold lcellC
      intro w mean mg mb l vs ns i u dp un gd cn cs a ccd cl outer A₀ base h₀ L m s Q E news B F KX N T hk hl hi hfit hlay h0 hd1 hu1 hret
      refine wpAny_call ?_
      k_dflt cell_enter
      k_steps
      · rw [cell_end1 h0 (by assumption)]; exact hret _ _ _ (by k_asm) (by k_asm)
      · rw [cell_end2 (ns := ns) h0 (by assumption)]; exact hret _ _ _ (by k_asm) (by k_asm)
  w_strict (
    as_aux_lemma =>
      k_go0
      (all_goals try k_fold)
      k_steps)
end Mine
theorem PySem.Challenge.cw_jx0020_01_holds : PySem.Challenge.rw_jx0020_01.Holds := by
  exact Mine.X
