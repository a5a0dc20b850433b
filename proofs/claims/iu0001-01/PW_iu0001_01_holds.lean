import PyProof.Rows.All
import Wide.All
import OpenK.AllK
import Wide.FinOn
import PySem.Challenge.RW_iu0001_01
open PySem PySem.W PyProof.Rows
set_option Elab.async false
set_option maxRecDepth 100000
namespace Mine
set_option maxHeartbeats 8000000 in
open_top hd for PySem.Challenge.rw_iu0001_01

/-- what the law builds: an even step, a count of steps -/
structure Good (a m : Int) : Prop where
  lo : 2 ≤ a
  even : a % 2 = 0
  hi : a ≤ 60000000
  one : 1 ≤ m
  most : m ≤ 60

def S (r a m : Int) : Int := (r % (a * m + 1) + a / 2 - 1) / a % m
def Lw (r a m : Int) : Int := (r - S r a m * a + a / 2) % (a * m + 1) - a / 2
def far (r q : Int) : Int := if r % q ≤ (-r) % q then r % q else (-r) % q
def rmp (r n : Int) : Int := if n / 2 < r % n then r % n - n else r % n
def H (z r a m : Int) : Int := if S r a m = S (r + z) a m then 0 else 1
def U (h r a m : Int) : Int := if h = 1 then (if 0 < Lw r a m then (S r a m + 1) % m else (S r a m - 1) % m) else S r a m
def O (o st a m : Int) : Int := if S (st * a + o) a m = st then 0 else 1

structure Near (a m k d : Int) : Prop where
  k0 : 0 ≤ k
  km : k < m
  dlo : -(a / 2) ≤ d
  dhi : d ≤ a / 2
  edge : d = -(a / 2) → k = 0

theorem Good.aq {a m : Int} (g : Good a m) : a ≤ a * m := by
  have := Int.mul_le_mul_of_nonneg_left g.one (show (0:Int) ≤ a by have := g.lo; omega)
  omega
theorem Good.q_pos {a m : Int} (g : Good a m) : 0 < a * m + 1 := by have := g.aq; have := g.lo; omega
theorem Good.q_hi {a m : Int} (g : Good a m) : a * m ≤ 3600000000 := by
  have h1 := Int.mul_le_mul_of_nonneg_left g.most (show (0:Int) ≤ a by have := g.lo; omega)
  have := g.hi
  omega
theorem Good.q_even {a m : Int} (g : Good a m) : a * m % 2 = 0 := by
  rw [Int.mul_emod, g.even]; simp

theorem div_of {x a k e : Int} (ha : 0 < a) (h : x = k * a + e) (h0 : 0 ≤ e) (h1 : e < a) : x / a = k := by
  subst h
  rw [show k * a + e = e + k * a by omega, Int.add_mul_ediv_right _ _ (by omega), Int.ediv_eq_zero_of_lt h0 h1]; omega
theorem mod_of {x q j e : Int} (h : x = e + j * q) (h0 : 0 ≤ e) (h1 : e < q) : x % q = e := by
  subst h
  rw [Int.add_mul_emod_self_right, Int.emod_eq_of_lt h0 h1]

/-- the row's place k * a + d, the turns taken away -/
theorem place {a m k d r j : Int} (g : Good a m) (n : Near a m k d) (h : r = k * a + d + j * (a * m + 1)) :
    r % (a * m + 1) = if k = 0 ∧ d < 0 then a * m + 1 + d else k * a + d := by
  have ⟨k0, km, dlo, dhi, edge⟩ := n
  have := g.lo; have := g.even; have aq := g.aq
  have hk0 : 0 ≤ k * a := Int.mul_nonneg k0 (by omega)
  have hkm : k * a ≤ (m - 1) * a := Int.mul_le_mul_of_nonneg_right (by omega) (by omega)
  have hm1 : (m - 1) * a = a * m - a := by rw [Int.sub_mul, Int.mul_comm m a]; omega
  split
  · rename_i hh
    obtain ⟨e, hd⟩ := hh
    subst e
    refine mod_of (j := j - 1) ?_ (by omega) (by omega)
    rw [Int.sub_mul]; omega
  · rename_i hh
    refine mod_of (j := j) (by omega) ?_ (by omega)
    by_cases hd : d < 0
    · have : 1 ≤ k := by
        rcases Int.lt_or_le k 1 with c | c
        · exact absurd ⟨by omega, hd⟩ hh
        · exact c
      have : a ≤ k * a := by
        have := Int.mul_le_mul_of_nonneg_right this (show (0:Int) ≤ a by omega)
        omega
      omega
    · omega

theorem near_S {a m k d r j : Int} (g : Good a m) (n : Near a m k d) (h : r = k * a + d + j * (a * m + 1)) : S r a m = k := by
  have p := place g n h
  have ⟨k0, km, dlo, dhi, edge⟩ := n
  have := g.lo; have := g.even; have aq := g.aq
  unfold S
  rw [p]
  split
  · rename_i hh
    obtain ⟨e, hd⟩ := hh
    subst e
    rw [div_of (k := m) (e := d + a / 2) (by omega) (by rw [Int.mul_comm m a]; omega) (by omega) (by omega), Int.emod_self]
  · rename_i hh
    by_cases hd : d = -(a / 2)
    · have := edge hd
      exact absurd ⟨this, by omega⟩ hh
    · rw [div_of (k := k) (e := d + a / 2 - 1) (by omega) (by omega) (by omega) (by omega), Int.emod_eq_of_lt k0 km]

theorem near_L {a m k d r j : Int} (g : Good a m) (n : Near a m k d) (h : r = k * a + d + j * (a * m + 1)) : Lw r a m = d := by
  have ⟨k0, km, dlo, dhi, edge⟩ := n
  have := g.lo; have := g.even; have aq := g.aq
  unfold Lw
  rw [near_S g n h, mod_of (j := j) (e := d + a / 2) (by omega) (by omega) (by omega)]
  omega

theorem near_ex {a m : Int} (g : Good a m) (r : Int) : ∃ k d j, Near a m k d ∧ r = k * a + d + j * (a * m + 1) := by
  have := g.lo; have := g.even; have aq := g.aq
  have hq := g.q_pos
  have e1 := Int.mul_ediv_add_emod r (a * m + 1)
  have p0 := Int.emod_nonneg r (show a * m + 1 ≠ 0 by omega)
  have p1 := Int.emod_lt_of_pos r hq
  have e2 := Int.mul_ediv_add_emod (r % (a * m + 1) + a / 2 - 1) a
  have q0 := Int.emod_nonneg (r % (a * m + 1) + a / 2 - 1) (show a ≠ 0 by omega)
  have q1 := Int.emod_lt_of_pos (r % (a * m + 1) + a / 2 - 1) (show 0 < a by omega)
  generalize (r % (a * m + 1) + a / 2 - 1) % a = x at *
  generalize hk : (r % (a * m + 1) + a / 2 - 1) / a = k at *
  have k0 : 0 ≤ k := by
    rw [← hk]; exact Int.ediv_nonneg (by omega) (by omega)
  have kle : k ≤ m := by
    rw [← hk]
    have : (r % (a * m + 1) + a / 2 - 1) / a < m + 1 := Int.ediv_lt_of_lt_mul (by omega) (by rw [Int.add_mul, Int.mul_comm m a]; omega)
    omega
  have e2' : a * k = k * a := Int.mul_comm a k
  have e1' : (a * m + 1) * (r / (a * m + 1)) = r / (a * m + 1) * (a * m + 1) := Int.mul_comm _ _
  by_cases hkm : k = m
  · refine ⟨0, x - a / 2, r / (a * m + 1) + 1, ⟨by omega, by have := g.one; omega, by omega, by omega, fun _ => rfl⟩, ?_⟩
    subst hkm
    rw [Int.add_mul]; omega
  · exact ⟨k, x - a / 2 + 1, r / (a * m + 1), ⟨k0, by omega, by omega, by omega, fun h => by omega⟩, by omega⟩

theorem near {a m : Int} (g : Good a m) (r : Int) : Near a m (S r a m) (Lw r a m) ∧ ∃ j, r = S r a m * a + Lw r a m + j * (a * m + 1) := by
  obtain ⟨k, d, j, n, h⟩ := near_ex g r
  rw [near_S g n h, near_L g n h]
  exact ⟨n, j, h⟩

theorem S_range {a m : Int} (g : Good a m) (r : Int) : 0 ≤ S r a m ∧ S r a m < m := by
  unfold S
  exact ⟨Int.emod_nonneg _ (by have := g.one; omega), Int.emod_lt_of_pos _ (by have := g.one; omega)⟩

theorem after {a m : Int} (g : Good a m) (r z : Int) (z0 : -(a / 2) ≤ z) (z1 : z ≤ a / 2) :
    S (r + z) a m = S r a m ∨ (0 < Lw r a m ∧ S (r + z) a m = (S r a m + 1) % m) ∨ (Lw r a m ≤ 0 ∧ S (r + z) a m = (S r a m - 1) % m) := by
  obtain ⟨n, j, h⟩ := near g r
  generalize S r a m = k at *
  generalize Lw r a m = d at *
  have ⟨k0, km, dlo, dhi, edge⟩ := n
  have := g.lo; have := g.even; have aq := g.aq
  by_cases c : d + z > a / 2
  · refine .inr (.inl ⟨by omega, ?_⟩)
    by_cases e : k + 1 = m
    · rw [e, Int.emod_self]
      refine near_S (k := 0) (d := d + z - a - 1) (j := j + 1) g ⟨by omega, by omega, by omega, by omega, fun _ => rfl⟩ ?_
      rw [Int.add_mul]
      have : k * a + a = a * m := by rw [← e, Int.mul_add, Int.mul_comm a k]; omega
      omega
    · rw [Int.emod_eq_of_lt (by omega) (by omega)]
      refine near_S (k := k + 1) (d := d + z - a) (j := j) g ⟨by omega, by omega, by omega, by omega, fun _ => by omega⟩ ?_
      rw [Int.add_mul]; omega
  · by_cases c2 : d + z < -(a / 2) ∨ (d + z = -(a / 2) ∧ k ≠ 0)
    · refine .inr (.inr ⟨by omega, ?_⟩)
      by_cases e : k = 0
      · subst e
        have : ((0 : Int) - 1) % m = m - 1 := mod_of (j := -1) (by omega) (by omega) (by omega)
        rw [this]
        refine near_S (k := m - 1) (d := d + z + a + 1) (j := j - 1) g ⟨by omega, by omega, by omega, by omega, fun _ => by omega⟩ ?_
        rw [Int.sub_mul, Int.sub_mul, Int.mul_comm m a]; omega
      · rw [Int.emod_eq_of_lt (by omega) (by omega)]
        have : d ≠ -(a / 2) := fun x => e (edge x)
        refine near_S (k := k - 1) (d := d + z + a) (j := j) g ⟨by omega, by omega, by omega, by omega, fun _ => by omega⟩ ?_
        rw [Int.sub_mul]; omega
    · refine .inl (near_S (k := k) (d := d + z) (j := j) g ⟨by omega, by omega, by omega, by omega, fun _ => by omega⟩ (by omega))

theorem told_after {a m : Int} (g : Good a m) (r z : Int) (z0 : -(a / 2) ≤ z) (z1 : z ≤ a / 2) : U (H z r a m) r a m = S (r + z) a m := by
  unfold U H
  have := after g r z z0 z1
  by_cases e : S r a m = S (r + z) a m
  · rw [if_pos e, if_neg (by omega), e]
  · rw [if_neg e, if_pos rfl]
    split <;> omega

theorem step_ne {a m : Int} (g : Good a m) (r : Int) (m1 : 1 < m) : (S r a m + 1) % m ≠ S r a m ∧ (S r a m - 1) % m ≠ S r a m := by
  have ⟨h0, h1⟩ := S_range g r
  constructor
  · by_cases e : S r a m + 1 = m
    · rw [e, Int.emod_self]; omega
    · rw [Int.emod_eq_of_lt (by omega) (by omega)]; omega
  · by_cases e : S r a m = 0
    · rw [e, show ((0 : Int) - 1) % m = m - 1 from mod_of (j := -1) (by omega) (by omega) (by omega)]; omega
    · rw [Int.emod_eq_of_lt (by omega) (by omega)]; omega

theorem told_other {a m : Int} (g : Good a m) (r z : Int) (m1 : 1 < m) : U (1 - H z r a m) r a m ≠ S (r + z) a m := by
  unfold U H
  have ⟨h0, h1⟩ := step_ne g r m1
  by_cases e : S r a m = S (r + z) a m
  · rw [if_pos e, if_pos (by omega), ← e]
    split <;> assumption
  · rw [if_neg e, if_neg (by omega)]; exact e

theorem U_range {a m : Int} (g : Good a m) (h r : Int) : 0 ≤ U h r a m ∧ U h r a m < m := by
  have := g.one
  unfold U
  split
  · split <;> exact ⟨Int.emod_nonneg _ (by omega), Int.emod_lt_of_pos _ (by omega)⟩
  · exact S_range g r

theorem far_le {q e j x b : Int} (hq : 0 < q) (h : x = e + j * q) (h1 : e ≤ b) (h2 : -e ≤ b) : far x q ≤ b := by
  have k1 : x % q = e % q := by rw [h, Int.add_mul_emod_self_right]
  have k2 : (-x) % q = (-e) % q := by
    rw [h, show -(e + j * q) = -e + (-j) * q by rw [Int.neg_mul]; omega, Int.add_mul_emod_self_right]
  unfold far
  rw [k1, k2]
  by_cases c : 0 ≤ e
  · have : e % q ≤ e := by
      have h1 := Int.mul_ediv_add_emod e q
      have h2 := Int.mul_nonneg (show (0:Int) ≤ q by omega) (Int.ediv_nonneg c (show (0:Int) ≤ q by omega))
      omega
    split <;> omega
  · have : (-e) % q ≤ -e := by
      have h1 := Int.mul_ediv_add_emod (-e) q
      have h2 := Int.mul_nonneg (show (0:Int) ≤ q by omega) (Int.ediv_nonneg (show (0:Int) ≤ -e by omega) (show (0:Int) ≤ q by omega))
      omega
    split <;> omega

theorem told_far0 {a m : Int} (g : Good a m) (r : Int) : far (r - U 0 r a m * a) (a * m + 1) ≤ a / 2 := by
  obtain ⟨n, j, h⟩ := near g r
  have ⟨k0, km, dlo, dhi, edge⟩ := n
  have : U 0 r a m = S r a m := by unfold U; rw [if_neg (by omega)]
  rw [this]
  exact far_le (e := Lw r a m) (j := j) g.q_pos (by omega) (by omega) (by omega)

theorem told_far1 {a m : Int} (g : Good a m) (r : Int) : far (r - U 1 r a m * a) (a * m + 1) ≤ a / 2 + (a / 2 + 1) := by
  obtain ⟨n, j, h⟩ := near g r
  have ⟨k0, km, dlo, dhi, edge⟩ := n
  have := g.lo; have := g.even
  unfold U
  rw [if_pos rfl]
  generalize S r a m = k at *
  generalize Lw r a m = d at *
  split
  · by_cases e : k + 1 = m
    · rw [e, Int.emod_self]
      refine far_le (e := d - a - 1) (j := j + 1) g.q_pos ?_ (by omega) (by omega)
      rw [Int.add_mul]
      have : k * a + a = a * m := by rw [← e, Int.mul_add, Int.mul_comm a k]; omega
      omega
    · rw [Int.emod_eq_of_lt (by omega) (by omega)]
      refine far_le (e := d - a) (j := j) g.q_pos ?_ (by omega) (by omega)
      rw [Int.add_mul]; omega
  · by_cases e : k = 0
    · subst e
      rw [show ((0 : Int) - 1) % m = m - 1 from mod_of (j := -1) (by omega) (by omega) (by omega)]
      refine far_le (e := d + a + 1) (j := j - 1) g.q_pos ?_ (by omega) (by omega)
      rw [Int.sub_mul, Int.sub_mul, Int.mul_comm m a]; omega
    · rw [Int.emod_eq_of_lt (by omega) (by omega)]
      refine far_le (e := d + a) (j := j) g.q_pos ?_ (by omega) (by omega)
      rw [Int.sub_mul]; omega

theorem opt {a m : Int} (g : Good a m) (o st : Int) (o0 : 0 ≤ o) (o1 : o < a * m + 1) (s0 : 0 ≤ st) (s1 : st < m) :
    S (st * a + o) a m = st ↔ (o ≤ a / 2 ∨ a * m + 1 - a / 2 < o ∨ (o = a * m + 1 - a / 2 ∧ st = 0)) := by
  have := g.lo; have := g.even; have aq := g.aq
  constructor
  · intro e
    obtain ⟨n, j, h⟩ := near g (st * a + o)
    rw [e] at n h
    have ⟨k0, km, dlo, dhi, edge⟩ := n
    generalize Lw (st * a + o) a m = d at *
    have ho : o = d + j * (a * m + 1) := by omega
    by_cases c : j ≤ 0
    · by_cases c2 : j = 0
      · subst c2; omega
      · have : j * (a * m + 1) ≤ (-1) * (a * m + 1) := Int.mul_le_mul_of_nonneg_right (by omega) (by omega)
        omega
    · by_cases c2 : j = 1
      · subst c2
        by_cases c3 : d = -(a / 2)
        · have := edge c3; omega
        · omega
      · have : 2 * (a * m + 1) ≤ j * (a * m + 1) := Int.mul_le_mul_of_nonneg_right (by omega) (by omega)
        omega
  · intro e
    rcases e with e | e | ⟨e, e'⟩
    · exact near_S (k := st) (d := o) (j := 0) g ⟨s0, s1, by omega, by omega, fun _ => by omega⟩ (by omega)
    · exact near_S (k := st) (d := o - (a * m + 1)) (j := 1) g ⟨s0, s1, by omega, by omega, fun _ => by omega⟩ (by omega)
    · exact near_S (k := st) (d := o - (a * m + 1)) (j := 1) g ⟨s0, s1, by omega, by omega, fun _ => e'⟩ (by omega)

theorem O_of {a m : Int} (g : Good a m) (o st : Int) (o0 : 0 ≤ o) (o1 : o < a * m + 1) (s0 : 0 ≤ st) (s1 : st < m) :
    O o st a m = if o ≤ a / 2 ∨ a * m + 1 - a / 2 < o ∨ (o = a * m + 1 - a / 2 ∧ st = 0) then 0 else 1 := by
  unfold O
  by_cases c : S (st * a + o) a m = st
  · rw [if_pos c, if_pos ((opt g o st o0 o1 s0 s1).1 c)]
  · rw [if_neg c, if_neg (fun x => c ((opt g o st o0 o1 s0 s1).2 x))]

theorem neg_mod {r q : Int} (hq : 0 < q) : (-r) % q = if r % q = 0 then 0 else q - r % q := by
  have e := Int.mul_ediv_add_emod r q
  have p0 := Int.emod_nonneg r (show q ≠ 0 by omega)
  have p1 := Int.emod_lt_of_pos r hq
  have hc : q * (r / q) = r / q * q := Int.mul_comm _ _
  split
  · exact mod_of (j := -(r / q)) (by rw [Int.neg_mul]; omega) (by omega) (by omega)
  · exact mod_of (j := -(r / q) - 1) (by rw [Int.sub_mul, Int.neg_mul]; omega) (by omega) (by omega)

theorem far_eq {r q : Int} (hq : 0 < q) (odd : q % 2 = 1) : far r q = if (q - 1) / 2 < r % q then q - r % q else r % q := by
  have p0 := Int.emod_nonneg r (show q ≠ 0 by omega)
  have p1 := Int.emod_lt_of_pos r hq
  unfold far
  rw [neg_mod hq]
  repeat' split
  all_goals omega

theorem far_range {r q : Int} (hq : 0 < q) : 0 ≤ far r q ∧ far r q < q := by
  have p0 := Int.emod_nonneg r (show q ≠ 0 by omega)
  have p1 := Int.emod_lt_of_pos r hq
  have p2 := Int.emod_nonneg (-r) (show q ≠ 0 by omega)
  have p3 := Int.emod_lt_of_pos (-r) hq
  unfold far; split <;> omega

theorem centre_far {r q : Int} (hq : 0 < q) (odd : q % 2 = 1) : ((rmp r q).natAbs : Int) = far r q := by
  have p0 := Int.emod_nonneg r (show q ≠ 0 by omega)
  have p1 := Int.emod_lt_of_pos r hq
  rw [far_eq hq odd]
  unfold rmp
  repeat' split
  all_goals omega

theorem centre_mod {r q : Int} (hq : 0 < q) : (rmp r q - r) % q = 0 := by
  have e := Int.mul_ediv_add_emod r q
  have hc : q * (r / q) = r / q * q := Int.mul_comm _ _
  unfold rmp
  split
  · exact mod_of (j := -(r / q) - 1) (by rw [Int.sub_mul, Int.neg_mul]; omega) (by omega) (by omega)
  · exact mod_of (j := -(r / q)) (by rw [Int.neg_mul]; omega) (by omega) (by omega)

/-- what decompose reckons -/
theorem dec_of {a m : Int} (g : Good a m) (r : Int) :
    if r % (a * m + 1) - rmp (r % (a * m + 1)) a = a * m + 1 - 1 then S r a m = 0 ∧ Lw r a m = rmp (r % (a * m + 1)) a - 1
    else S r a m = (r % (a * m + 1) - rmp (r % (a * m + 1)) a) / a ∧ Lw r a m = rmp (r % (a * m + 1)) a := by
  have := g.lo; have := g.even; have aq := g.aq
  obtain ⟨n, j, h⟩ := near g r
  have p := place g n h
  have ⟨k0, km, dlo, dhi, edge⟩ := n
  generalize S r a m = k at *
  generalize Lw r a m = d at *
  have hk0 : 0 ≤ k * a := Int.mul_nonneg k0 (by omega)
  have hkm : k * a ≤ (m - 1) * a := Int.mul_le_mul_of_nonneg_right (by omega) (by omega)
  have hm1 : (m - 1) * a = a * m - a := by rw [Int.sub_mul, Int.mul_comm m a]; omega
  rw [p]
  by_cases c : k = 0 ∧ d < 0
  · rw [if_pos c]
    obtain ⟨e, hd⟩ := c
    have : rmp (a * m + 1 + d) a = d + 1 := by
      unfold rmp
      by_cases c2 : d + 1 < 0
      · have : (a * m + 1 + d) % a = a + d + 1 := mod_of (j := m - 1) (by rw [hm1]; omega) (by omega) (by omega)
        rw [this, if_pos (by omega)]; omega
      · have : (a * m + 1 + d) % a = d + 1 := mod_of (j := m) (by rw [Int.mul_comm m a]; omega) (by omega) (by omega)
        rw [this, if_neg (by omega)]
    rw [this, if_pos (by omega)]
    omega
  · rw [if_neg c]
    have hd : d ≠ -(a / 2) := fun x => c ⟨edge x, by omega⟩
    have : rmp (k * a + d) a = d := by
      unfold rmp
      by_cases c2 : d < 0
      · have : (k * a + d) % a = a + d := mod_of (j := k - 1) (by rw [Int.sub_mul]; omega) (by omega) (by omega)
        rw [this, if_pos (by omega)]; omega
      · have : (k * a + d) % a = d := mod_of (j := k) (by omega) (by omega) (by omega)
        rw [this, if_neg (by omega)]
    rw [this, if_neg (by omega)]
    refine ⟨?_, rfl⟩
    rw [show k * a + d - d = k * a by omega, Int.mul_ediv_cancel _ (by omega)]

abbrev Cl (w : World) (s₀ : Shared) (mg mb : Str → Option Value) (f : Addr) (d : Nat) (vs : List Value) (R : Tok → Value) : Prop :=
  ∀ (news : List (Addr × Obj)) (dp un : Nat) (gd : Option (List Code)) (cn : Str) (cs : Scope) (a : Addr) (ccd : Value) (cl : List (Str × Addr)) (outer : List Env) (A₀ : Around) (base h₀ : Heap) (L : Addr) (m : Str → Option Value) (s : Shared) (Q E : Value → Shared → Prop),
    Below A₀ base outer h₀ → Fr h₀ L s.heap m → (hd.heap_39 w.params).In h₀ → News h₀ L s.heap news → Top hd.view_39 (looseW hd.view_39 []) (ExcName.means s₀.heap) mg mb h₀ → cs.kind = .function →
    dp + d < recursionLimit → un + 8 * d < cLine → (∀ (t : Tok) (h' : Heap) (tk' : Nat), Fr h₀ L h' m → News h₀ L h' news → Q (R t) { s with heap := h', toks := tk' }) →
      wpAny (model PySem.Challenge.rw_iu0001_01.row.prog w) (ktrTop dp un gd cn cs L a ccd cl outer) (call (.ref f) vs) Q E s

abbrev ClT (w : World) (s₀ : Shared) (mg mb : Str → Option Value) (f : Addr) (d : Nat) (vs : List Value) (r1 r2 : Int) : Prop :=
  ∀ (news : List (Addr × Obj)) (dp un : Nat) (gd : Option (List Code)) (cn : Str) (cs : Scope) (a : Addr) (ccd : Value) (cl : List (Str × Addr)) (outer : List Env) (A₀ : Around) (base h₀ : Heap) (L : Addr) (m : Str → Option Value) (s : Shared) (Q E : Value → Shared → Prop),
    Below A₀ base outer h₀ → Fr h₀ L s.heap m → (hd.heap_39 w.params).In h₀ → News h₀ L s.heap news → Top hd.view_39 (looseW hd.view_39 []) (ExcName.means s₀.heap) mg mb h₀ → cs.kind = .function →
    dp + d < recursionLimit → un + 8 * d < cLine → (∀ (D : Addr) (t1 t2 : Tok) (c : Nat) (h' : Heap) (tk' : Nat), Fr h₀ L h' m → News h₀ L h' ((D, ({ cls := .type "tuple", data := .seq #[.int r1 t1, .int r2 t2] c } : Obj)) :: news) → (∀ p ∈ news, p.1 < D) → Q (.ref D) { s with heap := h', toks := tk' }) →
      wpAny (model PySem.Challenge.rw_iu0001_01.row.prog w) (ktrTop dp un gd cn cs L a ccd cl outer) (call (.ref f) vs) Q E s

theorem fm {x n : Int} (h : 0 < n) : x.fmod n = x % n := Int.fmod_eq_emod_of_nonneg x (Int.le_of_lt h)
theorem fd {x n : Int} (h : 0 < n) : x.fdiv n = x / n := Int.fdiv_eq_ediv_of_nonneg x (Int.le_of_lt h)
theorem half (x : Int) : x.fdiv (2 ^ Int.toNat 1) = x / 2 := fd (by decide)
theorem rmp_y {r n : Int} (hn : 0 < n) (h : n.fdiv (2 ^ Int.toNat 1) < r.fmod n) : r.fmod n - n = rmp r n := by
  rw [half, fm hn] at h; rw [fm hn]; unfold rmp; rw [if_pos h]
theorem rmp_n {r n : Int} (hn : 0 < n) (h : ¬n.fdiv (2 ^ Int.toNat 1) < r.fmod n) : r.fmod n = rmp r n := by
  rw [half, fm hn] at h; rw [fm hn]; unfold rmp; rw [if_neg h]

set_option maxHeartbeats 8000000 in
theorem c_rmp (w : World) (s₀ : Shared) (mg mb) (r n : Int) (t1 t2 : Tok) (hn : 0 < n) : Cl w s₀ mg mb 21 1 [.int r t1, .int n t2] (fun t => .int (rmp r n) t) := by
  dsimp only [Cl]; k_fill; intros; rename_i hret
  w_strict (refine wpAny_call ?_; k_dflt cell_enter; k_steps)
  · exact cb_retI hret (rmp_y hn (by assumption)) (by k_asm) (by k_asm)
  · exact cb_retI hret (rmp_n hn (by assumption)) (by k_asm) (by k_asm)

theorem dec_y {a m r : Int} (g : Good a m) (h : r.fmod (a * m + 1) - rmp (r.fmod (a * m + 1)) a = a * m + 1 - 1) : 0 = S r a m ∧ rmp (r.fmod (a * m + 1)) a - 1 = Lw r a m := by
  have := dec_of g r
  rw [fm g.q_pos] at h ⊢
  rw [if_pos h] at this
  exact ⟨this.1.symm, this.2.symm⟩
theorem dec_n {a m r : Int} (g : Good a m) (h : ¬r.fmod (a * m + 1) - rmp (r.fmod (a * m + 1)) a = a * m + 1 - 1) : (r.fmod (a * m + 1) - rmp (r.fmod (a * m + 1)) a).fdiv a = S r a m ∧ rmp (r.fmod (a * m + 1)) a = Lw r a m := by
  have := dec_of g r
  rw [fm g.q_pos] at h ⊢
  rw [fd (show 0 < a by have := g.lo; omega)]
  rw [if_neg h] at this
  exact ⟨this.1.symm, this.2.symm⟩
theorem retT {h₀ h' : Heap} {L D : Addr} {m : Str → Option Value} {news : List (Addr × Obj)} {s : Shared} {Q : Value → Shared → Prop} {x1 x2 y1 y2 : Int} {t1 t2 : Tok} {c : Nat} {tk' : Nat}
    (hret : ∀ (D : Addr) (t1 t2 : Tok) (c : Nat) (h' : Heap) (tk' : Nat), Fr h₀ L h' m → News h₀ L h' ((D, ({ cls := .type "tuple", data := .seq #[.int y1 t1, .int y2 t2] c } : Obj)) :: news) → (∀ p ∈ news, p.1 < D) → Q (.ref D) { s with heap := h', toks := tk' })
    (e : x1 = y1 ∧ x2 = y2) (F : Fr h₀ L h' m) (N : News h₀ L h' ((D, ({ cls := .type "tuple", data := .seq #[.int x1 t1, .int x2 t2] c } : Obj)) :: news)) (l : ∀ p ∈ news, p.1 < D) : Q (.ref D) { s with heap := h', toks := tk' } := by
  obtain ⟨rfl, rfl⟩ := e
  exact hret D t1 t2 c h' tk' F N l

local macro_rules
  | `(tactic| walk_at "call ref") => `(tactic| (k_here; (with_reducible show wpAny _ _ (call (Value.ref 21) _) _ _ _); refine' c_rmp _ _ _ _ _ _ _ _ ?hn _ _ _ _ _ _ _ _ _ _ _ _ _ _ _ _ _ _ ?k1 ?k2 ?kx ?k4 ?k5 ?kK ?kd ?ku ?_; (case k1 => k_asm); (case k2 => k_asm); (case kx => k_asm); (case k4 => k_asm); (case k5 => k_asm); (case kK => first | exact rfl | assumption); (case kd => ktr_room); (case ku => ktr_units); (case hn => first | assumption | omega); intro t9 h9 tk9 F9 N9; (try dsimp only); (try k_fold)))

set_option maxHeartbeats 8000000 in
theorem c_dec (w : World) (s₀ : Shared) (mg mb) (r a m : Int) (t1 t2 t3 : Tok) (g : Good a m) : ClT w s₀ mg mb 28 2 [.int r t1, .int a t2, .int (a * m + 1) t3] (S r a m) (Lw r a m) := by
  have hn : 0 < a := by have := g.lo; omega
  have hh : a ≤ 60000000 := g.hi
  have hq := g.q_pos
  dsimp only [ClT]; k_fill; intros; rename_i hret
  w_strict (refine wpAny_call ?_; k_dflt cell_enter; k_steps)
  · exact retT hret (dec_y g (by assumption)) (by k_asm) (by k_asm) (by assumption)
  · exact retT hret (dec_n g (by assumption)) (by k_asm) (by k_asm) (by assumption)

theorem mh_of {z r a m : Int} : (if (S r a m != S (r + z) a m) = true then (1 : Int) else 0) = H z r a m := by
  unfold H
  by_cases e : S r a m = S (r + z) a m
  · rw [if_pos e, if_neg (by simp [e])]
  · rw [if_neg e, if_pos (by simpa using e)]
theorem m_of {a m : Int} (g : Good a m) : (a * m + 1 - 1).fdiv a = m := by
  rw [fd (show 0 < a by have := g.lo; omega), show a * m + 1 - 1 = a * m by omega, Int.mul_ediv_cancel_left _ (by have := g.lo; omega)]
theorem uh_y {a m r h : Int} (g : Good a m) (h1 : h = 1) (h2 : 0 < Lw r a m) : (S r a m + 1).fmod ((a * m + 1 - 1).fdiv a) = U h r a m := by
  rw [m_of g, fm (by have := g.one; omega)]; unfold U; rw [if_pos h1, if_pos h2]
theorem uh_n {a m r h : Int} (g : Good a m) (h1 : h = 1) (h2 : ¬0 < Lw r a m) : (S r a m - 1).fmod ((a * m + 1 - 1).fdiv a) = U h r a m := by
  rw [m_of g, fm (by have := g.one; omega)]; unfold U; rw [if_pos h1, if_neg h2]
theorem uh_0 {a m r h : Int} (h1 : ¬h = 1) : S r a m = U h r a m := by
  unfold U; rw [if_neg h1]
theorem st_of {r a m : Int} (g : Good a m) : ((r.fmod (a * m + 1) + a.fdiv 2 - 1).fdiv a).fmod m = S r a m := by
  rw [fm g.q_pos, fd (show 0 < a by have := g.lo; omega), fm (show 0 < m by have := g.one; omega), fd (show (0 : Int) < 2 by decide)]; rfl
theorem far_of {r q : Int} (hq : 0 < q) : (if (-r).fmod q < r.fmod q then (-r).fmod q else r.fmod q) = far r q := by
  rw [fm hq, fm hq]; unfold far; split <;> split <;> omega
theorem xor_m1 (x : Int) : Builtin.bitXor x (-1) = -x - 1 := by
  have h : Builtin.bitAnd x (-1) = x := by
    have := bitAnd_not x 0
    rw [bitAnd_zero] at this
    rw [show (-1 : Int) = Builtin.bitNot 0 from rfl, this]; omega
  rw [bitXor_and, h]; omega
theorem cnb_of {n a m : Int} (g : Good a m) : (a * m + 1 - 1).fdiv (2 ^ Int.toNat 1) - Builtin.bitXor ((a * m + 1 - 1).fdiv (2 ^ Int.toNat 1) - n.fmod (a * m + 1)) (((a * m + 1 - 1).fdiv (2 ^ Int.toNat 1) - n.fmod (a * m + 1)).fdiv (2 ^ Int.toNat 31)) = far n (a * m + 1) := by
  have hq := g.q_pos
  have he := g.q_even
  have hh := g.q_hi
  have p0 := Int.emod_nonneg n (show a * m + 1 ≠ 0 by omega)
  have p1 := Int.emod_lt_of_pos n hq
  rw [half, fm hq, fd (show (0 : Int) < 2 ^ Int.toNat 31 by decide), far_eq hq (by omega)]
  rw [show (2 : Int) ^ Int.toNat 31 = 2147483648 by decide]
  generalize n % (a * m + 1) = x at *
  by_cases c : x ≤ (a * m + 1 - 1) / 2
  · rw [show ((a * m + 1 - 1) / 2 - x) / 2147483648 = 0 by omega, bitXor_zero, if_neg (by omega)]; omega
  · rw [show ((a * m + 1 - 1) / 2 - x) / 2147483648 = -1 by omega, xor_m1, if_pos (by omega)]; omega
local macro_rules
  | `(tactic| walk_at "call ref") => `(tactic| (k_here; (with_reducible show wpAny _ _ (call (Value.ref 28) _) _ _ _); refine' c_dec _ _ _ _ _ _ _ _ _ _ ?hg _ _ _ _ _ _ _ _ _ _ _ _ _ _ _ _ _ _ ?k1 ?k2 ?kx ?k4 ?k5 ?kK ?kd ?ku ?_; (case k1 => k_asm); (case k2 => k_asm); (case kx => k_asm); (case k4 => k_asm); (case k5 => k_asm); (case kK => first | exact rfl | assumption); (case kd => ktr_room); (case ku => ktr_units); (case hg => assumption); intro D9 t9 u9 c9 h9 tk9 F9 N9 l9; (try k_lt l9); (try dsimp only); (try k_fold)))

set_option maxHeartbeats 8000000 in
theorem c_hb (w : World) (s₀ : Shared) (mg mb) (r a m : Int) (t1 t2 t3 : Tok) (g : Good a m) : Cl w s₀ mg mb 35 3 [.int r t1, .int a t2, .int (a * m + 1) t3] (fun t => .int (S r a m) t) := by
  have hn : 0 < a := by have := g.lo; omega
  have hh : a ≤ 60000000 := g.hi
  have hm0 : 0 < m := by have := g.one; omega
  have hm1 : m ≤ 60 := g.most
  have hq := g.q_pos
  dsimp only [Cl]; k_fill; intros; rename_i hret
  w_strict (refine wpAny_call ?_; k_dflt cell_enter; k_steps)
  all_goals cb_end hret

set_option maxHeartbeats 8000000 in
theorem c_lb (w : World) (s₀ : Shared) (mg mb) (r a m : Int) (t1 t2 t3 : Tok) (g : Good a m) : Cl w s₀ mg mb 42 3 [.int r t1, .int a t2, .int (a * m + 1) t3] (fun t => .int (Lw r a m) t) := by
  have hn : 0 < a := by have := g.lo; omega
  have hh : a ≤ 60000000 := g.hi
  have hm0 : 0 < m := by have := g.one; omega
  have hm1 : m ≤ 60 := g.most
  have hq := g.q_pos
  dsimp only [Cl]; k_fill; intros; rename_i hret
  w_strict (refine wpAny_call ?_; k_dflt cell_enter; k_steps)
  all_goals cb_end hret
local macro_rules
  | `(tactic| walk_at "call ref") => `(tactic| (k_here; (with_reducible show wpAny _ _ (call (Value.ref 35) _) _ _ _); refine' c_hb _ _ _ _ _ _ _ _ _ _ ?hg _ _ _ _ _ _ _ _ _ _ _ _ _ _ _ _ _ _ ?k1 ?k2 ?kx ?k4 ?k5 ?kK ?kd ?ku ?_; (case k1 => k_asm); (case k2 => k_asm); (case kx => k_asm); (case k4 => k_asm); (case k5 => k_asm); (case kK => first | exact rfl | assumption); (case kd => ktr_room); (case ku => ktr_units); (case hg => assumption); intro t9 h9 tk9 F9 N9; (try dsimp only); (try k_fold)))

set_option maxHeartbeats 8000000 in
theorem c_mh (w : World) (s₀ : Shared) (mg mb) (z r a m : Int) (t0 t1 t2 t3 : Tok) (g : Good a m) : Cl w s₀ mg mb 49 4 [.int z t0, .int r t1, .int a t2, .int (a * m + 1) t3] (fun t => .int (H z r a m) t) := by
  have hn : 0 < a := by have := g.lo; omega
  have hh : a ≤ 60000000 := g.hi
  have hm0 : 0 < m := by have := g.one; omega
  have hm1 : m ≤ 60 := g.most
  have hq := g.q_pos
  dsimp only [Cl]; k_fill; intros; rename_i hret
  w_strict (refine wpAny_call ?_; k_dflt cell_enter; k_steps)
  · exact cb_retI hret (mh_of) (by k_asm) (by first | k_asm | (refine' cb_drop ?cbN ?cbS; (case cbN => assumption); (case cbS => exact fun p hp => List.mem_cons_of_mem _ hp)))

set_option maxHeartbeats 8000000 in
theorem c_opt (w : World) (s₀ : Shared) (mg mb) (o st a m : Int) (t0 t1 t2 t3 : Tok) (g : Good a m) : Cl w s₀ mg mb 56 1 [.int o t0, .int st t1, .int a t2, .int (a * m + 1) t3] (fun t => .int (if o ≤ a / 2 ∨ a * m + 1 - a / 2 < o ∨ (o = a * m + 1 - a / 2 ∧ st = 0) then 0 else 1) t) := by
  have hn : 0 < a := by have := g.lo; omega
  have hh : a ≤ 60000000 := g.hi
  have hm0 : 0 < m := by have := g.one; omega
  have hm1 : m ≤ 60 := g.most
  have hq := g.q_pos
  dsimp only [Cl]; k_fill; intros; rename_i hret
  w_strict (refine wpAny_call ?_; k_dflt cell_enter; k_steps)
  all_goals (refine cb_retI hret ?_ (by k_asm) (by first | k_asm | (refine' cb_drop ?cbN ?cbS; (case cbN => assumption); (case cbS => exact fun p hp => List.mem_cons_of_mem _ hp))); simp only [half] at *; (repeat' split) <;> omega)

set_option maxHeartbeats 8000000 in
theorem c_uh (w : World) (s₀ : Shared) (mg mb) (h r a m : Int) (t0 t1 t2 t3 : Tok) (g : Good a m) : Cl w s₀ mg mb 63 3 [.int h t0, .int r t1, .int a t2, .int (a * m + 1) t3] (fun t => .int (U h r a m) t) := by
  have hn : 0 < a := by have := g.lo; omega
  have hh : a ≤ 60000000 := g.hi
  have hm0 : 0 < m := by have := g.one; omega
  have hm1 : m ≤ 60 := g.most
  have hq := g.q_pos
  have hqm := m_of g
  have hqn : (a * m + 1 - 1).fdiv a ≠ 0 := by omega
  dsimp only [Cl]; k_fill; intros; rename_i hret
  w_strict (refine wpAny_call ?_; k_dflt cell_enter; k_steps)
  · exact cb_retI hret (uh_y g (by assumption) (by assumption)) (by k_asm) (by first | k_asm | (refine' cb_drop ?cbN ?cbS; (case cbN => assumption); (case cbS => exact fun p hp => List.mem_cons_of_mem _ hp)))
  · exact cb_retI hret (uh_n g (by assumption) (by assumption)) (by k_asm) (by first | k_asm | (refine' cb_drop ?cbN ?cbS; (case cbN => assumption); (case cbS => exact fun p hp => List.mem_cons_of_mem _ hp)))
  · exact cb_retI hret (uh_0 (by assumption)) (by k_asm) (by first | k_asm | (refine' cb_drop ?cbN ?cbS; (case cbN => assumption); (case cbS => exact fun p hp => List.mem_cons_of_mem _ hp)))

set_option maxHeartbeats 8000000 in
theorem c_st (w : World) (s₀ : Shared) (mg mb) (r a m : Int) (t1 t2 t3 : Tok) (g : Good a m) : Cl w s₀ mg mb 77 1 [.int r t1, .int a t2, .int m t3] (fun t => .int (S r a m) t) := by
  have hn : 0 < a := by have := g.lo; omega
  have hh : a ≤ 60000000 := g.hi
  have hm0 : 0 < m := by have := g.one; omega
  have hm1 : m ≤ 60 := g.most
  have hq := g.q_pos
  dsimp only [Cl]; k_fill; intros; rename_i hret
  w_strict (refine wpAny_call ?_; k_dflt cell_enter; k_steps)
  · exact cb_retI hret (st_of g) (by k_asm) (by first | k_asm | (refine' cb_drop ?cbN ?cbS; (case cbN => assumption); (case cbS => exact fun p hp => List.mem_cons_of_mem _ hp)))

set_option maxHeartbeats 8000000 in
theorem c_far (w : World) (s₀ : Shared) (mg mb) (r q : Int) (t1 t2 : Tok) (hq : 0 < q) : Cl w s₀ mg mb 84 1 [.int r t1, .int q t2] (fun t => .int (far r q) t) := by
  dsimp only [Cl]; k_fill; intros; rename_i hret
  w_strict (refine wpAny_call ?_; k_dflt cell_enter; k_steps)
  · exact cb_retI hret (far_of hq) (by k_asm) (by first | k_asm | (refine' cb_drop ?cbN ?cbS; (case cbN => assumption); (case cbS => exact fun p hp => List.mem_cons_of_mem _ hp)))

set_option maxHeartbeats 8000000 in
theorem c_cnb (w : World) (s₀ : Shared) (mg mb) (n b a m : Int) (t1 t2 t3 : Tok) (g : Good a m) : Cl w s₀ mg mb 70 1 [.int n t1, .int b t2, .int (a * m + 1) t3] (fun _ => .bool (decide (b ≤ far n (a * m + 1)))) := by
  have hn : 0 < a := by have := g.lo; omega
  have hh : a ≤ 60000000 := g.hi
  have hm0 : 0 < m := by have := g.one; omega
  have hm1 : m ≤ 60 := g.most
  have hq := g.q_pos
  dsimp only [Cl]; k_fill; intros; rename_i hret
  w_strict (refine wpAny_call ?_; k_dflt cell_enter; k_steps)
  · exact cb_retB hret (congrArg (fun x => decide (b ≤ x)) (cnb_of g)) (by k_asm) (by first | k_asm | (refine' cb_drop ?cbN ?cbS; (case cbN => assumption); (case cbS => exact fun p hp => List.mem_cons_of_mem _ hp)))

abbrev ClF (w : World) (s₀ : Shared) (mg mb : Str → Option Value) (f : Addr) (d : Nat) (vs : List Value) (R : Tok → Value) (P : Prop) : Prop :=
  ∀ (news : List (Addr × Obj)) (dp un : Nat) (gd : Option (List Code)) (cn : Str) (cs : Scope) (a : Addr) (ccd : Value) (cl : List (Str × Addr)) (outer : List Env) (A₀ : Around) (base h₀ : Heap) (L : Addr) (m : Str → Option Value) (s : Shared) (Q E : Value → Shared → Prop),
    Below A₀ base outer h₀ → Fr h₀ L s.heap m → (hd.heap_39 w.params).In h₀ → News h₀ L s.heap news → Top hd.view_39 (looseW hd.view_39 []) (ExcName.means s₀.heap) mg mb h₀ → cs.kind = .function →
    dp + d < recursionLimit → un + 8 * d < cLine → (∀ (t : Tok) (h' : Heap) (tk' : Nat), Fr h₀ L h' m → News h₀ L h' news → P → Q (R t) { s with heap := h', toks := tk' }) →
      wpAny (model PySem.Challenge.rw_iu0001_01.row.prog w) (ktrTop dp un gd cn cs L a ccd cl outer) (call (.ref f) vs) Q E s
theorem ClF.of {w : World} {s₀ : Shared} {mg mb : Str → Option Value} {f : Addr} {d : Nat} {vs : List Value} {R : Tok → Value} {P : Prop} (c : Cl w s₀ mg mb f d vs R) (p : P) : ClF w s₀ mg mb f d vs R P :=
  fun news dp un gd cn cs a ccd cl outer A₀ base h₀ L m s Q E k1 k2 k3 k4 k5 k6 k7 k8 hret => c news dp un gd cn cs a ccd cl outer A₀ base h₀ L m s Q E k1 k2 k3 k4 k5 k6 k7 k8 fun t h' tk' F N => hret t h' tk' F N p

/-- the row's z -/
def ZIn {a m : Int} (_ : Good a m) (x : Int) : Prop := -(a / 2) ≤ x ∧ x ≤ a / 2
theorem l_mh (w : World) (s₀ : Shared) (mg mb) (z r a m : Int) (t0 t1 t2 t3 : Tok) (g : Good a m) (hz : ZIn g z) : ClF w s₀ mg mb 49 4 [.int z t0, .int r t1, .int a t2, .int (a * m + 1) t3] (fun t => .int (H z r a m) t)
    (((S (r + z) a m = S r a m ∧ H z r a m = 0) ∨ (S (r + z) a m ≠ S r a m ∧ H z r a m = 1)) ∧ U (H z r a m) r a m = S (r + z) a m ∧ (1 < m → U (1 - H z r a m) r a m ≠ S (r + z) a m)) := by
  refine ClF.of (c_mh w s₀ mg mb z r a m t0 t1 t2 t3 g) ⟨?_, told_after g r z hz.1 hz.2, told_other g r z⟩
  unfold H
  by_cases e : S r a m = S (r + z) a m
  · exact .inl ⟨e.symm, if_pos e⟩
  · exact .inr ⟨fun x => e x.symm, if_neg e⟩
theorem l_uh (w : World) (s₀ : Shared) (mg mb) (h r a m : Int) (t0 t1 t2 t3 : Tok) (g : Good a m) : ClF w s₀ mg mb 63 3 [.int h t0, .int r t1, .int a t2, .int (a * m + 1) t3] (fun t => .int (U h r a m) t)
    ((0 ≤ U h r a m ∧ U h r a m < m) ∧ (h = 0 → far (r - U h r a m * a) (a * m + 1) ≤ a.fdiv 2) ∧ (h = 1 → far (r - U h r a m * a) (a * m + 1) ≤ a.fdiv 2 + (a.fdiv 2 + 1))) := by
  refine ClF.of (c_uh w s₀ mg mb h r a m t0 t1 t2 t3 g) ⟨U_range g h r, ?_, ?_⟩
  · rintro rfl; rw [fd (show (0 : Int) < 2 by decide)]; exact told_far0 g r
  · rintro rfl; rw [fd (show (0 : Int) < 2 by decide)]; exact told_far1 g r
theorem abs_of (x : Int) : (if x < 0 then -x else x) = (x.natAbs : Int) := by split <;> omega
theorem o_in {x a m : Int} (g : Good a m) : 0 ≤ x.fmod (a * m + 1) ∧ x.fmod (a * m + 1) < a * m + 1 := by
  have hq := g.q_pos
  rw [fm hq]
  exact ⟨Int.emod_nonneg _ (by omega), Int.emod_lt_of_pos _ hq⟩

theorem Good.apos {a m : Int} (g : Good a m) : 0 < a := by have := g.lo; omega
theorem Good.mpos {a m : Int} (g : Good a m) : 0 < m := by have := g.one; omega

section
variable {prog : Program} {w : World} {A : Around} {E : Value → Shared → Prop} {s : Shared} {env : Env} {h₀ : Heap} {L : Addr} {m : Str → Option Value} {news : List (Addr × Obj)}
/-- ways that meet in an int -/
def IntAt (P : Int → Prop) (h₀ : Heap) (L : Addr) (m : Str → Option Value) (news : List (Addr × Obj)) (s : Shared) (v : Value) (s' : Shared) : Prop :=
  ∃ (x : Int) (t : Tok) (h : Heap) (tk : Nat), P x ∧ v = .int x t ∧ s' = { s with heap := h, toks := tk } ∧ Fr h₀ L h m ∧ News h₀ L h news
theorem IntAt.mk {P : Int → Prop} {x : Int} {t : Tok} {h : Heap} {tk : Nat} {news' : List (Addr × Obj)} (p : P x) (F : Fr h₀ L h m) (N : News h₀ L h news') (hs : ∀ q ∈ news, q ∈ news') : IntAt P h₀ L m news s (.int x t) { s with heap := h, toks := tk } :=
  ⟨x, t, h, tk, p, rfl, rfl, F, fun q hq => N q (hs q hq)⟩
theorem meet_int {Q : Value → Shared → Prop} {tree : Sem Value} (P : Int → Prop) (_F : Fr h₀ L s.heap m) (_N : News h₀ L s.heap news)
    (hc : wpAny (model prog w) A tree (IntAt P h₀ L m news s) E s)
    (hk : ∀ (x : Int) (t : Tok) (h : Heap) (tk : Nat), P x → Fr h₀ L h m → News h₀ L h news → Q (.int x t) { s with heap := h, toks := tk }) : wpAny (model prog w) A tree Q E s := by
  refine wpAny_mono hc (fun v s₂ hq => ?_) fun _ _ h => h
  obtain ⟨x, t, h, tk, p, rfl, rfl, F, N⟩ := hq
  exact hk x t h tk p F N
/-- a statement that goes on and leaves the names alone -/
def SkipAt (h₀ : Heap) (L : Addr) (m : Str → Option Value) (news : List (Addr × Obj)) (s : Shared) (f : Flow) (s' : Shared) : Prop :=
  ∃ (h : Heap) (tk : Nat), f = .next ∧ s' = { s with heap := h, toks := tk } ∧ Fr h₀ L h m ∧ News h₀ L h news
theorem SkipAt.mk {h : Heap} {tk : Nat} {news' : List (Addr × Obj)} (F : Fr h₀ L h m) (N : News h₀ L h news') (hs : ∀ q ∈ news, q ∈ news') : SkipAt h₀ L m news s .next { s with heap := h, toks := tk } :=
  ⟨h, tk, rfl, rfl, F, fun q hq => N q (hs q hq)⟩
theorem meet_skip {Q : Flow → Shared → Prop} {tree : Sem Flow} (_F : Fr h₀ L s.heap m) (_N : News h₀ L s.heap news)
    (hc : wpAny (model prog w) A tree (SkipAt h₀ L m news s) E s)
    (hk : ∀ (h : Heap) (tk : Nat), Fr h₀ L h m → News h₀ L h news → Q .next { s with heap := h, toks := tk }) : wpAny (model prog w) A tree Q E s := by
  refine wpAny_mono hc (fun v s₂ hq => ?_) fun _ _ h => h
  obtain ⟨h, tk, rfl, rfl, F, N⟩ := hq
  exact hk h tk F N
/-- a statement that goes on and stores names that nobody reads later -/
def ForAt (names : List Str) (h₀ : Heap) (L : Addr) (m : Str → Option Value) (news : List (Addr × Obj)) (s : Shared) (f : Flow) (s' : Shared) : Prop :=
  ∃ (u : Str → Option Value) (h : Heap) (tk : Nat), f = .next ∧ s' = { s with heap := h, toks := tk } ∧ Fr h₀ L h (fun y => if names.contains y then u y else m y) ∧ News h₀ L h news
theorem ForAt.mk {names : List Str} {m' : Str → Option Value} {h : Heap} {tk : Nat} {news' : List (Addr × Obj)} (F : Fr h₀ L h m') (N : News h₀ L h news') (hs : ∀ q ∈ news, q ∈ news') (hm : ∀ y, True → names.contains y = false → m' y = m y) : ForAt names h₀ L m news s .next { s with heap := h, toks := tk } := by
  refine ⟨m', h, tk, rfl, rfl, ?_, fun q hq => N q (hs q hq)⟩
  have e : (fun y => if names.contains y then m' y else m y) = m' := by
    funext y
    cases h2 : names.contains y with
    | true => simp
    | false => simp only [Bool.false_eq_true, if_false]; exact (hm y True.intro h2).symm
  rw [e]; exact F
theorem meet_for {Q : Flow → Shared → Prop} {tree : Sem Flow} (names : List Str) (_F : Fr h₀ L s.heap m) (_N : News h₀ L s.heap news)
    (hc : wpAny (model prog w) A tree (ForAt names h₀ L m news s) E s)
    (hk : ∀ (u : Str → Option Value) (h : Heap) (tk : Nat), Fr h₀ L h (fun y => if names.contains y then u y else m y) → News h₀ L h news → Q .next { s with heap := h, toks := tk }) : wpAny (model prog w) A tree Q E s := by
  refine wpAny_mono hc (fun v s₂ hq => ?_) fun _ _ h => h
  obtain ⟨u, h, tk, rfl, rfl, F, N⟩ := hq
  exact hk u h tk F N
/-- the step and the count are chosen -/
def AmAt (x1 x2 : Str) (h₀ : Heap) (L : Addr) (m : Str → Option Value) (news : List (Addr × Obj)) (s : Shared) (f : Flow) (s' : Shared) : Prop :=
  ∃ (a k : Int) (t1 t2 : Tok) (h : Heap) (tk : Nat), Good a k ∧ f = .next ∧ s' = { s with heap := h, toks := tk } ∧ Fr h₀ L h (fun y => if y = x2 then some (.int k t2) else if y = x1 then some (.int a t1) else m y) ∧ News h₀ L h news
theorem AmAt.mk {x1 x2 : Str} {a k : Int} {t1 t2 : Tok} {h : Heap} {tk : Nat} {news' : List (Addr × Obj)} (F : Fr h₀ L h (fun y => if y = x2 then some (.int k t2) else if y = x1 then some (.int a t1) else m y)) (N : News h₀ L h news') (hs : ∀ q ∈ news, q ∈ news') (g : Good a k) : AmAt x1 x2 h₀ L m news s .next { s with heap := h, toks := tk } :=
  ⟨a, k, t1, t2, h, tk, g, rfl, rfl, F, fun q hq => N q (hs q hq)⟩
theorem meet_am {Q : Flow → Shared → Prop} {tree : Sem Flow} (x1 x2 : Str) (_F : Fr h₀ L s.heap m) (_N : News h₀ L s.heap news)
    (hc : wpAny (model prog w) A tree (AmAt x1 x2 h₀ L m news s) E s)
    (hk : ∀ (a k : Int) (t1 t2 : Tok) (h : Heap) (tk : Nat), Good a k → Fr h₀ L h (fun y => if y = x2 then some (.int k t2) else if y = x1 then some (.int a t1) else m y) → News h₀ L h news → Q .next { s with heap := h, toks := tk }) : wpAny (model prog w) A tree Q E s := by
  refine wpAny_mono hc (fun v s₂ hq => ?_) fun _ _ h => h
  obtain ⟨a, k, t1, t2, h, tk, g, rfl, rfl, F, N⟩ := hq
  exact hk a k t1 t2 h tk g F N

theorem size2 {b : Int} (h : 0 ≤ b) : Builtin.Range.rangeSize 0 b 2 = (((b + 1) / 2).toNat : Int) := by
  unfold Builtin.Range.rangeSize
  simp only [show (2 : Int) > 0 by decide, if_true]
  split <;> omega
theorem small2 {b : Int} (h0 : 0 ≤ b) (h1 : b ≤ 100) : Builtin.Range.small 0 b 2 = true := by
  unfold Builtin.Range.small
  rw [size2 h0]
  simp only [Builtin.Range.rangeFitsLong, Bool.and_eq_true, Bool.or_eq_true, decide_eq_true_eq, beq_iff_eq, show (2 : Int) > 0 by decide, if_true]
  omega
/-- a range of every second number -/
theorem range2 {x : Str} {body : List Stmt} {Q : Flow → Shared → Prop} {r : Addr} {b₀ : Int} {t₀ u₀ v₀ : Tok} {m₀ : Str → Option Value} (stored : List Str)
    (hh : A.handled = none) (hr : IsRange s.heap r 0 b₀ 2 t₀ u₀ v₀) (hb0 : 0 ≤ b₀) (hb1 : b₀ ≤ 100) (F : Fr h₀ env.locals s.heap m₀) (N : News h₀ env.locals s.heap news)
    (turn : ∀ k t (u : Str → Option Value) h tk I oI, 0 ≤ k → k < b₀ → Fr h₀ env.locals h (fun y => if y = x then some (.int k t) else if stored.contains y then u y else m₀ y) → News h₀ env.locals h ((I, oI) :: news) → (∀ p ∈ news, p.1 < I) →
      wpAny (model prog w) A (execs body env) (TurnPost h₀ env.locals x stored m₀ ((I, oI) :: news) { s with heap := h, toks := tk } Q) E { s with heap := h, toks := tk })
    (done : ∀ (u : Str → Option Value) h tk, Fr h₀ env.locals h (fun y => if y = x then u y else if stored.contains y then u y else m₀ y) → News h₀ env.locals h news → Q .next { s with heap := h, toks := tk }) :
    wpAny (model prog w) A (pyIter (.ref r)) (fun it s₂ => LoopAtV prog w A h₀ env x body Q E it s₂) E s := by
  refine wpAny_pyIter_range hr (small2 hb0 hb1) ?_
  have hn := size2 hb0
  generalize hN : ((b₀ + 1) / 2).toNat = n at hn
  have W : Walks prog w A s.heap.objs.size [s.heap.objs.size] [s.heap.objs.size] n (fun i v => i < n ∧ ∃ t, v = .int (0 + i * 2) t)
      (fun i h => IsRangeIter h s.heap.objs.size (0 + (i : Nat) * 2) ((n : Int) - (i : Nat)) 2) := (Walks.range hh _ 0 2 n).bound
  refine kow_at_law stored W (List.mem_singleton.mpr rfl) (fun b hb q => absurd (List.mem_singleton.mp hb) q) ?_ (next_is_new F) (fun p hp => Heap.lt_size (N p hp).1) (fun i h st => ⟨_, st⟩) ?_ (F.push _) (fun p hp => ⟨Heap.get?_push_of_some _ (N p hp).1, (N p hp).2⟩) ?_ ?_
  · intro hm
    exact absurd F.ns.lt ((List.mem_singleton.mp hm) ▸ Nat.lt_irrefl _)
  · show IsRangeIter _ _ _ _ _
    rw [hn]
    simpa using Heap.get?_push_size _ rfl
  · rintro i v u h tk oI hi ⟨_, t, rfl⟩ F₁ N₁ l₁
    exact turn _ t u h tk _ oI (by omega) (by omega) F₁ N₁ l₁
  · exact done
end
def AnyInt (_ : Int) : Prop := True
def RowR (_ : Int) : Prop := True
theorem zin {a m w : Int} (g : Good a m) : ZIn g (w.fmod (a + 1) - a.fdiv 2) := by
  have := g.lo
  have p0 := Int.emod_nonneg w (show a + 1 ≠ 0 by omega)
  have p1 := Int.emod_lt_of_pos w (show 0 < a + 1 by omega)
  have := g.even
  rw [fm (show 0 < a + 1 by omega), fd (show (0 : Int) < 2 by decide)]
  unfold ZIn; omega
theorem AmAt.mk' {s : Shared} {h₀ : Heap} {L : Addr} {m : Str → Option Value} {news : List (Addr × Obj)} {x1 x2 : Str} {a k : Int} {t1 t2 : Tok} {h : Heap} {tk : Nat} {news' : List (Addr × Obj)} (F : Fr h₀ L h (fun y => if y = x1 then some (.int a t1) else if y = x2 then some (.int k t2) else m y)) (N : News h₀ L h news') (hs : ∀ q ∈ news, q ∈ news') (hne : x1 ≠ x2) (g : Good a k) : AmAt x1 x2 h₀ L m news s .next { s with heap := h, toks := tk } := by
  refine AmAt.mk (t1 := t1) (t2 := t2) ?_ N hs g
  have e : (fun y => if y = x2 then some (Value.int k t2) else if y = x1 then some (Value.int a t1) else m y) = fun y => if y = x1 then some (.int a t1) else if y = x2 then some (.int k t2) else m y := by
    funext y
    by_cases h1 : y = x1
    · simp only [h1, if_true, if_neg hne]
    · simp only [h1, if_false]
  rw [e]; exact F
theorem centre {r a m : Int} (g : Good a m) (_ : RowR r) : (if rmp r (a * m + 1) < 0 then -rmp r (a * m + 1) else rmp r (a * m + 1)) = far r (a * m + 1) ∧ (rmp r (a * m + 1) - r).fmod (a * m + 1) = 0 := by
  have hq := g.q_pos
  have ho : (a * m + 1) % 2 = 1 := by have := g.q_even; omega
  exact ⟨by rw [abs_of]; exact centre_far hq ho, by rw [fm hq]; exact centre_mod hq⟩
theorem o_no1 {o st a m : Int} (h : O o st a m ≠ 1) (e : S (st * a + o) a m ≠ st) : False := h (if_neg e)
theorem o_no0 {o st a m : Int} (h : O o st a m ≠ 0) (e : S (st * a + o) a m = st) : False := h (if_pos e)
theorem bne_no {b : Bool} (h : (b != b) = true) : False := by simp at h
theorem names4 {a b c d y : Str} (h : [a, b, c, d].contains y = false) : y ≠ a ∧ y ≠ b ∧ y ≠ c ∧ y ≠ d := by
  refine ⟨?_, ?_, ?_, ?_⟩ <;> (rintro rfl; simp at h)
theorem k_opt (w : World) (s₀ : Shared) (mg mb) (o st a m : Int) (t0 t1 t2 t3 : Tok) (g : Good a m) (ho : 0 ≤ o ∧ o < a * m + 1) (hs : 0 ≤ st ∧ st < m) : Cl w s₀ mg mb 56 1 [.int o t0, .int st t1, .int a t2, .int (a * m + 1) t3] (fun t => .int (O o st a m) t) := by
  rw [O_of g o st ho.1 ho.2 hs.1 hs.2]
  exact c_opt w s₀ mg mb o st a m t0 t1 t2 t3 g
def LowIs {a m r : Int} (_ : Good a m) (_ : RowR r) (x : Int) : Prop := x = Lw r a m
theorem lowis {a m r : Int} (g : Good a m) (h : RowR r) : LowIs g h ((r - S r a m * a + a.fdiv 2).fmod (a * m + 1) - a.fdiv 2) := by
  rw [fm g.q_pos, fd (show (0 : Int) < 2 by decide)]; rfl
theorem good1 : Good 190464 44 := ⟨by decide, by decide, by decide, by decide, by decide⟩
theorem good2 : Good 523776 16 := ⟨by decide, by decide, by decide, by decide, by decide⟩
theorem good3 {x y : Int} : Good (2 * (1 + x.fmod 30000000)) (1 + (y.fdiv 4).fmod 60) := by
  rw [fm (show (0 : Int) < 30000000 by decide), fm (show (0 : Int) < 60 by decide)]
  constructor <;> omega
theorem good4 {x y : Int} : Good (2 * (1 + x.fmod 3000)) (1 + (y.fdiv 4).fmod 60) := by
  rw [fm (show (0 : Int) < 3000 by decide), fm (show (0 : Int) < 60 by decide)]
  constructor <;> omega
local macro_rules
  | `(tactic| walk_at "call ref") => `(tactic| ((k_dflt (k_here; (with_reducible show wpAny _ _ (call (Value.ref 21) _) _ _ _); k_dflt (refine' c_rmp _ _ _ _ _ _ _ _ ?hg0 _ _ _ _ _ _ _ _ _ _ _ _ _ _ _ _ _ _ ?k1 ?k2 ?kx ?k4 ?k5 ?kK ?kd ?ku ?_); (case k1 => k_asm); (case k2 => k_asm); (case kx => k_asm); (case k4 => k_asm); (case k5 => k_asm); (case kK => first | exact rfl | assumption); (case kd => ktr_room); (case ku => ktr_units); (case hg0 => assumption); intro t9 h9 tk9 F9 N9; (try dsimp only); (try k_fold)))))
local macro_rules
  | `(tactic| walk_at "call ref") => `(tactic| ((k_dflt (k_here; (with_reducible show wpAny _ _ (call (Value.ref 28) _) _ _ _); k_dflt (refine' c_dec _ _ _ _ _ _ _ _ _ _ ?hg0 _ _ _ _ _ _ _ _ _ _ _ _ _ _ _ _ _ _ ?k1 ?k2 ?kx ?k4 ?k5 ?kK ?kd ?ku ?_); (case k1 => k_asm); (case k2 => k_asm); (case kx => k_asm); (case k4 => k_asm); (case k5 => k_asm); (case kK => first | exact rfl | assumption); (case kd => ktr_room); (case ku => ktr_units); (case hg0 => assumption); intro D9 t9 u9 c9 h9 tk9 F9 N9 l9; (try k_lt l9); (try dsimp only); (try k_fold)))))
local macro_rules
  | `(tactic| walk_at "call ref") => `(tactic| ((k_dflt (k_here; (with_reducible show wpAny _ _ (call (Value.ref 35) _) _ _ _); k_dflt (refine' c_hb _ _ _ _ _ _ _ _ _ _ ?hg0 _ _ _ _ _ _ _ _ _ _ _ _ _ _ _ _ _ _ ?k1 ?k2 ?kx ?k4 ?k5 ?kK ?kd ?ku ?_); (case k1 => k_asm); (case k2 => k_asm); (case kx => k_asm); (case k4 => k_asm); (case k5 => k_asm); (case kK => first | exact rfl | assumption); (case kd => ktr_room); (case ku => ktr_units); (case hg0 => assumption); intro t9 h9 tk9 F9 N9; (try dsimp only); (try k_fold)))))
local macro_rules
  | `(tactic| walk_at "call ref") => `(tactic| ((k_dflt (k_here; (with_reducible show wpAny _ _ (call (Value.ref 42) _) _ _ _); k_dflt (refine' c_lb _ _ _ _ _ _ _ _ _ _ ?hg0 _ _ _ _ _ _ _ _ _ _ _ _ _ _ _ _ _ _ ?k1 ?k2 ?kx ?k4 ?k5 ?kK ?kd ?ku ?_); (case k1 => k_asm); (case k2 => k_asm); (case kx => k_asm); (case k4 => k_asm); (case k5 => k_asm); (case kK => first | exact rfl | assumption); (case kd => ktr_room); (case ku => ktr_units); (case hg0 => assumption); intro t9 h9 tk9 F9 N9; (try dsimp only); (try k_fold)))))
local macro_rules
  | `(tactic| walk_at "call ref") => `(tactic| ((k_dflt (k_here; (with_reducible show wpAny _ _ (call (Value.ref 49) _) _ _ _); k_dflt (refine' l_mh _ _ _ _ _ _ _ _ _ _ _ _ ?hg0 ?hg1 _ _ _ _ _ _ _ _ _ _ _ _ _ _ _ _ _ _ ?k1 ?k2 ?kx ?k4 ?k5 ?kK ?kd ?ku ?_); (case k1 => k_asm); (case k2 => k_asm); (case kx => k_asm); (case k4 => k_asm); (case k5 => k_asm); (case kK => first | exact rfl | assumption); (case kd => ktr_room); (case ku => ktr_units); (case hg0 => assumption); (case hg1 => assumption); intro t9 h9 tk9 F9 N9 P9; obtain ⟨p1, p2, p3⟩ := P9; (try dsimp only); (try k_fold)))))
local macro_rules
  | `(tactic| walk_at "call ref") => `(tactic| ((k_dflt (k_here; (with_reducible show wpAny _ _ (call (Value.ref 56) _) _ _ _); k_dflt (refine' k_opt _ _ _ _ _ _ _ _ _ _ _ _ ?hg0 ?hg1 ?hg2 _ _ _ _ _ _ _ _ _ _ _ _ _ _ _ _ _ _ ?k1 ?k2 ?kx ?k4 ?k5 ?kK ?kd ?ku ?_); (case k1 => k_asm); (case k2 => k_asm); (case kx => k_asm); (case k4 => k_asm); (case k5 => k_asm); (case kK => first | exact rfl | assumption); (case kd => ktr_room); (case ku => ktr_units); (case hg0 => assumption); (case hg1 => exact o_in (by assumption)); (case hg2 => exact S_range (by assumption) _); intro t9 h9 tk9 F9 N9; (try dsimp only); (try k_fold)))))
local macro_rules
  | `(tactic| walk_at "call ref") => `(tactic| ((k_dflt (k_here; (with_reducible show wpAny _ _ (call (Value.ref 63) _) _ _ _); k_dflt (refine' l_uh _ _ _ _ _ _ _ _ _ _ _ _ ?hg0 _ _ _ _ _ _ _ _ _ _ _ _ _ _ _ _ _ _ ?k1 ?k2 ?kx ?k4 ?k5 ?kK ?kd ?ku ?_); (case k1 => k_asm); (case k2 => k_asm); (case kx => k_asm); (case k4 => k_asm); (case k5 => k_asm); (case kK => first | exact rfl | assumption); (case kd => ktr_room); (case ku => ktr_units); (case hg0 => assumption); intro t9 h9 tk9 F9 N9 P9; obtain ⟨p1, p2, p3⟩ := P9; (try dsimp only); (try k_fold)))))
local macro_rules
  | `(tactic| walk_at "call ref") => `(tactic| ((k_dflt (k_here; (with_reducible show wpAny _ _ (call (Value.ref 70) _) _ _ _); k_dflt (refine' c_cnb _ _ _ _ _ _ _ _ _ _ _ ?hg0 _ _ _ _ _ _ _ _ _ _ _ _ _ _ _ _ _ _ ?k1 ?k2 ?kx ?k4 ?k5 ?kK ?kd ?ku ?_); (case k1 => k_asm); (case k2 => k_asm); (case kx => k_asm); (case k4 => k_asm); (case k5 => k_asm); (case kK => first | exact rfl | assumption); (case kd => ktr_room); (case ku => ktr_units); (case hg0 => assumption); intro t9 h9 tk9 F9 N9; (try dsimp only); (try k_fold)))))
local macro_rules
  | `(tactic| walk_at "call ref") => `(tactic| ((k_dflt (k_here; (with_reducible show wpAny _ _ (call (Value.ref 77) _) _ _ _); k_dflt (refine' c_st _ _ _ _ _ _ _ _ _ _ ?hg0 _ _ _ _ _ _ _ _ _ _ _ _ _ _ _ _ _ _ ?k1 ?k2 ?kx ?k4 ?k5 ?kK ?kd ?ku ?_); (case k1 => k_asm); (case k2 => k_asm); (case kx => k_asm); (case k4 => k_asm); (case k5 => k_asm); (case kK => first | exact rfl | assumption); (case kd => ktr_room); (case ku => ktr_units); (case hg0 => assumption); intro t9 h9 tk9 F9 N9; (try dsimp only); (try k_fold)))))
local macro_rules
  | `(tactic| walk_at "call ref") => `(tactic| ((k_dflt (k_here; (with_reducible show wpAny _ _ (call (Value.ref 84) _) _ _ _); k_dflt (refine' c_far _ _ _ _ _ _ _ _ ?hg0 _ _ _ _ _ _ _ _ _ _ _ _ _ _ _ _ _ _ ?k1 ?k2 ?kx ?k4 ?k5 ?kK ?kd ?ku ?_); (case k1 => k_asm); (case k2 => k_asm); (case kx => k_asm); (case k4 => k_asm); (case k5 => k_asm); (case kK => first | exact rfl | assumption); (case kd => ktr_room); (case ku => ktr_units); (case hg0 => assumption); intro t9 h9 tk9 F9 N9; (try dsimp only); (try k_fold)))))
local macro_rules
  | `(tactic| walk_at "eval IfExp") => `(tactic| first | (k_dflt (k_here; (first | (with_reducible show wpAny _ _ (eval (Expr.IfExp _ (Expr.Subscript _ _ _) _ _) _) _ _ _)); (fail_if_success (with_reducible show wpAny _ _ _ (IntAt _ _ _ _ _ _) _ _)); (rename Fr _ _ _ _ => jF); (rename News _ _ _ _ => jN); k_dflt (refine' meet_int AnyInt jF jN ?jc ?_); (case jc => (k_dflt (k_steps); (all_goals (exfalso; first | contradiction | omega | exact o_no1 (by assumption) (by assumption) | exact o_no0 (by assumption) (by assumption) | exact bne_no (by assumption))); skip)); clear jF jN; intro jx jt jh jtk jP jF1 jN1; skip; (try dsimp only); (try k_fold))))
local macro_rules
  | `(tactic| walk_at "eval IfExp") => `(tactic| first | (k_dflt (k_here; (first | (with_reducible show wpAny _ _ (eval (Expr.IfExp _ (Expr.Name _ _) _ _) _) _ _ _)); (fail_if_success (with_reducible show wpAny _ _ _ (IntAt _ _ _ _ _ _) _ _)); (rename Fr _ _ _ _ => jF); (rename News _ _ _ _ => jN); k_dflt (refine' meet_int RowR jF jN ?jc ?_); (case jc => (k_dflt (k_steps); (all_goals (exfalso; first | contradiction | omega | exact o_no1 (by assumption) (by assumption) | exact o_no0 (by assumption) (by assumption) | exact bne_no (by assumption))); skip)); clear jF jN; intro jx jt jh jtk jP jF1 jN1; skip; (try dsimp only); (try k_fold))))
local macro_rules
  | `(tactic| walk_at "eval BinOp") => `(tactic| first | (k_dflt (k_here; (first | (with_reducible show wpAny _ _ (eval (Expr.BinOp (Expr.BinOp (Expr.Name _ _) Operator.Mod _ _) Operator.Sub (Expr.BinOp _ Operator.FloorDiv _ _) _) _) _ _ _)); (fail_if_success (with_reducible show wpAny _ _ _ (IntAt _ _ _ _ _ _) _ _)); (rename Fr _ _ _ _ => jF); (rename News _ _ _ _ => jN); k_dflt (refine' meet_int (ZIn (by assumption)) jF jN ?jc ?_); (case jc => (k_dflt (k_steps); (all_goals (exfalso; first | contradiction | omega | exact o_no1 (by assumption) (by assumption) | exact o_no0 (by assumption) (by assumption) | exact bne_no (by assumption))); skip)); clear jF jN; intro jx jt jh jtk jP jF1 jN1; skip; (try dsimp only); (try k_fold))))
local macro_rules
  | `(tactic| walk_at "eval BinOp") => `(tactic| first | (k_dflt (k_here; (first | (with_reducible show wpAny _ _ (eval (Expr.BinOp (Expr.BinOp (Expr.BinOp _ _ _ _) Operator.Mod _ _) Operator.Sub (Expr.BinOp _ Operator.FloorDiv _ _) _) _) _ _ _)); (fail_if_success (with_reducible show wpAny _ _ _ (IntAt _ _ _ _ _ _) _ _)); (rename Fr _ _ _ _ => jF); (rename News _ _ _ _ => jN); k_dflt (refine' meet_int (LowIs (by assumption) (by assumption)) jF jN ?jc ?_); (case jc => (k_dflt (k_steps); (all_goals (exfalso; first | contradiction | omega | exact o_no1 (by assumption) (by assumption) | exact o_no0 (by assumption) (by assumption) | exact bne_no (by assumption))); skip)); clear jF jN; intro jx jt jh jtk jP jF1 jN1; unfold LowIs at jP; subst jP; (obtain ⟨q1, q2⟩ := centre (by assumption) (by assumption)); skip; (try dsimp only); (try k_fold))))
local macro_rules
  | `(tactic| walk_at "exec If") => `(tactic| first | (k_dflt (k_here; (first | (with_reducible show wpAny _ _ (exec (Stmt.If _ [Stmt.Return _ _] [] _) _) _ _ _)); (fail_if_success (with_reducible show wpAny _ _ _ (SkipAt _ _ _ _ _) _ _)); (rename Fr _ _ _ _ => jF); (rename News _ _ _ _ => jN); k_dflt (refine' meet_skip jF jN ?jc ?_); (case jc => (k_dflt (k_steps); (all_goals (exfalso; first | contradiction | omega | exact o_no1 (by assumption) (by assumption) | exact o_no0 (by assumption) (by assumption) | exact bne_no (by assumption))); skip)); clear jF jN; intro jh jtk jF1 jN1; skip; (try dsimp only); (try k_fold))))
local macro_rules
  | `(tactic| walk_at "exec For Name Tuple cons nil") => `(tactic| first | (k_dflt (k_here; (first | (with_reducible show wpAny _ _ (exec (Stmt.For (Expr.Name _ _) (Expr.Tuple _ _ _) _ [] _) _) _ _ _)); (fail_if_success (with_reducible show wpAny _ _ _ (ForAt _ _ _ _ _ _) _ _)); (rename Fr _ _ _ _ => jF); (rename News _ _ _ _ => jN); k_dflt (refine' meet_for [Str.ofString "one", Str.ofString "told", Str.ofString "other", Str.ofString "bound"] jF jN ?jc ?_); (case jc => (k_dflt (k_steps); (all_goals (exfalso; first | contradiction | omega | exact o_no1 (by assumption) (by assumption) | exact o_no0 (by assumption) (by assumption) | exact bne_no (by assumption))); skip)); clear jF jN; intro ju jh jtk jF1 jN1; skip; (try dsimp only); (try k_fold))))
local macro_rules
  | `(tactic| walk_at "exec If") => `(tactic| first | (k_dflt (k_here; (first | (with_reducible show wpAny _ _ (exec (Stmt.If _ [Stmt.Assign [Expr.Tuple _ _ _] _ _] [Stmt.Assign _ _ _] _) _) _ _ _)); (fail_if_success (with_reducible show wpAny _ _ _ (AmAt _ _ _ _ _ _ _) _ _)); (rename Fr _ _ _ _ => jF); (rename News _ _ _ _ => jN); k_dflt (refine' meet_am (Str.ofString "a") (Str.ofString "m") jF jN ?jc ?_); (case jc => (k_dflt (k_steps); (all_goals (exfalso; first | contradiction | omega | exact o_no1 (by assumption) (by assumption) | exact o_no0 (by assumption) (by assumption) | exact bne_no (by assumption))); skip)); clear jF jN; intro ja jk j1 j2 jh jtk jg jF1 jN1; have hn9 := Good.apos jg; have hh9 := jg.hi; have hm9 := Good.mpos jg; have hk9 := jg.most; have hq9 := Good.q_pos jg; skip; (try dsimp only); (try k_fold))))
local macro_rules
  | `(tactic| walk_at "IntAt") => `(tactic| (refine IntAt.mk ?jp (by k_asm) (by k_asm) (by k_sub); (case jp => first | exact True.intro | exact zin _ | exact lowis _ _)))
local macro_rules
  | `(tactic| walk_at "SkipAt") => `(tactic| (refine SkipAt.mk (by k_asm) (by k_asm) (by k_sub)))
local macro_rules
  | `(tactic| walk_at "AmAt") => `(tactic| first | (refine AmAt.mk (by k_asm) (by k_asm) (by k_sub) ?jg; (case jg => first | exact good1 | exact good2 | exact good3 | exact good4)) | (refine AmAt.mk' (by k_asm) (by k_asm) (by k_sub) (by decide) ?jg; (case jg => first | exact good1 | exact good2 | exact good3 | exact good4)))
local macro_rules
  | `(tactic| walk_at "ForAt") => `(tactic| first | (refine ForAt.mk (by k_asm) (by k_asm) (by k_sub) ?jh; (case jh => (intro y h1 h2; (obtain ⟨q1, q2, q3, q4⟩ := names4 h2); simp only [if_neg q1, if_neg q2, if_neg q3, if_neg q4]))))
local macro_rules
  | `(tactic| walk_at "pyIter ref") => `(tactic| (k_here; (with_reducible show wpAny _ _ (pyIter (Value.ref _)) (fun it s₂ => LoopAtV _ _ _ _ _ _ _ _ _ it s₂) _ _); (rename Fr _ _ _ _ => lF'); (rename News _ _ _ _ => lN'); (rename IsRange _ _ 0 _ 2 _ _ _ => rgX); (with_unfolding_all refine range2 [Str.ofString "n", Str.ofString "w", Str.ofString "r", Str.ofString "z", Str.ofString "step", Str.ofString "after", Str.ofString "low", Str.ofString "hint", Str.ofString "one", Str.ofString "told", Str.ofString "other", Str.ofString "far", Str.ofString "bound", Str.ofString "centre"] (by rfl) rgX (by first | omega | (simp only [List.length_append, List.length_take, List.length_drop, List.length_cons, List.length_nil] at *; omega)) (by first | omega | (simp only [List.length_append, List.length_take, List.length_drop, List.length_cons, List.length_nil] at *; omega)) lF' lN' (fun n' t' u' h' tk' I' oI' hlo' hhi' F' N' l1' => ?_) (fun u' h' tk' F' N' => ?_)) <;> ((try k_lt l1'); clear lF' lN')))

set_option maxHeartbeats 8000000 in
theorem law : PySem.Challenge.rw_iu0001_01.Holds := hd (by
  k_go0; (all_goals try k_fold); k_steps)
end Mine
theorem PySem.Challenge.cw_iu0001_01_holds : PySem.Challenge.rw_iu0001_01.Holds := by
  exact Mine.law
