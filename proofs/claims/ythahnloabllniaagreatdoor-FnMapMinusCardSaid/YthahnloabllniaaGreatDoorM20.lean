/- The map to the curve: plain laws. No program. -/
import Derived.Test.YthahnloabllniaaGreatDoorM19
section
set_option linter.unusedSimpArgs false
set_option linter.unusedVariables false
set_option linter.unusedSectionVars false
namespace Go.Vc

/-! Congruence. -/
def Cg (p a b : Int) : Prop := a % p = b % p

theorem Cg.of {p a b : Int} (h : a = b) : Cg p a b := by rw [h]; rfl
theorem Cg.rf (p a : Int) : Cg p a a := rfl
theorem Cg.symm {p a b : Int} (h : Cg p a b) : Cg p b a := Eq.symm h
theorem Cg.trans {p a b c : Int} (h : Cg p a b) (h2 : Cg p b c) : Cg p a c := Eq.trans h h2
theorem Cg.add {p a b c d : Int} (h : Cg p a b) (h2 : Cg p c d) : Cg p (a + c) (b + d) := by
  unfold Cg at *; rw [Int.add_emod, h, h2, ← Int.add_emod]
theorem Cg.sub {p a b c d : Int} (h : Cg p a b) (h2 : Cg p c d) : Cg p (a - c) (b - d) := by
  unfold Cg at *; rw [Int.sub_emod, h, h2, ← Int.sub_emod]
theorem Cg.mul {p a b c d : Int} (h : Cg p a b) (h2 : Cg p c d) : Cg p (a * c) (b * d) := by
  unfold Cg at *; rw [Int.mul_emod, h, h2, ← Int.mul_emod]
theorem Cg.neg {p a b : Int} (h : Cg p a b) : Cg p (-a) (-b) := by
  have := (Cg.rf p 0).sub h
  rwa [Int.zero_sub, Int.zero_sub] at this
theorem Cg.md (p a : Int) : Cg p (a % p) a := Int.emod_emod_of_dvd _ (Int.dvd_refl p)
theorem Cg.pow {p a b : Int} (h : Cg p a b) : ∀ n : Nat, Cg p (a ^ n) (b ^ n)
  | 0 => by rw [Int.pow_zero, Int.pow_zero]; exact Cg.rf _ _
  | n + 1 => by rw [Int.pow_succ, Int.pow_succ]; exact (Cg.pow h n).mul h
theorem Cg.dvd {p a b : Int} (h : Cg p a b) : p ∣ a - b := by
  unfold Cg at h; exact Int.dvd_of_emod_eq_zero (by rw [Int.sub_emod, h]; simp)
theorem Cg.of_dvd {p a b : Int} (h : p ∣ a - b) : Cg p a b := by
  obtain ⟨k, hk⟩ := h
  unfold Cg
  have : a = b + p * k := by omega
  rw [this, Int.add_mul_emod_self_left]

/-- Equal, as both lie below p. -/
theorem Cg.eq {p a b : Int} (h : Cg p a b) (a0 : 0 ≤ a) (a1 : a < p) (b0 : 0 ≤ b) (b1 : b < p) : a = b := by
  unfold Cg at h; rwa [Int.emod_eq_of_lt a0 a1, Int.emod_eq_of_lt b0 b1] at h

/-- A prime divides no product of what it does not divide. -/
theorem Prm.zd {p : Nat} (hp : Prm p) {a b : Int} (h : Cg p (a * b) 0) : Cg p a 0 ∨ Cg p b 0 := by
  have h1 := h.dvd
  rw [Int.sub_zero] at h1
  have h2 : p ∣ (a * b).natAbs := Int.ofNat_dvd_left.1 h1
  rw [Int.natAbs_mul] at h2
  rcases hp.dvd h2 with h3 | h3
  · exact .inl (Cg.of_dvd (by rw [Int.sub_zero]; exact Int.ofNat_dvd_left.2 h3))
  · exact .inr (Cg.of_dvd (by rw [Int.sub_zero]; exact Int.ofNat_dvd_left.2 h3))

theorem Prm.fermatI {p : Nat} (hp : Prm p) {a : Int} (h : ¬ Cg p a 0) : Cg p (a ^ (p - 1)) 1 := by
  have hp2 := hp.1
  have e1 : Cg p a ((a % (p : Int)).toNat : Int) := by
    have : 0 ≤ a % (p : Int) := Int.emod_nonneg _ (by omega)
    rw [Int.toNat_of_nonneg this]
    exact (Cg.md _ _).symm
  have hn : ¬ p ∣ (a % (p : Int)).toNat := fun hd => h (e1.trans (Cg.of_dvd (by rw [Int.sub_zero]; exact Int.natCast_dvd_natCast.2 hd)))
  have hf := hp.fermat hn
  refine (e1.pow _).trans ?_
  unfold Cg
  rw [← Int.natCast_pow]
  have : (((a % (p : Int)).toNat ^ (p - 1) % p : Nat) : Int) = ((1 % p : Nat) : Int) := by rw [hf, Nat.mod_eq_of_lt (by omega)]
  rwa [Int.natCast_emod, Int.natCast_emod] at this

/-- Euler: half the power is 1 or -1. -/
theorem Prm.euler {p k : Nat} (hp : Prm p) (hk : p - 1 = 2 * k) {a : Int} (h : ¬ Cg p a 0) : Cg p (a ^ k) 1 ∨ Cg p (a ^ k) (-1) := by
  have h1 := hp.fermatI h
  rw [hk, Nat.mul_comm, Int.pow_mul] at h1
  have h2 : Cg p ((a ^ k - 1) * (a ^ k + 1)) 0 := by
    refine (Cg.of (show (a ^ k - 1) * (a ^ k + 1) = (a ^ k) ^ 2 - 1 by generalize a ^ k = x; grind)).trans ?_
    exact (h1.sub (Cg.rf _ 1)).trans (Cg.of (by omega))
  rcases hp.zd h2 with h3 | h3
  · exact .inl ((Cg.of (by omega : a ^ k = (a ^ k - 1) + 1)).trans ((h3.add (Cg.rf _ 1)).trans (Cg.of (by omega))))
  · exact .inr ((Cg.of (by omega : a ^ k = (a ^ k + 1) - 1)).trans ((h3.sub (Cg.rf _ 1)).trans (Cg.of (by omega))))

/-! The equation, from the projective form. -/
theorem eqn_of {p xd i gxd gx n x y B : Int} (hi : Cg p (xd * i) 1) (hgxd : Cg p gxd (xd * xd * xd)) (hgx : Cg p gx ((n * n - 3 * (xd * xd)) * n + B * gxd))
    (hy : Cg p (y * y * gxd) gx) (hx : Cg p x (n * i)) : Cg p (y * y) (x * x * x - 3 * x + B) := by
  have i3 : Cg p (xd * i * (xd * i) * (xd * i)) 1 := ((hi.mul hi).mul hi).trans (Cg.of (by omega))
  have s1 : Cg p (y * y) (gx * (i * i * i)) := by
    refine (Cg.of (show y * y = y * y * 1 by omega)).trans ?_
    refine ((Cg.rf p (y * y)).mul i3.symm).trans ?_
    refine (Cg.of (show y * y * (xd * i * (xd * i) * (xd * i)) = (y * y * (xd * xd * xd)) * (i * i * i) by grind)).trans ?_
    exact (((Cg.rf p (y * y)).mul hgxd.symm).trans hy).mul (Cg.rf _ _)
  have s2 : Cg p gx ((n * n - 3 * (xd * xd)) * n + B * (xd * xd * xd)) := hgx.trans ((Cg.rf _ _).add ((Cg.rf _ B).mul hgxd))
  refine s1.trans ((s2.mul (Cg.rf p (i * i * i))).trans ?_)
  refine (Cg.of (show ((n * n - 3 * (xd * xd)) * n + B * (xd * xd * xd)) * (i * i * i) = (n * i) * (n * i) * (n * i) - 3 * (n * i) * (xd * i * (xd * i)) + B * (xd * i * (xd * i) * (xd * i)) by grind)).trans ?_
  refine ((((hx.symm.mul hx.symm).mul hx.symm).sub (((Cg.rf p 3).mul hx.symm).mul ((hi.mul hi).trans (Cg.of (by omega : (1 : Int) * 1 = 1))))).add ((Cg.rf p B).mul i3)).trans ?_
  exact Cg.of (by omega)

theorem eqn_of2 {p xd i gxd gx n x y y1 B Z C2 u t : Int} (hi : Cg p (xd * i) 1) (hgxd : Cg p gxd (xd * xd * xd)) (hgx : Cg p gx ((n * n - 3 * (xd * xd)) * n + B * gxd))
    (ht : Cg p t (Z * (u * u))) (hn : Cg p n ((t * t + t + 1) * B)) (hxd : Cg p xd (3 * (t * t + t)))
    (hy1 : Cg p (y1 * y1 * gxd) (-gx)) (hC : Cg p (C2 * C2) (-(Z * Z * Z))) (hy : Cg p y (y1 * C2 * (u * u) * u)) (hx : Cg p x (t * n * i)) : Cg p (y * y) (x * x * x - 3 * x + B) := by
  have h1 : Cg p (y * y * gxd) (t * t * t * gx) := by
    refine ((hy.mul hy).mul (Cg.rf p gxd)).trans ?_
    refine (Cg.of (show y1 * C2 * (u * u) * u * (y1 * C2 * (u * u) * u) * gxd = (y1 * y1 * gxd) * (C2 * C2) * ((u * u) * (u * u) * (u * u)) by grind)).trans ?_
    refine ((hy1.mul hC).mul (Cg.rf _ _)).trans ?_
    refine (Cg.of (show -gx * -(Z * Z * Z) * (u * u * (u * u) * (u * u)) = (Z * (u * u)) * (Z * (u * u)) * (Z * (u * u)) * gx by grind)).trans ?_
    exact (((ht.mul ht).mul ht).symm).mul (Cg.rf _ _)
  have h2 : Cg p (t * t * t * gx) ((t * n * (t * n) - 3 * (xd * xd)) * (t * n) + B * gxd) := by
    refine ((Cg.rf p (t * t * t)).mul hgx).trans ?_
    have z : Cg p (xd * xd * (3 * n * t * (1 - t * t)) + B * gxd * (t * t * t - 1)) 0 := by
      have z1 : Cg p (3 * n * t * (1 - t * t)) (3 * ((t * t + t + 1) * B) * t * (1 - t * t)) := (((Cg.rf p 3).mul hn).mul (Cg.rf _ _)).mul (Cg.rf _ _)
      have z2 : Cg p (B * gxd * (t * t * t - 1)) (B * (xd * xd * (3 * (t * t + t))) * (t * t * t - 1)) := ((Cg.rf p B).mul (hgxd.trans ((Cg.rf p (xd * xd)).mul hxd))).mul (Cg.rf _ _)
      refine ((((Cg.rf p (xd * xd)).mul z1)).add z2).trans (Cg.of ?_)
      grind
    refine (Cg.of (show t * t * t * ((n * n - 3 * (xd * xd)) * n + B * gxd) = ((t * n * (t * n) - 3 * (xd * xd)) * (t * n) + B * gxd) + (xd * xd * (3 * n * t * (1 - t * t)) + B * gxd * (t * t * t - 1)) by grind)).trans ?_
    exact ((Cg.rf p _).add z).trans (Cg.of (by omega))
  exact eqn_of hi hgxd (Cg.rf p _) (h1.trans h2) hx

/-! The values of the algorithm. -/
structure Sp where
  p : Nat
  Z : Int
  B : Int
  C2 : Int
  c : Nat
  u : Int

namespace Sp
variable (s : Sp)
def t1 : Int := s.u * s.u % s.p
def t3 : Int := s.Z * s.t1 % s.p
def t2 : Int := s.t3 * s.t3 % s.p
def d : Int := (s.t2 + s.t3) % s.p
def n0 : Int := (s.d + 1) % s.p
def n : Int := s.n0 * s.B % s.p
def d3 : Int := 3 * s.d % s.p
def za : Int := s.Z * -3 % s.p
def xd : Int := if s.d3 = 0 then s.za else s.d3
def q2 : Int := s.xd * s.xd % s.p
def gxd : Int := s.q2 * s.xd % s.p
def a2 : Int := -3 * s.q2 % s.p
def g0 : Int := s.n * s.n % s.p
def g1 : Int := (s.g0 + s.a2) % s.p
def g2 : Int := s.g1 * s.n % s.p
def bg : Int := s.B * s.gxd % s.p
def gx : Int := (s.g2 + s.bg) % s.p
def f2 : Int := s.gxd * s.gxd % s.p
def k : Int := s.gx * s.gxd % s.p
def f4 : Int := s.f2 * s.k % s.p
def e : Int := s.f4 ^ s.c % s.p
def y1 : Int := s.e * s.k % s.p
def x2 : Int := s.t3 * s.n % s.p
def y2a : Int := s.y1 * s.C2 % s.p
def y2b : Int := s.y2a * s.t1 % s.p
def y2 : Int := s.y2b * s.u % s.p
def v1 : Int := s.y1 * s.y1 % s.p
def v : Int := s.v1 * s.gxd % s.p
def xn : Int := if s.v = s.gx then s.n else s.x2
def yy : Int := if s.v = s.gx then s.y1 else s.y2
def yf : Int := if s.u % 2 = s.yy % 2 then s.yy else -s.yy
def y : Int := s.yf % s.p
end Sp

/-- What is asked of the numbers of a curve. -/
structure Sp.Ok (s : Sp) : Prop where
  prm : Prm s.p
  p3 : 5 ≤ s.p
  c4 : s.p = 4 * s.c + 3
  u0 : 0 < s.u
  u1 : s.u < s.p
  z30 : ¬ Cg s.p s.Z 0
  z3 : ¬ Cg s.p 3 0
  cc : Cg s.p (s.C2 * s.C2) (-(s.Z * s.Z * s.Z))
  b0 : 0 ≤ s.B
  b1 : s.B < s.p
  bz : s.B ≠ 0
  /-- the case Z u^2 = -1: a root of what is to be a square -/
  sq : ∃ r : Int, Cg s.p (r * r) (let xd := s.Z * -3; ((s.B * s.B - 3 * (xd * xd)) * s.B + s.B * (xd * xd * xd)) * (xd * xd * xd) * ((xd * xd * xd) * (xd * xd * xd)))

namespace Sp.Ok
variable {s : Sp} (h : s.Ok)
include h
theorem pp : (0 : Int) < s.p := by have := h.p3; omega
theorem ge (a : Int) : 0 ≤ a % (s.p : Int) := Int.emod_nonneg _ (by have := h.p3; omega)
theorem lt (a : Int) : a % (s.p : Int) < s.p := Int.emod_lt_of_pos _ h.pp

theorem ct1 : Cg s.p s.t1 (s.u * s.u) := Cg.md _ _
theorem ct3 : Cg s.p s.t3 (s.Z * (s.u * s.u)) := (Cg.md _ _).trans ((Cg.rf _ _).mul h.ct1)
theorem cd : Cg s.p s.d (s.t3 * s.t3 + s.t3) := (Cg.md _ _).trans ((Cg.md _ _).add (Cg.rf _ _))
theorem cn : Cg s.p s.n ((s.t3 * s.t3 + s.t3 + 1) * s.B) := (Cg.md _ _).trans (((Cg.md _ _).trans (h.cd.add (Cg.rf _ 1))).mul (Cg.rf _ _))
theorem cd3 : Cg s.p s.d3 (3 * (s.t3 * s.t3 + s.t3)) := (Cg.md _ _).trans ((Cg.rf _ 3).mul h.cd)
theorem cgxd : Cg s.p s.gxd (s.xd * s.xd * s.xd) := (Cg.md _ _).trans ((Cg.md _ _).mul (Cg.rf _ _))
theorem cgx : Cg s.p s.gx ((s.n * s.n - 3 * (s.xd * s.xd)) * s.n + s.B * s.gxd) := by
  refine (Cg.md _ _).trans (Cg.add ((Cg.md _ _).trans (Cg.mul ?_ (Cg.rf _ _))) (Cg.md _ _))
  refine (Cg.md _ _).trans (((Cg.md _ _).add ((Cg.md _ _).trans ((Cg.rf _ (-3)).mul (Cg.md _ _)))).trans (Cg.of ?_))
  grind

theorem z {x : Int} (h0 : 0 ≤ x) (h1 : x < s.p) : x = 0 ↔ Cg s.p x 0 := by
  constructor
  · intro e; exact Cg.of e
  · intro e; exact e.eq h0 h1 (Int.le_refl 0) h.pp

theorem xd0 : ¬ Cg s.p s.xd 0 := by
  unfold Sp.xd
  split
  · intro hc
    have hc2 : Cg s.p (s.Z * -3) 0 := (Cg.md _ _).symm.trans hc
    rcases h.prm.zd hc2 with h1 | h1
    · exact h.z30 h1
    · exact h.z3 (h1.neg.trans (Cg.of rfl))
  · rename_i hne
    intro hc
    exact hne ((h.z (h.ge _) (h.lt _)).2 hc)

theorem xdr : 0 ≤ s.xd ∧ s.xd < s.p := by
  unfold Sp.xd
  split
  · exact ⟨h.ge _, h.lt _⟩
  · exact ⟨h.ge _, h.lt _⟩

theorem gxd0 : ¬ Cg s.p s.gxd 0 := by
  intro hc
  rcases h.prm.zd (h.cgxd.symm.trans hc) with h1 | h1
  · rcases h.prm.zd h1 with h2 | h2 <;> exact h.xd0 h2
  · exact h.xd0 h1

theorem t30 : ¬ Cg s.p s.t3 0 := by
  intro hc
  have hu : ¬ Cg s.p s.u 0 := fun e => by
    have := e.eq (by have := h.u0; omega) h.u1 (Int.le_refl 0) h.pp
    have := h.u0; omega
  rcases h.prm.zd (h.ct3.symm.trans hc) with h1 | h1
  · exact h.z30 h1
  · rcases h.prm.zd h1 with h2 | h2 <;> exact hu h2

/-- gx gxd^3 to half of p - 1 -/
theorem cy1 : Cg s.p (s.y1 * s.y1 * s.gxd) ((s.gx * s.gxd * (s.gxd * s.gxd)) ^ (2 * s.c + 1) * s.gx) := by
  have hk : Cg s.p s.k (s.gx * s.gxd) := Cg.md _ _
  have hf : Cg s.p s.f4 (s.gx * s.gxd * (s.gxd * s.gxd)) := (Cg.md _ _).trans (((Cg.md _ _).mul hk).trans (Cg.of (Int.mul_comm _ _)))
  have he : Cg s.p s.e ((s.gx * s.gxd * (s.gxd * s.gxd)) ^ s.c) := (Cg.md _ _).trans (hf.pow _)
  have hy : Cg s.p s.y1 ((s.gx * s.gxd * (s.gxd * s.gxd)) ^ s.c * (s.gx * s.gxd)) := (Cg.md _ _).trans (he.mul hk)
  refine ((hy.mul hy).mul (Cg.rf _ s.gxd)).trans (Cg.of ?_)
  rw [Int.pow_succ, Nat.two_mul, Int.pow_add]
  generalize (s.gx * s.gxd * (s.gxd * s.gxd)) ^ s.c = e
  grind

theorem w0 (hg : ¬ Cg s.p s.gx 0) : ¬ Cg s.p (s.gx * s.gxd * (s.gxd * s.gxd)) 0 := by
  intro hc
  rcases h.prm.zd hc with h1 | h1
  · rcases h.prm.zd h1 with h2 | h2
    · exact hg h2
    · exact h.gxd0 h2
  · rcases h.prm.zd h1 with h2 | h2 <;> exact h.gxd0 h2

theorem vgx : s.v = s.gx ↔ Cg s.p (s.y1 * s.y1 * s.gxd) s.gx := by
  have hv : Cg s.p s.v (s.y1 * s.y1 * s.gxd) := (Cg.md _ _).trans ((Cg.md _ _).mul (Cg.rf _ _))
  constructor
  · intro e; exact hv.symm.trans (Cg.of e)
  · intro e; exact (hv.trans e).eq (h.ge _) (h.lt _) (h.ge _) (h.lt _)

theorem two : Cg s.p (s.y1 * s.y1 * s.gxd) s.gx ∨ (Cg s.p (s.y1 * s.y1 * s.gxd) (-s.gx) ∧ ¬ Cg s.p s.gx 0 ∧ Cg s.p ((s.gx * s.gxd * (s.gxd * s.gxd)) ^ (2 * s.c + 1)) (-1)) := by
  rcases Classical.em (Cg s.p s.gx 0) with hg | hg
  · left
    refine h.cy1.trans ?_
    refine ((Cg.rf _ _).mul hg).trans ((Cg.of (Int.mul_zero _)).trans hg.symm)
  · rcases h.prm.euler (k := 2 * s.c + 1) (by have := h.c4; omega) (h.w0 hg) with h1 | h1
    · left
      exact h.cy1.trans ((h1.mul (Cg.rf _ _)).trans (Cg.of (Int.one_mul _)))
    · right
      exact ⟨h.cy1.trans ((h1.mul (Cg.rf _ _)).trans (Cg.of (by omega))), hg, h1⟩

theorem ok {i : Int} (hi : Cg s.p (s.xd * i) 1) {x : Int} (hx : Cg s.p x (s.xn * i)) : Cg s.p (s.y * s.y) (x * x * x - 3 * x + s.B) := by
  have hyy : Cg s.p (s.y * s.y) (s.yy * s.yy) := by
    refine ((Cg.md _ _).mul (Cg.md _ _)).trans (Cg.of ?_)
    unfold Sp.yf
    split
    · rfl
    · rw [Int.neg_mul_neg]
  refine hyy.trans ?_
  rcases Classical.em (s.v = s.gx) with hv | hv
  · have e1 : s.yy = s.y1 := by unfold Sp.yy; rw [if_pos hv]
    have e2 : s.xn = s.n := by unfold Sp.xn; rw [if_pos hv]
    rw [e1]
    rw [e2] at hx
    exact eqn_of hi h.cgxd h.cgx (h.vgx.1 hv) hx
  · have e1 : s.yy = s.y2 := by unfold Sp.yy; rw [if_neg hv]
    have e2 : s.xn = s.x2 := by unfold Sp.xn; rw [if_neg hv]
    rw [e1]
    rw [e2] at hx
    rcases h.two with h1 | ⟨h1, hg, hw⟩
    · exact absurd (h.vgx.2 h1) hv
    · rcases Classical.em (s.d3 = 0) with hd | hd
      · exfalso
        -- Z u^2 = -1
        have hdd : Cg s.p (3 * (s.t3 * (s.t3 + 1))) 0 := (Cg.of (by grind)).trans (h.cd3.symm.trans (Cg.of hd))
        have ht : Cg s.p (s.t3 * s.t3 + s.t3) 0 := by
          rcases h.prm.zd hdd with h2 | h2
          · exact absurd h2 h.z3
          · exact (Cg.of (by grind)).trans h2
        have hn : Cg s.p s.n s.B := h.cn.trans (((ht.add (Cg.rf _ 1)).mul (Cg.rf _ _)).trans (Cg.of (by omega)))
        have hxd : Cg s.p s.xd (s.Z * -3) := by unfold Sp.xd; rw [if_pos hd]; exact Cg.md _ _
        have hgxd : Cg s.p s.gxd (s.Z * -3 * (s.Z * -3) * (s.Z * -3)) := h.cgxd.trans ((hxd.mul hxd).mul hxd)
        have hgx : Cg s.p s.gx ((s.B * s.B - 3 * (s.Z * -3 * (s.Z * -3))) * s.B + s.B * (s.Z * -3 * (s.Z * -3) * (s.Z * -3))) :=
          h.cgx.trans ((((hn.mul hn).sub ((Cg.rf _ 3).mul (hxd.mul hxd))).mul hn).add ((Cg.rf _ _).mul hgxd))
        obtain ⟨r, hr⟩ := h.sq
        dsimp only at hr
        have hrw : Cg s.p (s.gx * s.gxd * (s.gxd * s.gxd)) (r * r) := ((hgx.mul hgxd).mul (hgxd.mul hgxd)).trans hr.symm
        have hr0 : ¬ Cg s.p r 0 := fun e => h.w0 hg (hrw.trans ((e.mul e).trans (Cg.of rfl)))
        have hf := h.prm.fermatI hr0
        have hm1 : Cg s.p 1 (-1) := by
          refine (hf.symm.trans ?_).trans hw
          refine Cg.trans (Cg.of ?_) (hrw.pow (2 * s.c + 1)).symm
          rw [show s.p - 1 = 2 * (2 * s.c + 1) by have := h.c4; omega, Int.pow_mul]
          congr 1
          rw [Int.pow_succ, Int.pow_succ, Int.pow_zero, Int.one_mul]
        have := hm1.dvd
        have h2 := Int.le_of_dvd (by omega) this
        have := h.p3
        omega
      · have hxd : s.xd = s.d3 := by unfold Sp.xd; rw [if_neg hd]
        refine eqn_of2 hi h.cgxd h.cgx h.ct3 h.cn (by rw [hxd]; exact h.cd3) h1 h.cc ?_ (hx.trans (Cg.mul (Cg.md _ _) (Cg.rf _ _)))
        exact (Cg.md _ _).trans (((Cg.md _ _).trans (Cg.mul (Cg.md _ _) h.ct1)).mul (Cg.rf _ _))
end Sp.Ok

/-- The same numbers but for u. -/
def Sp.op (s : Sp) : Sp := { s with u := s.p - s.u }

namespace Sp.Ok
variable {s : Sp} (h : s.Ok)
include h
theorem o_t1 : s.op.t1 = s.t1 := by
  show ((s.p : Int) - s.u) * (s.p - s.u) % s.p = s.u * s.u % s.p
  refine Cg.of_dvd ⟨s.p - 2 * s.u, ?_⟩
  grind
theorem o_t3 : s.op.t3 = s.t3 := by
  unfold Sp.t3
  rw [h.o_t1]
  rfl
theorem o_t2 : s.op.t2 = s.t2 := by
  unfold Sp.t2
  rw [h.o_t3]
  rfl
theorem o_d : s.op.d = s.d := by
  unfold Sp.d
  rw [h.o_t3, h.o_t2]
  rfl
theorem o_n0 : s.op.n0 = s.n0 := by
  unfold Sp.n0
  rw [h.o_d]
  rfl
theorem o_n : s.op.n = s.n := by
  unfold Sp.n
  rw [h.o_n0]
  rfl
theorem o_d3 : s.op.d3 = s.d3 := by
  unfold Sp.d3
  rw [h.o_d]
  rfl
theorem o_xd : s.op.xd = s.xd := by
  unfold Sp.xd
  rw [h.o_d3]
  rfl
theorem o_q2 : s.op.q2 = s.q2 := by
  unfold Sp.q2
  rw [h.o_xd]
  rfl
theorem o_gxd : s.op.gxd = s.gxd := by
  unfold Sp.gxd
  rw [h.o_xd, h.o_q2]
  rfl
theorem o_a2 : s.op.a2 = s.a2 := by
  unfold Sp.a2
  rw [h.o_q2]
  rfl
theorem o_g0 : s.op.g0 = s.g0 := by
  unfold Sp.g0
  rw [h.o_n]
  rfl
theorem o_g1 : s.op.g1 = s.g1 := by
  unfold Sp.g1
  rw [h.o_a2, h.o_g0]
  rfl
theorem o_g2 : s.op.g2 = s.g2 := by
  unfold Sp.g2
  rw [h.o_n, h.o_g1]
  rfl
theorem o_bg : s.op.bg = s.bg := by
  unfold Sp.bg
  rw [h.o_gxd]
  rfl
theorem o_gx : s.op.gx = s.gx := by
  unfold Sp.gx
  rw [h.o_g2, h.o_bg]
  rfl
theorem o_f2 : s.op.f2 = s.f2 := by
  unfold Sp.f2
  rw [h.o_gxd]
  rfl
theorem o_k : s.op.k = s.k := by
  unfold Sp.k
  rw [h.o_gxd, h.o_gx]
  rfl
theorem o_f4 : s.op.f4 = s.f4 := by
  unfold Sp.f4
  rw [h.o_f2, h.o_k]
  rfl
theorem o_e : s.op.e = s.e := by
  unfold Sp.e
  rw [h.o_f4]
  rfl
theorem o_y1 : s.op.y1 = s.y1 := by
  unfold Sp.y1
  rw [h.o_k, h.o_e]
  rfl
theorem o_x2 : s.op.x2 = s.x2 := by
  unfold Sp.x2
  rw [h.o_t3, h.o_n]
  rfl
theorem o_y2a : s.op.y2a = s.y2a := by
  unfold Sp.y2a
  rw [h.o_y1]
  rfl
theorem o_y2b : s.op.y2b = s.y2b := by
  unfold Sp.y2b
  rw [h.o_t1, h.o_y2a]
  rfl
theorem o_v1 : s.op.v1 = s.v1 := by
  unfold Sp.v1
  rw [h.o_y1]
  rfl
theorem o_v : s.op.v = s.v := by
  unfold Sp.v
  rw [h.o_gxd, h.o_v1]
  rfl
theorem o_xn : s.op.xn = s.xn := by
  unfold Sp.xn
  rw [h.o_n, h.o_gx, h.o_x2, h.o_v]

theorem ory : 0 ≤ s.yy ∧ s.yy < s.p := by
  unfold Sp.yy
  split
  · exact ⟨h.ge _, h.lt _⟩
  · exact ⟨h.ge _, h.lt _⟩

theorem o_u : s.op.u = s.p - s.u := rfl
theorem o_ok : s.op.Ok := ⟨h.prm, h.p3, h.c4, by show 0 < (s.p : Int) - s.u; have := h.u1; omega, by show (s.p : Int) - s.u < s.p; have := h.u0; omega, h.z30, h.z3, h.cc, h.b0, h.b1, h.bz, h.sq⟩

theorem o_yf : Cg s.p s.op.yf (-s.yf) := by
  have hp : (s.p : Int) % 2 = 1 := by have := h.c4; omega
  obtain ⟨r0, r1⟩ := h.ory
  obtain ⟨q0, q1⟩ := h.o_ok.ory
  have q1 : s.op.yy < s.p := q1
  have hu : s.op.u = s.p - s.u := rfl
  rcases Classical.em (s.v = s.gx) with hv | hv
  · have e1 : s.yy = s.y1 := by unfold Sp.yy; rw [if_pos hv]
    have e2 : s.op.yy = s.y1 := by unfold Sp.yy; rw [h.o_v, h.o_gx, if_pos hv, h.o_y1]
    unfold Sp.yf
    rw [e1, e2, hu]
    split
    · rw [if_neg (by omega)]; exact Cg.of (by omega)
    · rw [if_pos (by omega)]; exact Cg.rf _ _
  · have e1 : s.yy = s.y2 := by unfold Sp.yy; rw [if_neg hv]
    have e2 : s.op.yy = s.op.y2 := by unfold Sp.yy; rw [h.o_v, h.o_gx, if_neg hv]
    have hc : Cg s.p s.op.yy (-s.yy) := by
      rw [e1, e2]
      unfold Sp.y2
      rw [h.o_y2b, hu]
      refine (Cg.md _ _).trans (Cg.trans ?_ (Cg.md _ _).symm.neg)
      refine Cg.of_dvd ⟨s.y2b, ?_⟩
      grind
    rcases Classical.em (s.yy = 0) with h0 | h0
    · have h1 : s.op.yy = 0 := by
        refine Cg.eq (hc.trans (Cg.of (by omega))) q0 q1 (Int.le_refl 0) h.pp
      unfold Sp.yf
      rw [h0, h1]
      split <;> split <;> exact Cg.of rfl
    · have h1 : s.op.yy = s.p - s.yy := by
        refine Cg.eq (hc.trans (Cg.of_dvd ⟨-1, by omega⟩)) q0 q1 (by omega) (by omega)
      unfold Sp.yf
      rw [h1, hu]
      split
      · rw [if_pos (by omega)]; exact Cg.of_dvd ⟨1, by omega⟩
      · rw [if_neg (by omega)]; exact Cg.of_dvd ⟨-1, by omega⟩

theorem o_y : s.op.y = -s.y % s.p := by
  have := h.o_yf.trans ((Cg.md s.p s.yf).symm.neg)
  exact this

theorem inv_u {i j : Int} (hi : Cg s.p (s.xd * i) 1) (hj : Cg s.p (s.xd * j) 1) : Cg s.p i j := by
  refine (Cg.of (show i = i * 1 by omega)).trans (((Cg.rf _ i).mul hj.symm).trans ?_)
  refine (Cg.of (show i * (s.xd * j) = s.xd * i * j by grind)).trans ((hi.mul (Cg.rf _ j)).trans (Cg.of (by omega)))

theorem o_x {i j : Int} (hi : Cg s.p (s.xd * i) 1) (hj : Cg s.p (s.op.xd * j) 1) : s.op.xn * j % s.p = s.xn * i % s.p := by
  rw [h.o_xd] at hj
  rw [h.o_xn]
  exact (Cg.rf _ _).mul (h.inv_u hj hi)

theorem y0 : 0 ≤ s.y ∧ s.y < s.p := ⟨h.ge _, h.lt _⟩

/-- Not both are 0. -/
theorem not0 {i x : Int} (hi : Cg s.p (s.xd * i) 1) (hx : Cg s.p x (s.xn * i)) : ¬ (x = 0 ∧ s.y = 0) := by
  rintro ⟨rfl, e2⟩
  have h1 := h.ok hi hx
  rw [e2] at h1
  have : Cg s.p s.B 0 := (Cg.of (by omega)).trans (h1.symm.trans (Cg.of (by omega)))
  exact h.bz (this.eq h.b0 h.b1 (Int.le_refl 0) h.pp)
end Sp.Ok
end Go.Vc
end

section
/- The numbers of the three curves (printed by curves.py). -/
set_option linter.unusedVariables false
namespace Go.Vc

def sp256 (u : Int) : Sp := { p := 115792089210356248762697446949407573530086143415290314195533631308867097853951, Z := -10, B := 41058363725152142129326129780047268409114441015993725554835256314039467401291, C2 := 54610493293894747874878264174204470126516981501497076827545162717791335895809, c := 28948022302589062190674361737351893382521535853822578548883407827216774463487, u := u }

theorem ok256 {u : Int} (h0 : 0 < u) (h1 : u < 115792089210356248762697446949407573530086143415290314195533631308867097853951) : (sp256 u).Ok where
  prm := prm256
  p3 := Nat.le_of_ble_eq_true (by kernel_rfl)
  c4 := show (115792089210356248762697446949407573530086143415290314195533631308867097853951 : Nat) = 4 * 28948022302589062190674361737351893382521535853822578548883407827216774463487 + 3 from Nat.eq_of_beq_eq_true (by kernel_rfl)
  u0 := h0
  u1 := h1
  z30 := fun h => by
    have : Nat.beq (Int.toNat ((-10 : Int) % 115792089210356248762697446949407573530086143415290314195533631308867097853951)) (Int.toNat ((0 : Int) % 115792089210356248762697446949407573530086143415290314195533631308867097853951)) = false := by kernel_rfl
    rw [show ((-10 : Int) % 115792089210356248762697446949407573530086143415290314195533631308867097853951) = (0 : Int) % 115792089210356248762697446949407573530086143415290314195533631308867097853951 from h, Nat.beq_refl] at this
    cases this
  z3 := fun h => by
    have : Nat.beq (Int.toNat ((3 : Int) % 115792089210356248762697446949407573530086143415290314195533631308867097853951)) (Int.toNat ((0 : Int) % 115792089210356248762697446949407573530086143415290314195533631308867097853951)) = false := by kernel_rfl
    rw [show ((3 : Int) % 115792089210356248762697446949407573530086143415290314195533631308867097853951) = (0 : Int) % 115792089210356248762697446949407573530086143415290314195533631308867097853951 from h, Nat.beq_refl] at this
    cases this
  cc := show (54610493293894747874878264174204470126516981501497076827545162717791335895809 : Int) * 54610493293894747874878264174204470126516981501497076827545162717791335895809 % 115792089210356248762697446949407573530086143415290314195533631308867097853951 = -(-10 * -10 * -10) % 115792089210356248762697446949407573530086143415290314195533631308867097853951 by kernel_rfl
  b0 := show (0 : Int) ≤ 41058363725152142129326129780047268409114441015993725554835256314039467401291 from Int.natCast_nonneg 41058363725152142129326129780047268409114441015993725554835256314039467401291
  b1 := show ((41058363725152142129326129780047268409114441015993725554835256314039467401291 : Nat) : Int) < ((115792089210356248762697446949407573530086143415290314195533631308867097853951 : Nat) : Int) from Int.ofNat_lt.2 (Nat.le_of_ble_eq_true (by kernel_rfl))
  bz := fun h => by
    have h2 : (41058363725152142129326129780047268409114441015993725554835256314039467401291 : Nat) = 0 := Int.ofNat.inj h
    cases h2
  sq := ⟨114813093752261614175031033955925775071917300801016208998225306437632516478904, by unfold Cg; dsimp only [sp256]; exact of_decide_eq_true (by kernel_rfl)⟩

def sp384 (u : Int) : Sp := { p := 39402006196394479212279040100143613805079739270465446667948293404245721771496870329047266088258938001861606973112319, Z := -12, B := 27580193559959705877849011840389048093056905856361568521428707301988689241309860865136260764883745107765439761230575, C2 := 245581924330355933059354953436454308283684637692875694451750329610872227127112066054762383127358415667364631269478, c := 9850501549098619803069760025035903451269934817616361666987073351061430442874217582261816522064734500465401743278079, u := u }

theorem ok384 {u : Int} (h0 : 0 < u) (h1 : u < 39402006196394479212279040100143613805079739270465446667948293404245721771496870329047266088258938001861606973112319) : (sp384 u).Ok where
  prm := prm384
  p3 := Nat.le_of_ble_eq_true (by kernel_rfl)
  c4 := show (39402006196394479212279040100143613805079739270465446667948293404245721771496870329047266088258938001861606973112319 : Nat) = 4 * 9850501549098619803069760025035903451269934817616361666987073351061430442874217582261816522064734500465401743278079 + 3 from Nat.eq_of_beq_eq_true (by kernel_rfl)
  u0 := h0
  u1 := h1
  z30 := fun h => by
    have : Nat.beq (Int.toNat ((-12 : Int) % 39402006196394479212279040100143613805079739270465446667948293404245721771496870329047266088258938001861606973112319)) (Int.toNat ((0 : Int) % 39402006196394479212279040100143613805079739270465446667948293404245721771496870329047266088258938001861606973112319)) = false := by kernel_rfl
    rw [show ((-12 : Int) % 39402006196394479212279040100143613805079739270465446667948293404245721771496870329047266088258938001861606973112319) = (0 : Int) % 39402006196394479212279040100143613805079739270465446667948293404245721771496870329047266088258938001861606973112319 from h, Nat.beq_refl] at this
    cases this
  z3 := fun h => by
    have : Nat.beq (Int.toNat ((3 : Int) % 39402006196394479212279040100143613805079739270465446667948293404245721771496870329047266088258938001861606973112319)) (Int.toNat ((0 : Int) % 39402006196394479212279040100143613805079739270465446667948293404245721771496870329047266088258938001861606973112319)) = false := by kernel_rfl
    rw [show ((3 : Int) % 39402006196394479212279040100143613805079739270465446667948293404245721771496870329047266088258938001861606973112319) = (0 : Int) % 39402006196394479212279040100143613805079739270465446667948293404245721771496870329047266088258938001861606973112319 from h, Nat.beq_refl] at this
    cases this
  cc := show (245581924330355933059354953436454308283684637692875694451750329610872227127112066054762383127358415667364631269478 : Int) * 245581924330355933059354953436454308283684637692875694451750329610872227127112066054762383127358415667364631269478 % 39402006196394479212279040100143613805079739270465446667948293404245721771496870329047266088258938001861606973112319 = -(-12 * -12 * -12) % 39402006196394479212279040100143613805079739270465446667948293404245721771496870329047266088258938001861606973112319 by kernel_rfl
  b0 := show (0 : Int) ≤ 27580193559959705877849011840389048093056905856361568521428707301988689241309860865136260764883745107765439761230575 from Int.natCast_nonneg 27580193559959705877849011840389048093056905856361568521428707301988689241309860865136260764883745107765439761230575
  b1 := show ((27580193559959705877849011840389048093056905856361568521428707301988689241309860865136260764883745107765439761230575 : Nat) : Int) < ((39402006196394479212279040100143613805079739270465446667948293404245721771496870329047266088258938001861606973112319 : Nat) : Int) from Int.ofNat_lt.2 (Nat.le_of_ble_eq_true (by kernel_rfl))
  bz := fun h => by
    have h2 : (27580193559959705877849011840389048093056905856361568521428707301988689241309860865136260764883745107765439761230575 : Nat) = 0 := Int.ofNat.inj h
    cases h2
  sq := ⟨14558641011685274798207823343573502160397317848217353998252108123398073892569364145187080550604229981524765164330074, by unfold Cg; dsimp only [sp384]; exact of_decide_eq_true (by kernel_rfl)⟩

def sp521 (u : Int) : Sp := { p := 6864797660130609714981900799081393217269435300143305409394463459185543183397656052122559640661454554977296311391480858037121987999716643812574028291115057151, Z := -4, B := 1093849038073734274511112390766805569936207598951683748994586394495953116150735016013708737573759623248592132296706313309438452531591012912142327488478985984, C2 := 8, c := 1716199415032652428745475199770348304317358825035826352348615864796385795849414013030639910165363638744324077847870214509280496999929160953143507072778764287, u := u }

theorem ok521 {u : Int} (h0 : 0 < u) (h1 : u < 6864797660130609714981900799081393217269435300143305409394463459185543183397656052122559640661454554977296311391480858037121987999716643812574028291115057151) : (sp521 u).Ok where
  prm := prm521
  p3 := Nat.le_of_ble_eq_true (by kernel_rfl)
  c4 := show (6864797660130609714981900799081393217269435300143305409394463459185543183397656052122559640661454554977296311391480858037121987999716643812574028291115057151 : Nat) = 4 * 1716199415032652428745475199770348304317358825035826352348615864796385795849414013030639910165363638744324077847870214509280496999929160953143507072778764287 + 3 from Nat.eq_of_beq_eq_true (by kernel_rfl)
  u0 := h0
  u1 := h1
  z30 := fun h => by
    have : Nat.beq (Int.toNat ((-4 : Int) % 6864797660130609714981900799081393217269435300143305409394463459185543183397656052122559640661454554977296311391480858037121987999716643812574028291115057151)) (Int.toNat ((0 : Int) % 6864797660130609714981900799081393217269435300143305409394463459185543183397656052122559640661454554977296311391480858037121987999716643812574028291115057151)) = false := by kernel_rfl
    rw [show ((-4 : Int) % 6864797660130609714981900799081393217269435300143305409394463459185543183397656052122559640661454554977296311391480858037121987999716643812574028291115057151) = (0 : Int) % 6864797660130609714981900799081393217269435300143305409394463459185543183397656052122559640661454554977296311391480858037121987999716643812574028291115057151 from h, Nat.beq_refl] at this
    cases this
  z3 := fun h => by
    have : Nat.beq (Int.toNat ((3 : Int) % 6864797660130609714981900799081393217269435300143305409394463459185543183397656052122559640661454554977296311391480858037121987999716643812574028291115057151)) (Int.toNat ((0 : Int) % 6864797660130609714981900799081393217269435300143305409394463459185543183397656052122559640661454554977296311391480858037121987999716643812574028291115057151)) = false := by kernel_rfl
    rw [show ((3 : Int) % 6864797660130609714981900799081393217269435300143305409394463459185543183397656052122559640661454554977296311391480858037121987999716643812574028291115057151) = (0 : Int) % 6864797660130609714981900799081393217269435300143305409394463459185543183397656052122559640661454554977296311391480858037121987999716643812574028291115057151 from h, Nat.beq_refl] at this
    cases this
  cc := show (8 : Int) * 8 % 6864797660130609714981900799081393217269435300143305409394463459185543183397656052122559640661454554977296311391480858037121987999716643812574028291115057151 = -(-4 * -4 * -4) % 6864797660130609714981900799081393217269435300143305409394463459185543183397656052122559640661454554977296311391480858037121987999716643812574028291115057151 by kernel_rfl
  b0 := show (0 : Int) ≤ 1093849038073734274511112390766805569936207598951683748994586394495953116150735016013708737573759623248592132296706313309438452531591012912142327488478985984 from Int.natCast_nonneg 1093849038073734274511112390766805569936207598951683748994586394495953116150735016013708737573759623248592132296706313309438452531591012912142327488478985984
  b1 := show ((1093849038073734274511112390766805569936207598951683748994586394495953116150735016013708737573759623248592132296706313309438452531591012912142327488478985984 : Nat) : Int) < ((6864797660130609714981900799081393217269435300143305409394463459185543183397656052122559640661454554977296311391480858037121987999716643812574028291115057151 : Nat) : Int) from Int.ofNat_lt.2 (Nat.le_of_ble_eq_true (by kernel_rfl))
  bz := fun h => by
    have h2 : (1093849038073734274511112390766805569936207598951683748994586394495953116150735016013708737573759623248592132296706313309438452531591012912142327488478985984 : Nat) = 0 := Int.ofNat.inj h
    cases h2
  sq := ⟨3188638086221957611648670268489010075750748238881433439242352296367274379654149609298481831114039774767056059883795293859188665439536984262871987741617724771, by unfold Cg; dsimp only [sp521]; exact of_decide_eq_true (by kernel_rfl)⟩

end Go.Vc
end
