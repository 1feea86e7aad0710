/- Lehmer's simulation: the plain laws. No program. -/
import Derived.Test.YthahnloabllniaaGreatDoorM14
section
set_option linter.unusedSimpArgs false
set_option linter.unusedVariables false
namespace Go.Vc

/-- What holds at the loop's head: x and y are the tops; k counts the rounds. -/
structure Sim (x y k a1 a2 u0 u1 u2 v0 v1 v2 : Nat) (e : Bool) : Prop where
  r1 : if e then a1 + u1 * x = v1 * y else a1 + v1 * y = u1 * x
  r2 : if e then a2 + v2 * y = u2 * x else a2 + u2 * x = v2 * y
  ex : x = v2 * a1 + v1 * a2
  ey : y = u2 * a1 + u1 * a2
  uv2 : u2 ≤ v2
  p2 : 1 ≤ v2
  le : a2 ≤ a1
  k0 : k = 0 → u0 = 0 ∧ v0 = 0 ∧ u1 = 1 ∧ v1 = 0 ∧ u2 = 0 ∧ v2 = 1
  k1 : 1 ≤ k → u1 ≤ v1 ∧ v1 ≤ a1 ∧ 1 ≤ v1 ∧ 1 ≤ u2 ∧ ∃ a0, a1 + v0 + v1 ≤ a0 ∧ (if e then a0 + v0 * y = u0 * x else a0 + u0 * x = v0 * y) ∧ x = v1 * a0 + v0 * a1 ∧ y = u1 * a0 + u0 * a1
  k2 : v0 ≠ 0 → 1 ≤ k ∧ u0 ≤ v0 ∧ 1 ≤ u1

theorem Sim.start {x y : Nat} (h : y ≤ x) : Sim x y 0 x y 0 1 0 0 0 1 false :=
  ⟨by simp, by simp, by simp, by simp, by omega, by omega, h, fun _ => ⟨rfl, rfl, rfl, rfl, rfl, rfl⟩, fun h => by omega, fun h => absurd rfl h⟩

theorem row_step {a1 a2 q r p1 p2 s1 s2 x y : Nat} (hd : a2 * q + r = a1) (h1 : a1 + p1 * x = s1 * y) (h2 : a2 + s2 * y = p2 * x) : r + (p1 + q * p2) * x = (s1 + q * s2) * y := by
  have e1 : q * (p2 * x) = q * (a2 + s2 * y) := by rw [h2]
  rw [Nat.mul_add, ← Nat.mul_assoc, ← Nat.mul_assoc, Nat.mul_comm q a2] at e1
  rw [Nat.add_mul, Nat.add_mul]
  omega

theorem ex_step {a1 a2 q r s1 s2 : Nat} (hd : a2 * q + r = a1) : s2 * a1 + s1 * a2 = (s1 + q * s2) * a2 + s2 * r := by
  rw [← hd, Nat.mul_add, Nat.add_mul, Nat.mul_comm a2 q, ← Nat.mul_assoc, Nat.mul_comm s2 q]
  omega

theorem Sim.step {x y k a1 a2 u0 u1 u2 v0 v1 v2 : Nat} {e : Bool} (h : Sim x y k a1 a2 u0 u1 u2 v0 v1 v2 e) (c1 : v2 ≤ a2) (c2 : a2 + v1 + v2 ≤ a1) :
    Sim x y (k + 1) a2 (a1 % a2) u1 u2 (u1 + a1 / a2 * u2) v1 v2 (v1 + a1 / a2 * v2) (!e) := by
  have hp := h.p2
  have ha2 : 0 < a2 := by omega
  have hd := Nat.div_add_mod a1 a2
  have hm := Nat.mod_lt a1 ha2
  have hq : 1 ≤ a1 / a2 := (Nat.le_div_iff_mul_le ha2).2 (by omega)
  have h1 := h.r1
  have h2 := h.r2
  generalize a1 / a2 = q at *
  generalize a1 % a2 = r at *
  have hge : ∀ a : Nat, a ≤ q * a := fun a => by
    have := Nat.mul_le_mul_right a hq
    rwa [Nat.one_mul] at this
  have g2 := hge v2
  have gu := hge u2
  refine ⟨?_, ?_, ?_, ?_, ?_, by omega, by omega, fun h => by omega, fun _ => ⟨h.uv2, c1, hp, ?_, a1, by omega, ?_, h.ex, h.ey⟩, fun hv => ?_⟩
  · cases e with
    | true => simpa using h2
    | false => simpa using h2
  · cases e with
    | true =>
      simp only [if_true] at h1 h2
      simp only [Bool.not_true, Bool.false_eq_true, if_false]
      exact row_step hd h1 h2
    | false =>
      simp only [Bool.false_eq_true, if_false] at h1 h2
      simp only [Bool.not_false, if_true]
      exact row_step hd h1 h2
  · rw [h.ex]; exact ex_step hd
  · rw [h.ey]; exact ex_step hd
  · rcases Nat.eq_zero_or_pos k with e0 | e0
    · obtain ⟨_, _, hu, hv, hu2, hv2⟩ := h.k0 e0
      rw [hu, hv, hu2, hv2]; omega
    · have h3 := (h.k1 e0).1
      have h4 : q * u2 ≤ q * v2 := Nat.mul_le_mul_left _ h.uv2
      omega
  · rcases Nat.eq_zero_or_pos k with e0 | e0
    · obtain ⟨_, _, hu, _⟩ := h.k0 e0
      omega
    · have := (h.k1 e0).2.2.2.1
      omega
  · cases e with
    | true => simpa using h1
    | false => simpa using h1
  · rcases Nat.eq_zero_or_pos k with e0 | e0
    · exact absurd (h.k0 e0).2.2.2.1 hv
    · obtain ⟨h3, _, _, h4, _⟩ := h.k1 e0
      exact ⟨by omega, h3, h4⟩

/-- What a simulation hands out is good for the numbers themselves. -/
structure LS (A B u0 u1 v0 v1 : Nat) (e : Bool) : Prop where
  all : v0 ≠ 0 → ∃ A' B', (if e then A' + v0 * B = u0 * A ∧ B' + u1 * A = v1 * B else A' + u0 * A = v0 * B ∧ B' + v1 * B = u1 * A) ∧ B' ≤ A' ∧ A = v1 * A' + v0 * B' ∧ B = u1 * A' + u0 * B' ∧ 1 ≤ u1 ∧ 1 ≤ v1 ∧ 1 ≤ B'

theorem det_of {p q r s x y a0 a1 : Nat} (h1 : a0 + q * y = p * x) (h2 : a1 + r * x = s * y) (hx : x = s * a0 + q * a1) (h0 : 0 < x) : s * p = 1 + q * r := by
  have e1 : s * (a0 + q * y) = s * (p * x) := by rw [h1]
  have e2 : q * (a1 + r * x) = q * (s * y) := by rw [h2]
  rw [Nat.mul_add, ← Nat.mul_assoc, ← Nat.mul_assoc] at e1 e2
  rw [Nat.mul_comm q s] at e2
  have e3 : (s * p) * x = (1 + q * r) * x := by
    rw [Nat.add_mul, Nat.one_mul]
    generalize s * q * y = k1 at *
    generalize q * r * x = k2 at *
    generalize s * p * x = k3 at *
    omega
  exact Nat.eq_of_mul_eq_mul_right h0 e3

theorem det_inv {p q r s A B A' B' : Nat} (h1 : A' + q * B = p * A) (h2 : B' + r * A = s * B) (det : s * p = 1 + q * r) : A = s * A' + q * B' ∧ B = r * A' + p * B' := by
  constructor
  · have e1 : s * (A' + q * B) = s * (p * A) := by rw [h1]
    have e2 : q * (B' + r * A) = q * (s * B) := by rw [h2]
    rw [Nat.mul_add, ← Nat.mul_assoc, ← Nat.mul_assoc] at e1 e2
    rw [det, Nat.add_mul, Nat.one_mul] at e1
    rw [Nat.mul_comm q s] at e2
    generalize s * q * B = k1 at *
    generalize q * r * A = k2 at *
    omega
  · have e1 : r * (A' + q * B) = r * (p * A) := by rw [h1]
    have e2 : p * (B' + r * A) = p * (s * B) := by rw [h2]
    rw [Nat.mul_add, ← Nat.mul_assoc, ← Nat.mul_assoc] at e1 e2
    rw [Nat.mul_comm p s, det, Nat.add_mul, Nat.one_mul, Nat.mul_comm q r] at e2
    rw [Nat.mul_comm p r] at e2
    generalize r * q * B = k1 at *
    generalize r * p * A = k2 at *
    omega

theorem row_pos {T r a p ea k : Nat} (h : r + p * ea = T * a + k) (hp : p ≤ a) (h1 : 1 ≤ p) (hea : ea < T) : 1 ≤ r := by
  have h2 : p * ea < T * a := by
    have h3 : p * ea < p * T := Nat.mul_lt_mul_of_pos_left hea (by omega)
    have h4 : p * T ≤ a * T := Nat.mul_le_mul_right _ hp
    rw [Nat.mul_comm a T] at h4
    omega
  omega

/-- One row, lifted from the tops to the numbers. -/
theorem row_lift {T x y ea eb a p s : Nat} (h : a + p * x = s * y) (hp : p ≤ a) (hea : ea ≤ T) : ∃ r, r + p * (T * x + ea) = s * (T * y + eb) ∧ r + p * ea = T * a + s * eb := by
  have h1 : T * (a + p * x) = T * (s * y) := by rw [h]
  have h2 : p * ea ≤ T * a := by
    have := Nat.mul_le_mul hp hea
    rwa [Nat.mul_comm a T] at this
  refine ⟨T * a + s * eb - p * ea, ?_, by omega⟩
  rw [Nat.mul_add] at h1
  rw [Nat.mul_add, Nat.mul_add, Nat.mul_left_comm p T x, Nat.mul_left_comm s T y]
  omega

theorem Sim.done {x y k a1 a2 u0 u1 u2 v0 v1 v2 T ea eb : Nat} {e : Bool} (h : Sim x y k a1 a2 u0 u1 u2 v0 v1 v2 e) (hea' : ea < T) (heb' : eb < T) : LS (T * x + ea) (T * y + eb) u0 u1 v0 v1 e := by
  have hea := Nat.le_of_lt hea'
  have heb := Nat.le_of_lt heb'
  refine ⟨fun hv => ?_⟩
  obtain ⟨hk, hu0, hu1⟩ := h.k2 hv
  obtain ⟨g1, g2, g3, g4, a0, g5, g6, g7, g8⟩ := h.k1 hk
  have r1 := h.r1
  have hx0 : 0 < x := by
    have : 1 * 1 ≤ v1 * a0 := Nat.mul_le_mul g3 (by omega)
    omega
  have key : ∀ {c0 c1 d0 d1 ea eb r0 r1 : Nat}, r1 + c1 * ea = T * a1 + d1 * eb → r0 + d0 * eb = T * a0 + c0 * ea → ea ≤ T → eb ≤ T → d0 + d1 ≤ v0 + v1 → r1 ≤ r0 := fun {c0 c1 d0 d1 ea eb r0 r1} h1 h0 _ hb hd => by
    have h3 : (d0 + d1) * eb ≤ (v0 + v1) * T := Nat.mul_le_mul hd hb
    have h4 : T * (a1 + v0 + v1) ≤ T * a0 := Nat.mul_le_mul_left _ g5
    rw [Nat.add_mul] at h3
    rw [Nat.mul_add, Nat.mul_add] at h4
    rw [Nat.add_mul, Nat.mul_comm v0 T, Nat.mul_comm v1 T] at h3
    omega
  cases e with
  | true =>
    simp only [if_true] at r1 g6 ⊢
    obtain ⟨B', hB, hB2⟩ := row_lift (T := T) (ea := ea) (eb := eb) r1 (by omega) hea
    obtain ⟨A', hA, hA2⟩ := row_lift (T := T) (ea := eb) (eb := ea) g6 (by omega) heb
    have hdet := det_of g6 r1 g7 hx0
    obtain ⟨i1, i2⟩ := det_inv hA hB hdet
    exact ⟨A', B', ⟨hA, hB⟩, key hB2 hA2 hea heb (by omega), i1, i2, hu1, g3, row_pos hB2 (by omega) hu1 hea'⟩
  | false =>
    simp only [Bool.false_eq_true, if_false] at r1 g6 ⊢
    obtain ⟨B', hB, hB2⟩ := row_lift (T := T) (ea := eb) (eb := ea) r1 (by omega) heb
    obtain ⟨A', hA, hA2⟩ := row_lift (T := T) (ea := ea) (eb := eb) g6 (by omega) hea
    have hdet : u1 * v0 = 1 + u0 * v1 := by
      have hy0 : 0 < y := by
        have : 1 * 1 ≤ u1 * a0 := Nat.mul_le_mul hu1 (by omega)
        omega
      exact det_of g6 r1 g8 hy0
    obtain ⟨i1, i2⟩ := det_inv hA hB hdet
    exact ⟨A', B', ⟨hA, hB⟩, key hB2 hA2 heb hea (by omega), i2, i1, hu1, g3, row_pos hB2 (by omega) g3 heb'⟩

end Go.Vc
end

section
/- lehmerSimulate: the walk. -/
set_option linter.unusedSimpArgs false
set_option linter.unusedVariables false
set_option maxRecDepth 8000
set_option maxHeartbeats 1000000
namespace Go.Vc
open Go.Proofs

theorem top_split {l : List Nat} {n h : Nat} (hw : WF l) (hl : l.length ≤ n + 2) (hh : h ≤ 63) :
    ∃ e, e < BW ^ n * 2 ^ (64 - h) ∧ nv l = BW ^ n * 2 ^ (64 - h) * (dg l (n + 1) * 2 ^ h + dg l n / 2 ^ (64 - h)) + e := by
  have pad : ∀ (i : Nat), nv (l.take (i + 1)) = nv (l.take i) + BW ^ i * dg l i := by
    intro i
    rcases Nat.lt_or_ge i l.length with h | h
    · exact nv_take_succ h
    · rw [List.take_of_length_le (by omega), List.take_of_length_le h, dg_ge h]; simp
  have e1 := pad (n + 1)
  rw [pad n, List.take_of_length_le (by omega)] at e1
  have lo : nv (l.take n) < BW ^ n := by
    rcases Nat.lt_or_ge l.length n with h | h
    · have := nv_lt hw
      rw [List.take_of_length_le (by omega)]
      exact Nat.lt_of_lt_of_le this (pow_le_pow (by omega))
    · have := nv_lt (hw.take n)
      rwa [List.length_take, Nat.min_eq_left (by omega)] at this
  have hB : BW = 2 ^ h * 2 ^ (64 - h) := by rw [BW_two, ← Nat.pow_add]; congr 1; omega
  have hd := Nat.div_add_mod (dg l n) (2 ^ (64 - h))
  have hm := Nat.mod_lt (dg l n) (show 0 < 2 ^ (64 - h) from Nat.pow_pos (by omega))
  have hs : BW ^ (n + 1) = BW ^ n * BW := Nat.pow_succ ..
  rw [hs] at e1
  generalize hN : BW ^ n = N at *
  generalize dg l (n + 1) = w1 at *
  generalize dg l n = w0 at *
  generalize hG : 2 ^ (64 - h) = G at *
  generalize w0 / G = q at *
  generalize w0 % G = r at *
  generalize nv (l.take n) = low at *
  refine ⟨N * r + low, ?_, ?_⟩
  · have h1 : N * (r + 1) ≤ N * G := Nat.mul_le_mul_left _ hm
    rw [Nat.mul_add] at h1
    omega
  · rw [e1, hB, ← hd]
    simp only [Nat.mul_add, Nat.mul_assoc]
    rw [Nat.mul_comm w1 (2 ^ h), Nat.mul_left_comm G (2 ^ h) w1]
    omega

/-- The top of a number as the program reads it. -/
theorem top_word {w1 w0 h : Nat} (hh : h ≤ 63) (h1 : w1 * 2 ^ h < 18446744073709551616) (h0 : w0 < 18446744073709551616) :
    ((w1 * 2 ^ h) % 18446744073709551616 ||| w0 / 2 ^ (64 - h)) = w1 * 2 ^ h + w0 / 2 ^ (64 - h) := by
  rw [Nat.mod_eq_of_lt h1, Nat.or_comm]
  refine or_add ?_
  rw [Nat.div_lt_iff_lt_mul (Nat.pow_pos (by omega)), ← Nat.pow_add, show h + (64 - h) = 64 by omega]
  exact h0

theorem Sim.bounds {x y k a1 a2 u0 u1 u2 v0 v1 v2 : Nat} {e : Bool} (h : Sim x y k a1 a2 u0 u1 u2 v0 v1 v2 e) (hx : 0 < x) : a1 ≤ x ∧ 1 ≤ a1 ∧ v2 ≤ x ∧ v1 ≤ x ∧ u2 ≤ x ∧ u1 ≤ x ∧ v0 ≤ x ∧ u0 ≤ y ∧ (1 ≤ a2 → v1 + v2 ≤ x) := by
  have hex := h.ex
  have hp := h.p2
  have hl := h.le
  have ha : 1 ≤ a1 := by
    rcases Nat.eq_zero_or_pos a1 with e0 | e0
    · have : a2 = 0 := by omega
      rw [e0, this, Nat.mul_zero, Nat.mul_zero] at hex; omega
    · exact e0
  have m1 : v2 * 1 ≤ v2 * a1 := Nat.mul_le_mul_left _ ha
  have m2 : 1 * a1 ≤ v2 * a1 := Nat.mul_le_mul_right _ hp
  have huv := h.uv2
  have h3 : v1 ≤ x ∧ u1 ≤ x ∧ v0 ≤ x ∧ u0 ≤ y := by
    rcases Nat.eq_zero_or_pos k with e0 | e0
    · obtain ⟨a, b, c, d, _⟩ := h.k0 e0
      omega
    · obtain ⟨g1, g2, g3, g4, a0, g5, g6, g7, g8⟩ := h.k1 e0
      have m3 : 1 * a0 ≤ v1 * a0 := Nat.mul_le_mul_right _ g3
      have m4 : u0 * 1 ≤ u0 * a1 := Nat.mul_le_mul_left _ ha
      omega
  refine ⟨by omega, ha, by omega, h3.1, by omega, h3.2.1, h3.2.2.1, h3.2.2.2, fun h4 => ?_⟩
  have m5 : v1 * 1 ≤ v1 * a2 := Nat.mul_le_mul_left _ h4
  omega

theorem lehmerSimulate_c {w : World} {K : Nat → Prop} {S : Nat → Option Zn} {D : Nat → Option Nat} (h : Sto w K S D) {A B na nb : Nat} {sa sb : Bool} (hA : S A = some (sa, na)) (hB : S B = some (sb, nb)) (hle : nb ≤ na) (hb : BW ≤ nb) (ha : na < BW ^ 100) :
    CallX P 132 #[pI A, pI B] w fun v w' => ∃ u0 u1 v0 v1 e, v = .tuple #[vw u0, vw u1, vw v0, vw v1, .bool e] ∧ u0 < BW ∧ u1 < BW ∧ v0 < BW ∧ v1 < BW ∧ LS na nb u0 u1 v0 v1 e ∧ Fm (fun _ => False) w w' := by
  obtain ⟨va, la, ca, oa, noa, ea⟩ := (h.int A _ hA).all
  obtain ⟨vb, lb, cb, ob, nob, eb⟩ := (h.int B _ hB).all
  dsimp only at *
  have two : ∀ {l : List Nat}, WF l → BW ≤ nv l → 1 < l.length := fun {l} hw h => by
    rcases Nat.lt_or_ge 1 l.length with h1 | h1
    · exact h1
    · have h2 := nv_lt hw
      have h3 : BW ^ l.length ≤ BW ^ 1 := pow_le_pow h1
      rw [Nat.pow_one] at h3
      omega
  have hla := nv_len noa (by rw [ea]; exact ha)
  have hla2 := two oa.wf (by rw [ea]; omega)
  have hlb2 := two ob.wf (by rw [eb]; omega)
  have hlab : lb.length ≤ la.length := by
    rcases Nat.lt_or_ge la.length lb.length with h5 | h5
    · have := nv_lt_of_length oa.wf nob h5; omega
    · exact h5
  obtain ⟨ba, kA, _, rfl, ra, _, _⟩ := oa.rd (by intro e; rw [e] at hla2; simp at hla2)
  obtain ⟨bb, kB, _, rfl, rb, _, _⟩ := ob.rd (by intro e; rw [e] at hlb2; simp at hlb2)
  obtain ⟨n, hn⟩ : ∃ n, la.length = n + 2 := ⟨la.length - 2, by omega⟩
  have htop : dg la (n + 1) ≠ 0 := by
    have := noa.resolve_left (by intro e; rw [e] at hla2; simp at hla2)
    rwa [show la.length - 1 = n + 1 by omega] at this
  have hs64 := lz_lt htop
  obtain ⟨_, hsB⟩ := lz_mul htop (oa.wf.dg _)
  generalize hsh : lz (dg la (n + 1)) = s at *
  obtain ⟨ea1, hea1, hna⟩ := top_split (n := n) (h := s) oa.wf (by omega) (by omega)
  obtain ⟨eb1, heb1, hnb⟩ := top_split (n := n) (h := s) ob.wf (by omega) (by omega)
  have hwa := oa.wf.dg n
  have hwb := ob.wf.dg n
  have pad : ∀ (l : List Nat) (i : Nat), nv (l.take (i + 1)) = nv (l.take i) + BW ^ i * dg l i := by
    intro l i
    rcases Nat.lt_or_ge i l.length with h | h
    · exact nv_take_succ h
    · rw [List.take_of_length_le (by omega), List.take_of_length_le h, dg_ge h]; simp
  have hwab : dg lb (n + 1) ≤ dg la (n + 1) := by
    rcases Nat.lt_or_ge (dg la (n + 1)) (dg lb (n + 1)) with h5 | h5
    · exfalso
      have e1 := pad la (n + 1)
      have e2 := pad lb (n + 1)
      rw [List.take_of_length_le (by omega)] at e1 e2
      have h6 := nv_lt (oa.wf.take (n + 1))
      rw [List.length_take, Nat.min_eq_left (by omega)] at h6
      have h7 : BW ^ (n + 1) * (dg la (n + 1) + 1) ≤ BW ^ (n + 1) * dg lb (n + 1) := Nat.mul_le_mul_left _ h5
      rw [Nat.mul_add, Nat.mul_one] at h7
      generalize BW ^ (n + 1) * dg lb (n + 1) = k1 at *
      generalize BW ^ (n + 1) * dg la (n + 1) = k2 at *
      generalize BW ^ (n + 1) = k3 at *
      omega
    · exact h5
  have hsB2 : dg lb (n + 1) * 2 ^ s < BW := Nat.lt_of_le_of_lt (Nat.mul_le_mul_right _ hwab) hsB
  have hyx : dg lb (n + 1) * 2 ^ s + dg lb n / 2 ^ (64 - s) ≤ dg la (n + 1) * 2 ^ s + dg la n / 2 ^ (64 - s) := by
    rcases Nat.lt_or_ge (dg la (n + 1) * 2 ^ s + dg la n / 2 ^ (64 - s)) (dg lb (n + 1) * 2 ^ s + dg lb n / 2 ^ (64 - s)) with h5 | h5
    · exfalso
      have h9 := hle
      rw [← ea, ← eb, hna, hnb] at h9
      clear hsB2 hwab pad hwa hwb hsB hna hnb
      generalize dg lb (n + 1) * 2 ^ s + dg lb n / 2 ^ (64 - s) = y at *
      generalize dg la (n + 1) * 2 ^ s + dg la n / 2 ^ (64 - s) = x at *
      generalize BW ^ n * 2 ^ (64 - s) = T at *
      have h7 : T * (x + 1) ≤ T * y := Nat.mul_le_mul_left _ h5
      rw [Nat.mul_add, Nat.mul_one] at h7
      omega
    · exact h5
  have hxw := top_word (h := s) (by omega) hsB hwa
  have hyw := top_word (h := s) (by omega) hsB2 hwb
  have hxB : dg la (n + 1) * 2 ^ s + dg la n / 2 ^ (64 - s) < BW := by
    rw [← hxw]; exact Nat.or_lt_two_pow (n := 64) (Nat.mod_lt _ (by omega)) (Nat.lt_of_le_of_lt (Nat.div_le_self _ _) hwa)
  have hx0 : 0 < dg la (n + 1) * 2 ^ s + dg la n / 2 ^ (64 - s) := Nat.add_pos_left (Nat.mul_pos (Nat.pos_of_ne_zero htop) (Nat.pow_pos (by omega))) _
  refine calls_vc mo fn_132 rfl ok_132 (Nat.le_of_ble_eq_true rfl) nm_132 ?_
  (refine vsr ?_)
  (repeat refine vcl_v _ rfl rfl ?_); (refine vcl_end ?_)
  (refine vsr ?_)
  (repeat refine vcl_v _ rfl rfl ?_); (refine vcl_end ?_)
  refine rnA (fa fo_56_1 _ _) ?_
  refine rnL na_54 cb rfl ?_
  refine ⟨_, _, ln se_54 _ _ _ _ _ _, ?_⟩
  refine rnA (fa fo_56_1 _ _) ?_
  refine rnL na_54 ca rfl ?_
  refine ⟨_, _, ln se_54 _ _ _ _ _ _, ?_⟩
  refine rnA (fa fo_56_1 _ _) ?_
  refine rnL na_54 ca rfl ?_
  refine ⟨_, nSub la.length 1 (by omega) (by omega), ?_⟩
  refine rnA (ia se_54 _ (by omega)) ?_
  refine rnC na_101 (ra.cell (by omega)) ?_
  rw [show la.length - 1 = n + 1 by omega]
  refine (nlz_c _ (oa.wf.dg _) w).mono ?_
  rintro v w0 ⟨rfl, rfl⟩
  rw [hsh]
  (repeat refine vcl_v _ rfl rfl ?_); (refine vcl_end ?_)
  refine ⟨.take 0 (.take 1 (.take 2 (.take 3 (.take 4 (.take 5 (.take 6 (.take 7 (.take 8 (.take 9 (.take 10 (.take 11 (.take 12 (.take 13 (.take 14 (.take 15 (.take 16 (.take 17 (.take 18 (.take 19 (.take 20 (.take 21 (.take 22 (.done))))))))))))))))))))))), by kernel_rfl, ?_⟩
  refine tkA (fa fo_56_1 _ _) ?_
  refine tkL na_54 ca rfl ?_
  refine ⟨_, nSub la.length 1 (by omega) (by omega), ?_⟩
  refine tkA (ia se_54 _ (by omega)) ?_
  refine tkC na_101 (ra.cell (by omega)) ?_
  rw [show la.length - 1 = n + 1 by omega]
  refine ⟨_, wShl _ s _ (by omega), ?_⟩
  refine tkA (fa fo_56_1 _ _) ?_
  refine tkL na_54 ca rfl ?_
  refine ⟨_, nSub la.length 2 (by omega) (by omega), ?_⟩
  refine tkA (ia se_54 _ (by omega)) ?_
  refine tkC na_101 (ra.cell (by omega)) ?_
  rw [show la.length - 2 = n by omega]
  refine ⟨_, wSub' (x := 64) (y := s) (by omega) (by omega), ?_⟩
  refine ⟨_, wShr _ (64 - s) _ (by omega), ?_⟩
  refine ⟨_, wOr _ _ (Nat.mod_lt _ (by omega)) (Nat.lt_of_le_of_lt (Nat.div_le_self _ _) hwa), ?_⟩
  rw [hxw]
  generalize hx : dg la (n + 1) * 2 ^ s + dg la n / 2 ^ (64 - s) = x at *
  (repeat refine vcp_v _ rfl rfl rfl ?_); (refine vcp_end ?_)
  refine vcut (by repeat (first | exact moE _ _ _ | exact moEd _ _ _ | apply moB | apply moL | apply moV)) Unit (fun _ => ⟨[(9, vw x), (10, vw (dg lb (n + 1) * 2 ^ s + dg lb n / 2 ^ (64 - s)))], []⟩) (fun _ u => Fm (fun _ => False) w u) ?_ ?_
  · have hFd : Fm (fun _ => False) w w.drew := Fm.drew _ _
    have cb1 := hFd.obj cb (fun h => h)
    have rb1 := rb.drew
    refine vbk ?_
    rcases Nat.lt_or_ge (n + 1) lb.length with h1 | h1
    · have hl2 : lb.length = n + 2 := by omega
      refine ⟨_, bEq (by omega), ?_⟩
      refine ⟨fun _ => ?_, fun hc => (by cases hc)⟩
      refine ⟨.take 0 (.take 1 (.take 2 (.take 3 (.take 4 (.take 5 (.take 6 (.take 7 (.take 8 (.take 9 (.take 10 (.take 11 (.take 12 (.take 13 (.take 14 (.take 15 (.take 16 (.take 17 (.take 18 (.take 19 (.take 20 (.take 21 (.take 22 (.done))))))))))))))))))))))), by kernel_rfl, ?_⟩
      refine tkA (fa fo_56_1 _ _) ?_
      refine tkL na_54 cb rfl ?_
      refine ⟨_, nSub la.length 1 (by omega) (by omega), ?_⟩
      refine tkA (ia se_54 _ (by omega)) ?_
      refine tkC na_101 (rb.cell (by omega)) ?_
      rw [show la.length - 1 = n + 1 by omega]
      refine ⟨_, wShl _ s _ (by omega), ?_⟩
      refine tkA (fa fo_56_1 _ _) ?_
      refine tkL na_54 cb rfl ?_
      refine ⟨_, nSub la.length 2 (by omega) (by omega), ?_⟩
      refine tkA (ia se_54 _ (by omega)) ?_
      refine tkC na_101 (rb.cell (by omega)) ?_
      rw [show la.length - 2 = n by omega]
      refine ⟨_, wSub' (x := 64) (y := s) (by omega) (by omega), ?_⟩
      refine ⟨_, wShr _ (64 - s) _ (by omega), ?_⟩
      refine ⟨_, wOr _ _ (Nat.mod_lt _ (by omega)) (Nat.lt_of_le_of_lt (Nat.div_le_self _ _) hwb), ?_⟩
      rw [hyw]
      exact ⟨(), ⟨⟨rfl, rfl, trivial⟩, rfl⟩, (Fm.refl _ _).dr.dr⟩
    · have hd1 : dg lb (n + 1) = 0 := dg_ge h1
      refine ⟨_, bEqF (by omega), ?_⟩
      refine ⟨fun hc => (by cases hc), fun _ => ?_⟩
      refine ⟨_, nAdd lb.length 1 (by omega), ?_⟩
      rcases Nat.lt_or_ge n lb.length with h2 | h2
      · refine ⟨_, bEq (by omega), ?_⟩
        refine ⟨fun _ => ?_, fun hc => (by cases hc)⟩
        refine rnA (fa fo_56_1 _ _) ?_
        refine rnL na_54 cb1 rfl ?_
        refine ⟨_, nSub la.length 2 (by omega) (by omega), ?_⟩
        refine rnA (ia se_54 _ (by omega)) ?_
        refine rnC na_101 (rb1.cell (by omega)) ?_
        rw [show la.length - 2 = n by omega]
        refine ⟨_, wSub' (x := 64) (y := s) (by omega) (by omega), ?_⟩
        refine ⟨_, wShr _ (64 - s) _ (by omega), ?_⟩
        refine ⟨(), ⟨⟨rfl, ?_, trivial⟩, rfl⟩, hFd⟩
        have e9 : dg lb (n + 1) * 2 ^ s + dg lb n / 2 ^ (64 - s) = dg lb n / 2 ^ (64 - s) := by rw [hd1, Nat.zero_mul, Nat.zero_add]
        show some (vw (dg lb n / 2 ^ (64 - s))) = some (vw (dg lb (n + 1) * 2 ^ s + dg lb n / 2 ^ (64 - s)))
        rw [e9]
      · have hd0 : dg lb n = 0 := dg_ge h2
        refine ⟨_, bEqF (by omega), ?_⟩
        refine ⟨fun hc => (by cases hc), fun _ => ?_⟩
        refine ⟨(), ⟨⟨rfl, ?_, trivial⟩, rfl⟩, hFd⟩
        have e9 : dg lb (n + 1) * 2 ^ s + dg lb n / 2 ^ (64 - s) = 0 := by rw [hd1, hd0, Nat.zero_mul, Nat.zero_add, Nat.zero_div]
        show some (vw 0) = some (vw (dg lb (n + 1) * 2 ^ s + dg lb n / 2 ^ (64 - s)))
        rw [e9]
  generalize hy : dg lb (n + 1) * 2 ^ s + dg lb n / 2 ^ (64 - s) = y at *
  rintro _ u hF
  (refine vsr ?_)
  (repeat refine vcl_v _ rfl rfl ?_); (refine vcl_end ?_)
  (refine vsr ?_)
  (repeat refine vcl_v _ rfl rfl ?_); (refine vcl_end ?_)
  (refine vsr ?_)
  (repeat refine vcl_v _ rfl rfl ?_); (refine vcl_end ?_)
  refine vloop (Nat × Nat × Nat × Nat × Nat × Nat × Nat × Nat × Nat × Bool) (fun p => ⟨[(9, vw p.2.1), (10, vw p.2.2.1), (4, vw p.2.2.2.1), (5, vw p.2.2.2.2.1), (11, vw p.2.2.2.2.2.1), (6, vw p.2.2.2.2.2.2.1), (7, vw p.2.2.2.2.2.2.2.1), (12, vw p.2.2.2.2.2.2.2.2.1), (8, .bool p.2.2.2.2.2.2.2.2.2)], []⟩)
    (fun p u => Sim x y p.1 p.2.1 p.2.2.1 p.2.2.2.1 p.2.2.2.2.1 p.2.2.2.2.2.1 p.2.2.2.2.2.2.1 p.2.2.2.2.2.2.2.1 p.2.2.2.2.2.2.2.2.1 p.2.2.2.2.2.2.2.2.2 ∧ Fm (fun _ => False) w u) (fun p => p.2.2.1) (0, x, y, 0, 1, 0, 0, 0, 1, false)
    ⟨⟨rfl, rfl, rfl, rfl, rfl, rfl, rfl, rfl, rfl, trivial⟩, rfl⟩ ⟨Sim.start hyx, hF⟩ ?_
  rintro ⟨k, a1, a2, u0, u1, u2, v0, v1, v2, e⟩ u ⟨hS, hF⟩
  dsimp only at hS ⊢
  have hbd := hS.bounds hx0
  have hBe : BW = 18446744073709551616 := rfl
  have hp2 := hS.p2
  have hle2 := hS.le
  have hfin : ∃ u0' u1' v0' v1' e', (Value.tuple #[vw u0, vw u1, vw v0, vw v1, .bool e]) = .tuple #[vw u0', vw u1', vw v0', vw v1', .bool e'] ∧ u0' < BW ∧ u1' < BW ∧ v0' < BW ∧ v1' < BW ∧ LS na nb u0' u1' v0' v1' e' ∧ Fm (fun _ => False) w u := by
    refine ⟨u0, u1, v0, v1, e, rfl, by omega, by omega, by omega, by omega, ?_, hF⟩
    have := hS.done (T := BW ^ n * 2 ^ (64 - s)) hea1 heb1
    rwa [← hna, ← hnb, ea, eb] at this
  rcases Nat.lt_or_ge a2 v2 with c1 | c1
  · refine ⟨_, bGeF (by omega), ?_⟩
    refine ⟨fun hc => (by cases hc), fun _ => ?_⟩
    exact ⟨rfl, hfin⟩
  refine ⟨_, bGe (by omega), ?_⟩
  refine ⟨_, wSub' (x := a1) (y := a2) hle2 (by omega), ?_⟩
  refine ⟨_, wAdd' (x := v1) (y := v2) (by omega), ?_⟩
  rcases Nat.lt_or_ge (a1 - a2) (v1 + v2) with c2 | c2
  · refine ⟨_, bGeF (by omega), ?_⟩
    refine ⟨fun hc => (by cases hc), fun _ => ?_⟩
    exact ⟨rfl, hfin⟩
  refine ⟨_, bGe (by omega), ?_⟩
  refine ⟨fun _ => ?_, fun hc => (by cases hc)⟩
  have hN := hS.step c1 (by omega)
  have hnb2 := hN.bounds hx0
  have huv := hN.uv2
  have ha2 : a2 ≠ 0 := by omega
  (refine sqn ?_)
  refine vbk ?_
  refine ⟨.take 0 (.take 1 (.take 2 (.take 3 (.take 4 (.take 5 (.take 6 (.take 7 (.done)))))))), by kernel_rfl, ?_⟩
  refine ⟨_, wQuo a1 a2 ha2 (by omega), ?_⟩
  refine ⟨_, wRem a1 a2 ha2, ?_⟩
  have hmd := Nat.mod_lt a1 (Nat.pos_of_ne_zero ha2)
  generalize a1 / a2 = q at *
  generalize a1 % a2 = rr at *
  refine ⟨_, wMul q u2, ?_⟩
  have m1 : (q * u2) % 18446744073709551616 = q * u2 := Nat.mod_eq_of_lt (by omega)
  rw [m1]
  refine ⟨_, wAdd' (x := u1) (y := q * u2) (by omega), ?_⟩
  refine ⟨_, wMul q v2, ?_⟩
  have m2 : (q * v2) % 18446744073709551616 = q * v2 := Nat.mod_eq_of_lt (by omega)
  rw [m2]
  refine ⟨_, wAdd' (x := v1) (y := q * v2) (by omega), ?_⟩
  exact ⟨(k + 1, a2, rr, u1, u2, u1 + q * u2, v1, v2, v1 + q * v2, !e), ⟨⟨rfl, rfl, rfl, rfl, rfl, rfl, rfl, rfl, rfl, trivial⟩, rfl⟩, ⟨hN, hF.dr⟩, hmd⟩

end Go.Vc
end

section
/- The cosequences of a greatest common divisor: the plain laws. No program. -/
set_option linter.unusedSimpArgs false
set_option linter.unusedVariables false
namespace Go.Vc

/-- A and B stand for a and b; U and V tell how many a's are in them. -/
structure Cs (a b A B : Nat) (U V : Int) : Prop where
  gcd : Nat.gcd A B = Nat.gcd a b
  lin : ∃ k l : Int, (A : Int) = U * a + k * b ∧ (B : Int) = V * a + l * b
  bnd : ∃ s : Bool, 0 ≤ sg s * U ∧ sg s * V ≤ 0 ∧ sg s * U * B - sg s * V * A = (b : Int)

theorem Cs.start (a b : Nat) : Cs a b a b 1 0 :=
  ⟨rfl, ⟨0, 1, by omega, by omega⟩, ⟨false, by simp [sg], by simp [sg], by simp [sg]⟩⟩

theorem Cs.swap (a b : Nat) : Cs a b b a 0 1 :=
  ⟨Nat.gcd_comm b a, ⟨1, 0, by omega, by omega⟩, ⟨true, by simp [sg], by simp [sg], by simp [sg]⟩⟩

theorem sg_not (s : Bool) : sg (!s) = - sg s := by cases s <;> rfl

theorem Cs.euclid {a b A B : Nat} {U V : Int} (h : Cs a b A B U V) : Cs a b B (A % B) V (U - ((A / B : Nat) : Int) * V) := by
  obtain ⟨hg, ⟨k, l, h1, h2⟩, s, s1, s2, s3⟩ := h
  have hd := Nat.div_add_mod A B
  have hdi : (A : Int) = (B : Int) * ((A / B : Nat) : Int) + ((A % B : Nat) : Int) := by
    rw [← Int.natCast_mul, ← Int.natCast_add, hd]
  refine ⟨?_, ⟨l, k - ((A / B : Nat) : Int) * l, h2, ?_⟩, !s, ?_, ?_, ?_⟩
  · rw [← hg, Nat.gcd_comm A B, Nat.gcd_rec B A, Nat.gcd_comm]
  · have e : ((A % B : Nat) : Int) = (A : Int) - (B : Int) * ((A / B : Nat) : Int) := by omega
    have e2 : (B : Int) * ((A / B : Nat) : Int) = ((A / B : Nat) : Int) * (V * (a : Int)) + ((A / B : Nat) : Int) * (l * (b : Int)) := by
      rw [Int.mul_comm, ← Int.mul_add, ← h2]
    rw [e, h1, e2, Int.sub_mul, Int.sub_mul, Int.mul_assoc, Int.mul_assoc]
    omega
  · rw [sg_not, Int.neg_mul]; omega
  · rw [sg_not, Int.mul_sub, Int.neg_mul, Int.neg_mul]
    have hq : (0 : Int) ≤ ((A / B : Nat) : Int) := Int.natCast_nonneg _
    have := Int.mul_nonneg hq (show 0 ≤ -(sg s * V) by omega)
    rw [Int.mul_neg, Int.mul_left_comm] at this
    omega
  · rw [sg_not]
    rw [hdi] at s3
    generalize ((A / B : Nat) : Int) = q at *
    generalize ((A % B : Nat) : Int) = r at *
    simp only [Int.sub_mul, Int.add_mul, Int.mul_sub, Int.mul_add, Int.neg_mul, Int.mul_neg, Int.mul_assoc] at s3 ⊢
    have e1 : sg s * (V * ((B : Int) * q)) = sg s * (q * (V * (B : Int))) := by
      congr 1
      rw [Int.mul_comm q, Int.mul_assoc]
    rw [e1] at s3
    omega

theorem gcd_row {A B A' B' p q r s p' q' r' s' : Nat} (h1 : A' + q * B = p * A ∨ A' + p * A = q * B) (h2 : B' + r * A = s * B ∨ B' + s * B = r * A) (iA : A = p' * A' + q' * B') (iB : B = r' * A' + s' * B') : Nat.gcd A' B' = Nat.gcd A B := by
  have a1 := Nat.gcd_dvd_left A B
  have a2 := Nat.gcd_dvd_right A B
  have b1 := Nat.gcd_dvd_left A' B'
  have b2 := Nat.gcd_dvd_right A' B'
  refine Nat.dvd_antisymm (Nat.dvd_gcd ?_ ?_) (Nat.dvd_gcd ?_ ?_)
  · rw [iA]; exact Nat.dvd_add (Nat.dvd_trans b1 (Nat.dvd_mul_left _ _)) (Nat.dvd_trans b2 (Nat.dvd_mul_left _ _))
  · conv => rhs; rw [iB]
    exact Nat.dvd_add (Nat.dvd_trans b1 (Nat.dvd_mul_left _ _)) (Nat.dvd_trans b2 (Nat.dvd_mul_left _ _))
  · rcases h1 with h | h
    · exact (Nat.dvd_add_right (Nat.dvd_trans a2 (Nat.dvd_mul_left B q))).1 (by rw [Nat.add_comm, h]; exact Nat.dvd_trans a1 (Nat.dvd_mul_left _ _))
    · exact (Nat.dvd_add_right (Nat.dvd_trans a1 (Nat.dvd_mul_left A p))).1 (by rw [Nat.add_comm, h]; exact Nat.dvd_trans a2 (Nat.dvd_mul_left _ _))
  · rcases h2 with h | h
    · exact (Nat.dvd_add_right (Nat.dvd_trans a1 (Nat.dvd_mul_left A r))).1 (by rw [Nat.add_comm, h]; exact Nat.dvd_trans a2 (Nat.dvd_mul_left _ _))
    · exact (Nat.dvd_add_right (Nat.dvd_trans a2 (Nat.dvd_mul_left B s))).1 (by rw [Nat.add_comm, h]; exact Nat.dvd_trans a1 (Nat.dvd_mul_left _ _))

theorem comb {A B A' p q U V a b k l : Int} (h : A' + q * B = p * A) (hA : A = U * a + k * b) (hB : B = V * a + l * b) : A' = (U * p - V * q) * a + (k * p - l * q) * b := by
  have e : A' = p * A - q * B := by omega
  rw [e, hA, hB, Int.mul_add, Int.mul_add, Int.sub_mul, Int.sub_mul]
  have x1 : p * (U * a) = U * p * a := by rw [← Int.mul_assoc, Int.mul_comm p U]
  have x2 : p * (k * b) = k * p * b := by rw [← Int.mul_assoc, Int.mul_comm p k]
  have x3 : q * (V * a) = V * q * a := by rw [← Int.mul_assoc, Int.mul_comm q V]
  have x4 : q * (l * b) = l * q * b := by rw [← Int.mul_assoc, Int.mul_comm q l]
  omega

theorem cross {X Y A B A' B' u0 u1 v0 v1 c : Int} (h : X * B - Y * A = c) (iA : A = v1 * A' + v0 * B') (iB : B = u1 * A' + u0 * B') : (X * u0 - Y * v0) * B' - (Y * v1 - X * u1) * A' = c := by
  rw [← h, iA, iB, Int.mul_add, Int.mul_add, Int.sub_mul, Int.sub_mul, Int.mul_assoc, Int.mul_assoc, Int.mul_assoc, Int.mul_assoc]
  omega

theorem Cs.lehmer {a b A B A' B' u0 u1 v0 v1 : Nat} {U V : Int} {e : Bool} (h : Cs a b A B U V) (hr : if e then A' + v0 * B = u0 * A ∧ B' + u1 * A = v1 * B else A' + u0 * A = v0 * B ∧ B' + v1 * B = u1 * A)
    (iA : A = v1 * A' + v0 * B') (iB : B = u1 * A' + u0 * B') : Cs a b A' B' (sg (!e) * (U * (u0 : Int)) + sg e * (V * (v0 : Int))) (sg (!e) * (V * (v1 : Int)) + sg e * (U * (u1 : Int))) := by
  obtain ⟨hg, ⟨k, l, h1, h2⟩, s, s1, s2, s3⟩ := h
  have iA' : (A : Int) = (v1 : Int) * (A' : Int) + (v0 : Int) * (B' : Int) := by rw [iA]; simp
  have iB' : (B : Int) = (u1 : Int) * (A' : Int) + (u0 : Int) * (B' : Int) := by rw [iB]; simp
  have hc := cross s3 iA' iB'
  have nn : ∀ (n : Nat) {x : Int}, 0 ≤ x → 0 ≤ x * (n : Int) := fun n x hx => Int.mul_nonneg hx (Int.natCast_nonneg n)
  have np : ∀ (n : Nat) {x : Int}, x ≤ 0 → x * (n : Int) ≤ 0 := fun n x hx => by
    have := nn n (show 0 ≤ -x by omega)
    rw [Int.neg_mul] at this
    omega
  have p1 := nn u0 s1
  have p2 := nn u1 s1
  have p3 := np v0 s2
  have p4 := np v1 s2
  cases e with
  | true =>
    simp only [if_true] at hr
    obtain ⟨r1, r2⟩ := hr
    have q1 : (A' : Int) + (v0 : Int) * (B : Int) = (u0 : Int) * (A : Int) := by have := congrArg (Nat.cast (R := Int)) r1; simpa using this
    have q2 : (B' : Int) + (u1 : Int) * (A : Int) = (v1 : Int) * (B : Int) := by have := congrArg (Nat.cast (R := Int)) r2; simpa using this
    have eU : sg (!true) * (U * (u0 : Int)) + sg true * (V * (v0 : Int)) = U * u0 - V * v0 := by simp [sg]; omega
    have eV : sg (!true) * (V * (v1 : Int)) + sg true * (U * (u1 : Int)) = V * v1 - U * u1 := by simp [sg]; omega
    rw [eU, eV]
    have m1 : sg s * (U * u0 - V * v0) = sg s * U * u0 - sg s * V * v0 := by rw [Int.mul_sub, ← Int.mul_assoc, ← Int.mul_assoc]
    have m2 : sg s * (V * v1 - U * u1) = sg s * V * v1 - sg s * U * u1 := by rw [Int.mul_sub, ← Int.mul_assoc, ← Int.mul_assoc]
    refine ⟨by rw [← hg]; exact gcd_row (.inl r1) (.inl r2) iA iB, ⟨_, _, comb q1 h1 h2, comb q2 h2 h1⟩, s, ?_, ?_, ?_⟩
    · rw [m1]; omega
    · rw [m2]; omega
    · rw [m1, m2]; exact hc
  | false =>
    simp only [Bool.false_eq_true, if_false] at hr
    obtain ⟨r1, r2⟩ := hr
    have q1 : (A' : Int) + (u0 : Int) * (A : Int) = (v0 : Int) * (B : Int) := by have := congrArg (Nat.cast (R := Int)) r1; simpa using this
    have q2 : (B' : Int) + (v1 : Int) * (B : Int) = (u1 : Int) * (A : Int) := by have := congrArg (Nat.cast (R := Int)) r2; simpa using this
    have eU : sg (!false) * (U * (u0 : Int)) + sg false * (V * (v0 : Int)) = V * v0 - U * u0 := by simp [sg]; omega
    have eV : sg (!false) * (V * (v1 : Int)) + sg false * (U * (u1 : Int)) = U * u1 - V * v1 := by simp [sg]; omega
    rw [eU, eV]
    have m1 : sg (!s) * (V * v0 - U * u0) = sg s * U * u0 - sg s * V * v0 := by rw [sg_not, Int.mul_sub, Int.neg_mul, Int.neg_mul, ← Int.mul_assoc, ← Int.mul_assoc]; omega
    have m2 : sg (!s) * (U * u1 - V * v1) = sg s * V * v1 - sg s * U * u1 := by rw [sg_not, Int.mul_sub, Int.neg_mul, Int.neg_mul, ← Int.mul_assoc, ← Int.mul_assoc]; omega
    refine ⟨by rw [← hg]; exact gcd_row (.inr r1) (.inr r2) iA iB, ⟨_, _, comb q1 h2 h1, comb q2 h1 h2⟩, !s, ?_, ?_, ?_⟩
    · rw [m1]; omega
    · rw [m2]; omega
    · rw [m1, m2]; exact hc

theorem LS.less {A B A' B' u0 u1 v0 v1 : Nat} (iA : A = v1 * A' + v0 * B') (iB : B = u1 * A' + u0 * B') (h1 : 1 ≤ u1) (h2 : 1 ≤ v1) (h3 : v0 ≠ 0) (h4 : 1 ≤ B') (h5 : B' ≤ A') : A' + B' < A + B := by
  have m1 : 1 * A' ≤ v1 * A' := Nat.mul_le_mul_right _ h2
  have m2 : 1 * B' ≤ v0 * B' := Nat.mul_le_mul_right _ (Nat.pos_of_ne_zero h3)
  have m3 : 1 * A' ≤ u1 * A' := Nat.mul_le_mul_right _ h1
  omega

theorem Cs.sizeV {a b A B : Nat} {U V : Int} (h : Cs a b A B U V) (hA : 1 ≤ A) : V.natAbs ≤ b := by
  obtain ⟨_, _, s, s1, s2, s3⟩ := h
  have h1 : 0 ≤ sg s * U * (B : Int) := Int.mul_nonneg s1 (Int.natCast_nonneg _)
  have h2 : -(sg s * V) * 1 ≤ -(sg s * V) * (A : Int) := Int.mul_le_mul_of_nonneg_left (by omega) (by omega)
  rw [Int.neg_mul, Int.neg_mul] at h2
  cases s with
  | true => simp only [sg, if_true] at *; omega
  | false => simp only [sg, Bool.false_eq_true, if_false] at *; omega

theorem Cs.sizeU {a b A B : Nat} {U V : Int} (h : Cs a b A B U V) (hB : 1 ≤ B) : U.natAbs ≤ b := by
  obtain ⟨_, _, s, s1, s2, s3⟩ := h
  have h1 : 0 ≤ -(sg s * V) * (A : Int) := Int.mul_nonneg (by omega) (Int.natCast_nonneg _)
  have h2 : sg s * U * 1 ≤ sg s * U * (B : Int) := Int.mul_le_mul_of_nonneg_left (by omega) s1
  rw [Int.neg_mul] at h1
  cases s with
  | true => simp only [sg, if_true] at *; omega
  | false => simp only [sg, Bool.false_eq_true, if_false] at *; omega

/-- The words' own loop: a and b stand for x and y. -/
structure Wr (x y a b ua ub va vb : Nat) (e : Bool) : Prop where
  r1 : if e then a + va * y = ua * x else a + ua * x = va * y
  r2 : if e then b + ub * x = vb * y else b + vb * y = ub * x
  ex : x = vb * a + va * b
  ey : y = ub * a + ua * b
  gcd : Nat.gcd a b = Nat.gcd x y
  le : b ≤ a
  a1 : 1 ≤ a
  v1 : 1 ≤ vb
  yx : y ≤ x
  ux : ua ≤ x
  vx : va ≤ x

theorem Wr.start {x y : Nat} (h : y ≤ x) (h1 : 1 ≤ x) : Wr x y x y 1 0 0 1 true :=
  ⟨by simp, by simp, by simp, by simp, rfl, h, h1, by omega, h, h1, by omega⟩

theorem Wr.bounds {x y a b ua ub va vb : Nat} {e : Bool} (h : Wr x y a b ua ub va vb e) : vb ≤ x ∧ ub ≤ x := by
  have e1 := h.ex
  have e2 := h.ey
  have hyx := h.yx
  have m1 : vb * 1 ≤ vb * a := Nat.mul_le_mul_left _ h.a1
  have m2 : ub * 1 ≤ ub * a := Nat.mul_le_mul_left _ h.a1
  exact ⟨by omega, by omega⟩

theorem Wr.step {x y a b ua ub va vb : Nat} {e : Bool} (h : Wr x y a b ua ub va vb e) (hb : b ≠ 0) : Wr x y b (a % b) ub (ua + a / b * ub) vb (va + a / b * vb) (!e) := by
  have hbp := Nat.pos_of_ne_zero hb
  have hd := Nat.div_add_mod a b
  have hm := Nat.mod_lt a hbp
  have hq : 1 ≤ a / b := (Nat.le_div_iff_mul_le hbp).2 (by have := h.le; omega)
  have h1 := h.r1
  have h2 := h.r2
  have hg := h.gcd
  have hv := h.v1
  have hgr : Nat.gcd b (a % b) = Nat.gcd a b := by rw [Nat.gcd_comm a b, Nat.gcd_rec b a, Nat.gcd_comm]
  generalize a / b = q at *
  generalize a % b = r at *
  have hge : vb ≤ q * vb := by
    have := Nat.mul_le_mul_right vb hq
    rwa [Nat.one_mul] at this
  refine ⟨?_, ?_, ?_, ?_, by rw [hgr, hg], by omega, by omega, by omega, h.yx, h.bounds.2, h.bounds.1⟩
  · cases e with
    | true => simpa using h2
    | false => simpa using h2
  · cases e with
    | true =>
      simp only [if_true] at h1 h2
      simp only [Bool.not_true, Bool.false_eq_true, if_false]
      exact row_step hd h1 h2
    | false =>
      simp only [Bool.false_eq_true, if_false] at h1 h2
      simp only [Bool.not_false, if_true]
      exact row_step hd h1 h2
  · rw [h.ex]; exact ex_step hd
  · rw [h.ey]; exact ex_step hd

end Go.Vc
end
