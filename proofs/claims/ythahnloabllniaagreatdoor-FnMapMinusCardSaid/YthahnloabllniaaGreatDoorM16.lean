/- lehmerGCD: the walk. -/
import Derived.Test.YthahnloabllniaaGreatDoorM15
section
set_option linter.unusedSimpArgs false
set_option linter.unusedVariables false
set_option maxRecDepth 8000
set_option maxHeartbeats 2000000
namespace Go.Vc
open Go.Proofs

theorem zi_nat (n : Nat) : zi (n : Int) = (false, n) := by simp [zi]

theorem iv_abs (x : Zn) : (iv x).natAbs = x.2 := by
  obtain ⟨s, n⟩ := x
  cases s <;> simp [iv]

theorem ls_val {e : Bool} {A B A' B' u0 u1 v0 v1 : Nat} (hr : if e then A' + v0 * B = u0 * A ∧ B' + u1 * A = v1 * B else A' + u0 * A = v0 * B ∧ B' + v1 * B = u1 * A) :
    sg (!e) * (iv (false, A) * (u0 : Int)) + sg e * (iv (false, B) * (v0 : Int)) = (A' : Int) ∧ sg (!e) * (iv (false, B) * (v1 : Int)) + sg e * (iv (false, A) * (u1 : Int)) = (B' : Int) := by
  have iA : iv (false, A) = (A : Int) := rfl
  have iB : iv (false, B) = (B : Int) := rfl
  rw [iA, iB]
  have c1 : (A : Int) * (u0 : Int) = ((u0 * A : Nat) : Int) := by rw [Int.natCast_mul, Int.mul_comm]
  have c2 : (B : Int) * (v0 : Int) = ((v0 * B : Nat) : Int) := by rw [Int.natCast_mul, Int.mul_comm]
  have c3 : (B : Int) * (v1 : Int) = ((v1 * B : Nat) : Int) := by rw [Int.natCast_mul, Int.mul_comm]
  have c4 : (A : Int) * (u1 : Int) = ((u1 * A : Nat) : Int) := by rw [Int.natCast_mul, Int.mul_comm]
  rw [c1, c2, c3, c4]
  generalize u0 * A = k1 at *
  generalize v0 * B = k2 at *
  generalize v1 * B = k3 at *
  generalize u1 * A = k4 at *
  cases e with
  | true => simp only [if_true] at hr; simp only [sg, Bool.not_true, Bool.false_eq_true, if_false, if_true]; omega
  | false => simp only [Bool.false_eq_true, if_false] at hr; simp only [sg, Bool.not_false, Bool.false_eq_true, if_false, if_true]; omega

theorem oneW_ {l : List Nat} {m : Nat} (h : Nrm l) (hw : WF l) (e : nv l = m) (h1 : m < BW) (h0 : 1 ≤ m) : l.length = 1 ∧ dg l 0 = m := by
  have h2 : l.length ≤ 1 := nv_len h (by rw [e, Nat.pow_one]; exact h1)
  have h3 := nil_len h
  rw [e] at h3
  have h4 : l.length = 1 := by omega
  refine ⟨h4, ?_⟩
  obtain ⟨x, rfl⟩ := List.length_eq_one_iff.1 h4
  simpa [nv, dg] using e

/-- The state of the algorithm: six Ints of its own. -/
structure GS (w : World) (K : Nat → Prop) (S : Nat → Option Zn) (a b : Nat) (A B C E q r : Nat) (na nb : Nat) (U V : Int) (u : World) : Prop where
  all : ∃ S' D', Sto u K S' D' ∧ S' A = some (false, na) ∧ S' B = some (false, nb) ∧ (∃ zu, S' C = some zu ∧ iv zu = U) ∧ (∃ zv, S' E = some zv ∧ iv zv = V) ∧ S' q ≠ none ∧ S' r ≠ none ∧ ∀ p, p < w.heap.size → S' p = S p
  nd : [A, B, C, E, q, r].Nodup
  fr : w.heap.size ≤ A ∧ w.heap.size ≤ B ∧ w.heap.size ≤ C ∧ w.heap.size ≤ E ∧ w.heap.size ≤ q ∧ w.heap.size ≤ r
  fm : Fm (fun b => ¬ K b) w u
  cs : Cs a b na nb U V
  le : nb ≤ na
  a1 : 1 ≤ na
  sz : na < BW ^ 10
  su : U.natAbs ≤ b
  sv : V.natAbs ≤ b

theorem lehmerGCD_c {w : World} {K : Nat → Prop} {S : Nat → Option Zn} {D : Nat → Option Nat} (hg : Gl w) (hgk : ∀ {w' : World}, Fm (fun b => ¬ K b) w w' → Gl w') (h : Sto w K S D) {z x pa pb : Nat} {z0 x0 : Zn} {a b : Nat} (hz : S z = some z0) (hx : S x = some x0) (ha : S pa = some (false, a)) (hb : S pb = some (false, b)) (nzx : z ≠ x)
    (a1 : 1 ≤ a) (b1 : 1 ≤ b) (sa : a < BW ^ 10) (sb : b < BW ^ 10) :
    CallX P 102 #[pI z, pI x, .pointer none, pI pa, pI pb] w fun v w' => v = pI z ∧ ∃ S' D' zx, Sto w' K S' D' ∧ Fm (fun b => ¬ K b) w w' ∧ S' z = some (false, Nat.gcd a b) ∧ S' x = some zx ∧ zx.2 < BW ^ 12 ∧ (∃ k : Int, ((Nat.gcd a b : Nat) : Int) = iv zx * a + k * b) ∧
      ∀ p, p < w.heap.size → p ≠ z → p ≠ x → S' p = S p := by
  have ltS : ∀ {p : Nat} {v : Zn}, S p = some v → p < w.heap.size := fun hp => (h.int _ _ hp).lt
  refine calls_vc mo fn_102 rfl ok_102 (Nat.le_of_ble_eq_true rfl) nm_102 ?_
  (refine vsr ?_)
  (repeat refine vcl_v _ rfl rfl ?_); (refine vcl_end ?_)
  (refine vsr ?_)
  (repeat refine vcl_v _ rfl rfl ?_); (refine vcl_end ?_)
  (refine vsr ?_)
  obtain ⟨w1, e1, c1, f1, s1⟩ := nwI w
  refine ⟨_, w1, e1, ?_⟩
  obtain ⟨D1, h1⟩ := h.new c1 f1
  have A1 : upd S w.heap.size (false, 0) w.heap.size = some (false, 0) := upd_self
  have pa1 : upd S w.heap.size (false, 0) pa = some (false, a) := by rw [upd_ne (by have := ltS ha; omega)]; exact ha
  have o1 : ∀ p, p < w.heap.size → upd S w.heap.size (false, 0) p = S p := fun p hp => upd_ne (by omega)
  generalize upd S w.heap.size (false, 0) = S1 at *
  refine (abs_I h1 A1 pa1 (lt_pow sa (by omega))).mono ?_
  rintro _ w2 ⟨rfl, D2, h2, f2⟩
  dsimp only at h2
  have A2 : upd S1 w.heap.size (false, a) w.heap.size = some (false, a) := upd_self
  have o2 : ∀ p, p < w.heap.size → upd S1 w.heap.size (false, a) p = S p := fun p hp => by rw [upd_ne (by omega)]; exact o1 p hp
  generalize upd S1 w.heap.size (false, a) = S2 at *
  have F2 : Fm (fun b => ¬ K b) w w2 := (f1.mono (fun _ _ h => h.elim)).trans f2 (fun _ _ h => h)
  have z2 := f2.size
  (repeat refine vcl_v _ rfl rfl ?_); (refine vcl_end ?_)
  (refine vsr ?_)
  obtain ⟨w3, e3, c3, f3, s3⟩ := nwI w2
  refine ⟨_, w3, e3, ?_⟩
  obtain ⟨D3, h3⟩ := h2.new c3 f3
  have B3 : upd S2 w2.heap.size (false, 0) w2.heap.size = some (false, 0) := upd_self
  have A3 : upd S2 w2.heap.size (false, 0) w.heap.size = some (false, a) := by rw [upd_ne (by omega)]; exact A2
  have pb3 : upd S2 w2.heap.size (false, 0) pb = some (false, b) := by have := ltS hb; rw [upd_ne (by omega), o2 pb this]; exact hb
  have o3 : ∀ p, p < w.heap.size → upd S2 w2.heap.size (false, 0) p = S p := fun p hp => by rw [upd_ne (by omega)]; exact o2 p hp
  generalize upd S2 w2.heap.size (false, 0) = S3 at *
  refine (abs_I h3 B3 pb3 (lt_pow sb (by omega))).mono ?_
  rintro _ w4 ⟨rfl, D4, h4, f4⟩
  dsimp only at h4
  have B4 : upd S3 w2.heap.size (false, b) w2.heap.size = some (false, b) := upd_self
  have A4 : upd S3 w2.heap.size (false, b) w.heap.size = some (false, a) := by rw [upd_ne (by omega)]; exact A3
  have o4 : ∀ p, p < w.heap.size → upd S3 w2.heap.size (false, b) p = S p := fun p hp => by rw [upd_ne (by omega)]; exact o3 p hp
  generalize upd S3 w2.heap.size (false, b) = S4 at *
  have F4 : Fm (fun b => ¬ K b) w w4 := (F2.trans f3 (fun _ _ h => h.elim)).trans f4 (fun _ _ h => h)
  have z4 := f4.size
  (repeat refine vcl_v _ rfl rfl ?_); (refine vcl_end ?_)
  (refine vsr ?_)
  refine rnA (pNn (by kernel_rfl) (some _) _ _) ?_
  refine ⟨fun _ => ?_, fun hc => (by cases hc)⟩
  obtain ⟨w5, e5, c5, f5, s5⟩ := nwI w4
  refine ⟨_, w5, e5, ?_⟩
  obtain ⟨D5, h5⟩ := h4.new c5 f5
  have C5 : upd S4 w4.heap.size (false, 0) w4.heap.size = some (false, 0) := upd_self
  have B5 : upd S4 w4.heap.size (false, 0) w2.heap.size = some (false, b) := by rw [upd_ne (by omega)]; exact B4
  have A5 : upd S4 w4.heap.size (false, 0) w.heap.size = some (false, a) := by rw [upd_ne (by omega)]; exact A4
  have o5 : ∀ p, p < w.heap.size → upd S4 w4.heap.size (false, 0) p = S p := fun p hp => by rw [upd_ne (by omega)]; exact o4 p hp
  generalize upd S4 w4.heap.size (false, 0) = S5 at *
  refine (setInt64_I h5 C5 (x := 1) (by omega)).mono ?_
  rintro _ w6 ⟨rfl, D6, h6, f6⟩
  have C6 : upd S5 w4.heap.size (zi 1) w4.heap.size = some (zi 1) := upd_self
  have B6 : upd S5 w4.heap.size (zi 1) w2.heap.size = some (false, b) := by rw [upd_ne (by omega)]; exact B5
  have A6 : upd S5 w4.heap.size (zi 1) w.heap.size = some (false, a) := by rw [upd_ne (by omega)]; exact A5
  have o6 : ∀ p, p < w.heap.size → upd S5 w4.heap.size (zi 1) p = S p := fun p hp => by rw [upd_ne (by omega)]; exact o5 p hp
  generalize upd S5 w4.heap.size (zi 1) = S6 at *
  have F6 : Fm (fun b => ¬ K b) w w6 := (F4.trans f5 (fun _ _ h => h.elim)).trans f6 (fun _ _ h => h)
  have z6 := f6.size
  obtain ⟨w7, e7, c7, f7, s7⟩ := nwI w6
  refine ⟨_, w7, e7, ?_⟩
  obtain ⟨D7, h7⟩ := h6.new c7 f7
  have E7 : upd S6 w6.heap.size (false, 0) w6.heap.size = some (false, 0) := upd_self
  have C7 : upd S6 w6.heap.size (false, 0) w4.heap.size = some (zi 1) := by rw [upd_ne (by omega)]; exact C6
  have B7 : upd S6 w6.heap.size (false, 0) w2.heap.size = some (false, b) := by rw [upd_ne (by omega)]; exact B6
  have A7 : upd S6 w6.heap.size (false, 0) w.heap.size = some (false, a) := by rw [upd_ne (by omega)]; exact A6
  have o7 : ∀ p, p < w.heap.size → upd S6 w6.heap.size (false, 0) p = S p := fun p hp => by rw [upd_ne (by omega)]; exact o6 p hp
  generalize upd S6 w6.heap.size (false, 0) = S7 at *
  obtain ⟨w8, e8, c8, f8, s8⟩ := nwI w7
  refine ⟨_, w8, e8, ?_⟩
  obtain ⟨D8, h8⟩ := h7.new c8 f8
  have q8 : upd S7 w7.heap.size (false, 0) w7.heap.size = some (false, 0) := upd_self
  have E8 : upd S7 w7.heap.size (false, 0) w6.heap.size = some (false, 0) := by rw [upd_ne (by omega)]; exact E7
  have C8 : upd S7 w7.heap.size (false, 0) w4.heap.size = some (zi 1) := by rw [upd_ne (by omega)]; exact C7
  have B8 : upd S7 w7.heap.size (false, 0) w2.heap.size = some (false, b) := by rw [upd_ne (by omega)]; exact B7
  have A8 : upd S7 w7.heap.size (false, 0) w.heap.size = some (false, a) := by rw [upd_ne (by omega)]; exact A7
  have o8 : ∀ p, p < w.heap.size → upd S7 w7.heap.size (false, 0) p = S p := fun p hp => by rw [upd_ne (by omega)]; exact o7 p hp
  generalize upd S7 w7.heap.size (false, 0) = S8 at *
  obtain ⟨w9, e9, c9, f9, s9⟩ := nwI w8
  refine ⟨_, w9, e9, ?_⟩
  obtain ⟨D9, h9⟩ := h8.new c9 f9
  have r9 : upd S8 w8.heap.size (false, 0) w8.heap.size = some (false, 0) := upd_self
  have q9 : upd S8 w8.heap.size (false, 0) w7.heap.size = some (false, 0) := by rw [upd_ne (by omega)]; exact q8
  have E9 : upd S8 w8.heap.size (false, 0) w6.heap.size = some (false, 0) := by rw [upd_ne (by omega)]; exact E8
  have C9 : upd S8 w8.heap.size (false, 0) w4.heap.size = some (zi 1) := by rw [upd_ne (by omega)]; exact C8
  have B9 : upd S8 w8.heap.size (false, 0) w2.heap.size = some (false, b) := by rw [upd_ne (by omega)]; exact B8
  have A9 : upd S8 w8.heap.size (false, 0) w.heap.size = some (false, a) := by rw [upd_ne (by omega)]; exact A8
  have o9 : ∀ p, p < w.heap.size → upd S8 w8.heap.size (false, 0) p = S p := fun p hp => by rw [upd_ne (by omega)]; exact o8 p hp
  generalize upd S8 w8.heap.size (false, 0) = S9 at *
  have F9 : Fm (fun b => ¬ K b) w w9 := ((F6.trans f7 (fun _ _ h => h.elim)).trans f8 (fun _ _ h => h.elim)).trans f9 (fun _ _ h => h.elim)
  clear h1 h2 h3 h4 h5 h6 h7 h8 A1 A2 A3 A4 A5 A6 A7 A8 B3 B4 B5 B6 B7 B8 C5 C6 C7 C8 E7 E8 q8 o1 o2 o3 o4 o5 o6 o7 o8 pa1 pb3 e1 e3 e5 e7 e8 e9 c1 c3 c5 c7 c8 c9 f1 f2 f3 f4 f5 f6 f7 f8 f9 F2 F4 F6
  have hnd : [w.heap.size, w2.heap.size, w4.heap.size, w6.heap.size, w7.heap.size, w8.heap.size].Nodup := by
    simp only [List.nodup_cons, List.mem_cons, List.not_mem_nil, or_false, not_or, List.nodup_nil, and_true, not_false_eq_true]
    omega
  obtain ⟨va, la, cA, oA, nA, eA⟩ := (h9.int _ _ A9).all
  obtain ⟨vb, lb, cB, oB, nB, eB⟩ := (h9.int _ _ B9).all
  obtain ⟨aa, ka, rfl, _, _, svA⟩ := oA.drew.val
  obtain ⟨ab, kb, rfl, _, _, svB⟩ := oB.drew.val
  dsimp only at eA eB cA cB
  have hla := nv_len nA (by rw [eA]; exact sa)
  have hlb := nv_len nB (by rw [eB]; exact sb)
  (repeat refine vcl_v _ rfl rfl ?_); (refine vcl_end ?_)
  refine vcut (by repeat (first | exact moE _ _ _ | exact moEd _ _ _ | apply moB | apply moL | apply moV)) (Nat × Nat × Nat × Nat × Nat × Nat) (fun p => ⟨(11, pI p.1) :: (12, pI p.2.1) :: (13, pI p.2.2.1) :: (14, pI p.2.2.2.1) :: (16, pI p.2.2.2.2.1) :: (17, pI p.2.2.2.2.2) :: [(0, pI z), (1, pI x), (2, .pointer none), (3, pI pa), (15, .bool true)], []⟩) (fun p u => ∃ na nb U V, GS w K S a b p.1 p.2.1 p.2.2.1 p.2.2.2.1 p.2.2.2.2.1 p.2.2.2.2.2 na nb U V u) ?_ ?_
  · refine ⟨.take 0 (.take 1 (.take 2 (.take 3 (.take 4 (.take 5 (.take 6 (.take 7 (.one 8 [] (.take 9 (.done)))))))))), by kernel_rfl, ?_⟩
    refine tkA (fa fo_56_1 _ _) ?_
    refine tkL na_54 cA rfl ?_
    refine tkA (fa fo_56_1 _ _) ?_
    refine tkL na_54 cB rfl ?_
    refine (cmp_c svA svB (.inr ⟨nA, nB⟩) (by omega) (by omega)).mono ?_
    rintro v w10 ⟨⟨f10, s10⟩, rfl⟩
    refine ⟨trivial, ?_⟩
    have f10' : Fm (fun _ => False) w9 w10 := f10.drew'
    have h10 := h9.fm f10' (fun _ h => h.elim)
    have F10 : Fm (fun b => ¬ K b) w w10 := F9.trans f10' (fun _ _ h => h.elim)
    rw [eA, eB]
    have fr1 : w.heap.size ≤ w2.heap.size ∧ w.heap.size ≤ w.heap.size ∧ w.heap.size ≤ w6.heap.size ∧ w.heap.size ≤ w4.heap.size ∧ w.heap.size ≤ w7.heap.size ∧ w.heap.size ≤ w8.heap.size := by omega
    have fr2 : w.heap.size ≤ w.heap.size ∧ w.heap.size ≤ w2.heap.size ∧ w.heap.size ≤ w4.heap.size ∧ w.heap.size ≤ w6.heap.size ∧ w.heap.size ≤ w7.heap.size ∧ w.heap.size ≤ w8.heap.size := by omega
    rcases Nat.lt_or_ge a b with hlt | hge
    · refine ⟨_, bLt (lt_of_cmp.2 hlt), ?_⟩
      refine ⟨fun _ => ?_, fun hc => (by cases hc)⟩
      refine ⟨(w2.heap.size, w.heap.size, w6.heap.size, w4.heap.size, w7.heap.size, w8.heap.size), ⟨⟨rfl, rfl, rfl, rfl, rfl, rfl, rfl, rfl, rfl, rfl, rfl, trivial⟩, rfl⟩, b, a, 0, 1, ⟨_, _, h10, B9, A9, ⟨_, E9, rfl⟩, ⟨_, C9, rfl⟩, by rw [q9]; simp, by rw [r9]; simp, o9⟩, ?_, fr1, F10, Cs.swap a b, by omega, b1, sb, by simp, by simp; omega⟩
      simp only [List.nodup_cons, List.mem_cons, List.not_mem_nil, or_false, not_or, List.nodup_nil, and_true, not_false_eq_true]
      omega
    · refine ⟨_, bLtF (fun h => by have := lt_of_cmp.1 h; omega), ?_⟩
      refine ⟨fun hc => (by cases hc), fun _ => ?_⟩
      exact ⟨(w.heap.size, w2.heap.size, w4.heap.size, w6.heap.size, w7.heap.size, w8.heap.size), ⟨⟨rfl, rfl, rfl, rfl, rfl, rfl, rfl, rfl, rfl, rfl, rfl, trivial⟩, rfl⟩, a, b, 1, 0, ⟨_, _, h10, A9, B9, ⟨_, C9, rfl⟩, ⟨_, E9, rfl⟩, by rw [q9]; simp, by rw [r9]; simp, o9⟩, hnd, fr2, F10, Cs.start a b, hge, a1, sa, by simp; omega, by simp⟩
  clear h9 A9 B9 C9 E9 q9 r9 o9 F9 hnd cA cB oA oB nA nB svA svB
  rintro p0 u0' ⟨na0, nb0, U0, V0, hG0⟩
  refine vcut (by repeat (first | exact moE _ _ _ | exact moEd _ _ _ | apply moB | apply moL | apply moV)) (Nat × Nat × Nat × Nat × Nat × Nat) (fun p => ⟨(11, pI p.1) :: (12, pI p.2.1) :: (13, pI p.2.2.1) :: (14, pI p.2.2.2.1) :: (16, pI p.2.2.2.2.1) :: (17, pI p.2.2.2.2.2) :: [(0, pI z), (1, pI x), (2, .pointer none), (3, pI pa), (15, .bool true)], []⟩) (fun p u => ∃ na nb U V, nb < BW ∧ GS w K S a b p.1 p.2.1 p.2.2.1 p.2.2.2.1 p.2.2.2.2.1 p.2.2.2.2.2 na nb U V u) ?_ ?_
  · refine vloop ((Nat × Nat × Nat × Nat × Nat × Nat) × Nat × Nat) (fun s => (fun p => ⟨(11, pI p.1) :: (12, pI p.2.1) :: (13, pI p.2.2.1) :: (14, pI p.2.2.2.1) :: (16, pI p.2.2.2.2.1) :: (17, pI p.2.2.2.2.2) :: [(0, pI z), (1, pI x), (2, .pointer none), (3, pI pa), (15, .bool true)], []⟩) s.1) (fun s u => ∃ U V, GS w K S a b s.1.1 s.1.2.1 s.1.2.2.1 s.1.2.2.2.1 s.1.2.2.2.2.1 s.1.2.2.2.2.2 s.2.1 s.2.2 U V u) (fun s => s.2.1 + s.2.2) (p0, na0, nb0)
      ⟨⟨rfl, rfl, rfl, rfl, rfl, rfl, rfl, rfl, rfl, rfl, rfl, trivial⟩, rfl⟩ ⟨U0, V0, hG0⟩ ?_
    rintro ⟨⟨A, B, C, E, q, r⟩, na, nb⟩ u ⟨U, V, hG⟩
    dsimp only at hG ⊢
    obtain ⟨S', D', hS, hA, hB, ⟨zu, hC, eU⟩, ⟨zv, hE, eV⟩, hq, hr, hold⟩ := hG.all
    obtain ⟨vB, lB, cB, oB, nB, eB⟩ := (hS.int _ _ hB).all
    obtain ⟨aB, kB, rfl, _, _, svB⟩ := oB.val
    dsimp only at eB cB
    refine rnA (fa fo_56_1 _ _) ?_
    refine rnL na_54 cB rfl ?_
    refine ⟨_, _, ln se_54 _ _ _ _ _ _, ?_⟩
    rcases Nat.lt_or_ge 1 lB.length with hl | hl
    · refine ⟨_, bGt (by omega), ?_⟩
      refine ⟨fun _ => ?_, fun hc => (by cases hc)⟩
      have hge : BW ≤ nb := by
        have h1 := nB.ge (by intro e; rw [e] at hl; simp at hl)
        rw [eB] at h1
        have h2 : BW ^ 1 ≤ BW ^ (lB.length - 1) := pow_le_pow (by omega)
        rw [Nat.pow_one] at h2
        omega
      have hnd := hG.nd
      simp only [List.nodup_cons, List.mem_cons, List.not_mem_nil, or_false, not_or, List.nodup_nil, and_true, not_false_eq_true] at hnd
      obtain ⟨⟨nAB, nAC, nAE, nAq, nAr⟩, ⟨nBC, nBE, nBq, nBr⟩, ⟨nCE, nCq, nCr⟩, ⟨nEq, nEr⟩, nqr⟩ := hnd
      have hle := hG.le
      have hsz := hG.sz
      refine (lehmerSimulate_c hS hA hB hle hge (lt_pow hsz (by omega))).mono ?_
      rintro v u1 ⟨u0, u1', v0, v1, e, rfl, hu0, hu1, hv0, hv1, hLS, hF1⟩
      have hS1 := hS.fm hF1 (fun _ h => h.elim)
      obtain ⟨zq, hq'⟩ := Option.ne_none_iff_exists'.1 hq
      obtain ⟨zr, hr'⟩ := Option.ne_none_iff_exists'.1 hr
      have hzu : zu.2 < BW ^ 10 := by have := iv_abs zu; rw [eU] at this; have := hG.su; omega
      have hzv : zv.2 < BW ^ 10 := by have := iv_abs zv; rw [eV] at this; have := hG.sv; omega
      have hFu : Fm (fun b => ¬ K b) w u1 := hG.fm.trans hF1 (fun _ _ h => h.elim)
      rcases Nat.eq_zero_or_pos v0 with hv00 | hv0p
      · refine ⟨_, bNeF (by omega), ?_⟩
        refine ⟨fun hc => (by cases hc), fun _ => ?_⟩
        have hnb0 : nb ≠ 0 := by have := BW_pos; omega
        refine (euclidUpdate_I (hgk hFu) (fun f => hgk (hFu.trans f (fun _ _ h => h))) hS1 hA hB hC hE hq' hr' hG.nd (lt_pow hsz (by omega)) (lt_pow (Nat.lt_of_le_of_lt hle hsz) (by omega)) hnb0 (lt_pow hzu (by omega)) (lt_pow hzv (by omega))).mono ?_
        rintro v u2 ⟨rfl, S2, D2, hS2, hF2, kA, kB, kr, kE, kC, kq, kold⟩
        have hcs := hG.cs.euclid
        have hm := Nat.mod_lt na (Nat.pos_of_ne_zero hnb0)
        rw [eU, eV] at kC
        refine ⟨((B, r, E, C, q, A), nb, na % nb), ⟨⟨rfl, rfl, rfl, rfl, rfl, rfl, rfl, rfl, rfl, rfl, rfl, trivial⟩, rfl⟩, ⟨V, _, ⟨S2, D2, hS2, kB, kr, ⟨zv, kE, eV⟩, ⟨_, kC, iv_zi _⟩, kq, by rw [kA]; simp, fun p hp => ?_⟩, ?_, ?_, hFu.trans hF2 (fun _ _ h => h), hcs, by show na % nb ≤ nb; omega, by show 1 ≤ nb; omega, Nat.lt_of_le_of_lt hle hsz, hG.sv, hcs.sizeV (by omega)⟩, by show nb + na % nb < na + nb; have := hG.a1; omega⟩
        · obtain ⟨g1, g2, g3, g4, g5, g6⟩ := hG.fr
          rw [kold p (by omega) (by omega) (by omega)]
          exact hold p hp
        · simp only [List.nodup_cons, List.mem_cons, List.not_mem_nil, or_false, not_or, List.nodup_nil, and_true, not_false_eq_true]
          omega
        · obtain ⟨g1, g2, g3, g4, g5, g6⟩ := hG.fr
          exact ⟨g2, g6, g4, g3, g5, g1⟩
      · obtain ⟨A', B', hrow, hBA, iA, iB, hu1p, hv1p, hBp⟩ := hLS.all (by omega)
        refine ⟨_, bNe (by omega), ?_⟩
        refine ⟨fun _ => ?_, fun hc => (by cases hc)⟩
        refine (lehmerUpdate_I hS1 hA hB hq' hr' nAB nAq nAr nBq nBr nqr (lt_pow hsz (by omega)) (lt_pow (Nat.lt_of_le_of_lt hle hsz) (by omega)) hu0 hu1 hv0 hv1).mono ?_
        rintro _ u2 ⟨S2, D2, hS2, hF2, kA, kB, kq, kr, kold⟩
        obtain ⟨l1, l2⟩ := ls_val hrow
        rw [l1, zi_nat] at kA
        rw [l2, zi_nat] at kB
        obtain ⟨zq2, hq2⟩ := Option.ne_none_iff_exists'.1 kq
        obtain ⟨zr2, hr2⟩ := Option.ne_none_iff_exists'.1 kr
        have kC : S2 C = some zu := by rw [kold C (fun e => nAC e.symm) (fun e => nBC e.symm) nCq nCr]; exact hC
        have kE : S2 E = some zv := by rw [kold E (fun e => nAE e.symm) (fun e => nBE e.symm) nEq nEr]; exact hE
        refine ⟨fun _ => ?_, fun hc => (by cases hc)⟩
        refine (lehmerUpdate_I hS2 kC kE hq2 hr2 nCE nCq nCr nEq nEr nqr (lt_pow hzu (by omega)) (lt_pow hzv (by omega)) hu0 hu1 hv0 hv1).mono ?_
        rintro _ u3 ⟨S3, D3, hS3, hF3, mC, mE, mq, mr, mold⟩
        rw [eU, eV] at mC mE
        have hcs := hG.cs.lehmer hrow iA iB
        have hAle : A' ≤ na := by
          have : 1 * A' ≤ v1 * A' := Nat.mul_le_mul_right _ hv1p
          omega
        have mA : S3 A = some (false, A') := by rw [mold A nAC nAE nAq nAr]; exact kA
        have mB : S3 B = some (false, B') := by rw [mold B nBC nBE nBq nBr]; exact kB
        refine ⟨((A, B, C, E, q, r), A', B'), ⟨⟨rfl, rfl, rfl, rfl, rfl, rfl, rfl, rfl, rfl, rfl, rfl, trivial⟩, rfl⟩, ⟨_, _, ⟨S3, D3, hS3, mA, mB, ⟨_, mC, iv_zi _⟩, ⟨_, mE, iv_zi _⟩, mq, mr, fun p hp => ?_⟩, hG.nd, hG.fr, (hFu.trans hF2 (fun _ _ h => h)).trans hF3 (fun _ _ h => h), hcs, hBA, by show 1 ≤ A'; omega, Nat.lt_of_le_of_lt hAle hsz, hcs.sizeU hBp, hcs.sizeV (by omega)⟩, LS.less iA iB hu1p hv1p (by omega) hBp hBA⟩
        obtain ⟨g1, g2, g3, g4, g5, g6⟩ := hG.fr
        rw [mold p (by omega) (by omega) (by omega) (by omega), kold p (by omega) (by omega) (by omega) (by omega)]
        exact hold p hp
    · refine ⟨_, bGtF (by omega), ?_⟩
      refine ⟨fun hc => (by cases hc), fun _ => ?_⟩
      refine ⟨(A, B, C, E, q, r), ⟨⟨rfl, rfl, rfl, rfl, rfl, rfl, rfl, rfl, rfl, rfl, rfl, trivial⟩, rfl⟩, na, nb, U, V, ?_, hG⟩
      have h1 := nv_lt oB.wf
      rw [eB] at h1
      have h2 : BW ^ lB.length ≤ BW ^ 1 := pow_le_pow hl
      rw [Nat.pow_one] at h2
      omega
  rintro p1 u1 ⟨na, nb, U, V, hnb, hG⟩
  refine vcut (by repeat (first | exact moE _ _ _ | exact moEd _ _ _ | apply moB | apply moL | apply moV)) (Nat × Nat) (fun p => ⟨(11, pI p.1) :: (13, pI p.2) :: [(0, pI z), (1, pI x), (2, .pointer none), (3, pI pa), (15, .bool true)], []⟩) (fun p u => ∃ S' D' zx, Sto u K S' D' ∧ S' p.1 = some (false, Nat.gcd a b) ∧ S' p.2 = some zx ∧ zx.2 < BW ^ 12 ∧ (∃ k : Int, ((Nat.gcd a b : Nat) : Int) = iv zx * a + k * b) ∧ (∀ p, p < w.heap.size → S' p = S p) ∧ w.heap.size ≤ p.1 ∧ w.heap.size ≤ p.2 ∧ Fm (fun b => ¬ K b) w u) ?_ ?_
  · obtain ⟨A, B, C, E, q, r⟩ := p1
    dsimp only at hG ⊢
    have done : ∀ {A B C E q r na : Nat} {U V : Int} {u : World}, GS w K S a b A B C E q r na 0 U V u → ∃ S' D' zx, Sto u K S' D' ∧ S' A = some (false, Nat.gcd a b) ∧ S' C = some zx ∧ zx.2 < BW ^ 12 ∧ (∃ k : Int, ((Nat.gcd a b : Nat) : Int) = iv zx * a + k * b) ∧ (∀ p, p < w.heap.size → S' p = S p) ∧ w.heap.size ≤ A ∧ w.heap.size ≤ C ∧ Fm (fun b => ¬ K b) w u := fun {A B C E q r na U V u} hG => by
      obtain ⟨S', D', hS, hA, hB, ⟨zu, hC, eU⟩, _, _, _, hold⟩ := hG.all
      have hg := hG.cs.gcd
      rw [Nat.gcd_zero_right] at hg
      obtain ⟨k, l, h1, h2⟩ := hG.cs.lin
      have hzu : zu.2 < BW ^ 10 := by have := iv_abs zu; rw [eU] at this; have := hG.su; omega
      exact ⟨S', D', zu, hS, by rw [← hg]; exact hA, hC, lt_pow hzu (by omega), ⟨k, by rw [← hg, h1, eU]⟩, hold, hG.fr.1, hG.fr.2.2.1, hG.fm⟩
    obtain ⟨S', D', hS, hA, hB, ⟨zu, hC, eU⟩, ⟨zv, hE, eV⟩, hq, hr, hold⟩ := hG.all
    obtain ⟨vB, lB, cB, oB, nB, eB⟩ := (hS.int _ _ hB).all
    obtain ⟨aB, kB, rfl, _, _, svB⟩ := oB.val
    dsimp only at eB cB
    have hlB := nil_len nB
    rw [eB] at hlB
    refine rnA (fa fo_56_1 _ _) ?_
    refine rnL na_54 cB rfl ?_
    refine ⟨_, _, ln se_54 _ _ _ _ _ _, ?_⟩
    rcases Nat.eq_zero_or_pos nb with hb0 | hbp
    · subst hb0
      refine ⟨_, bGtF (by omega), ?_⟩
      refine ⟨fun hc => (by cases hc), fun _ => ?_⟩
      exact ⟨(A, C), ⟨⟨rfl, rfl, rfl, rfl, rfl, rfl, rfl, trivial⟩, rfl⟩, done hG⟩
    · refine ⟨_, bGt (by omega), ?_⟩
      refine ⟨fun _ => ?_, fun hc => (by cases hc)⟩
      refine vcut (by repeat (first | exact moE _ _ _ | exact moEd _ _ _ | apply moB | apply moL | apply moV)) (Nat × Nat × Nat × Nat × Nat × Nat) (fun p => ⟨(11, pI p.1) :: (12, pI p.2.1) :: (13, pI p.2.2.1) :: (14, pI p.2.2.2.1) :: (16, pI p.2.2.2.2.1) :: (17, pI p.2.2.2.2.2) :: [(0, pI z), (1, pI x), (2, .pointer none), (3, pI pa), (15, .bool true)], []⟩) (fun p u => ∃ na nb U V, nb < BW ∧ na < BW ∧ GS w K S a b p.1 p.2.1 p.2.2.1 p.2.2.2.1 p.2.2.2.2.1 p.2.2.2.2.2 na nb U V u) ?_ ?_
      · (refine vsr ?_)
        obtain ⟨vA, lA, cA, oA, nA, eA⟩ := (hS.int _ _ hA).all
        obtain ⟨aA, kA, rfl, _, _, svA⟩ := oA.val
        dsimp only at eA cA
        refine rnA (fa fo_56_1 _ _) ?_
        refine rnL na_54 cA rfl ?_
        refine ⟨_, _, ln se_54 _ _ _ _ _ _, ?_⟩
        rcases Nat.lt_or_ge 1 lA.length with hl | hl
        · refine ⟨_, bGt (by omega), ?_⟩
          refine ⟨fun _ => ?_, fun hc => (by cases hc)⟩
          obtain ⟨zq, hq'⟩ := Option.ne_none_iff_exists'.1 hq
          obtain ⟨zr, hr'⟩ := Option.ne_none_iff_exists'.1 hr
          have hzu : zu.2 < BW ^ 10 := by have := iv_abs zu; rw [eU] at this; have := hG.su; omega
          have hzv : zv.2 < BW ^ 10 := by have := iv_abs zv; rw [eV] at this; have := hG.sv; omega
          have hle := hG.le
          have hsz := hG.sz
          have hnd := hG.nd
          simp only [List.nodup_cons, List.mem_cons, List.not_mem_nil, or_false, not_or, List.nodup_nil, and_true, not_false_eq_true] at hnd
          have hFu := hG.fm
          refine (euclidUpdate_I (hgk hFu) (fun f => hgk (hFu.trans f (fun _ _ h => h))) hS hA hB hC hE hq' hr' hG.nd (lt_pow hsz (by omega)) (lt_pow (Nat.lt_of_le_of_lt hle hsz) (by omega)) (by omega) (lt_pow hzu (by omega)) (lt_pow hzv (by omega))).mono ?_
          rintro v u2 ⟨rfl, S2, D2, hS2, hF2, kA', kB', kr, kE, kC, kq, kold⟩
          have hcs := hG.cs.euclid
          have hm := Nat.mod_lt na hbp
          rw [eU, eV] at kC
          obtain ⟨g1, g2, g3, g4, g5, g6⟩ := hG.fr
          refine ⟨(B, r, E, C, q, A), ⟨⟨rfl, rfl, rfl, rfl, rfl, rfl, rfl, rfl, rfl, rfl, rfl, trivial⟩, rfl⟩, nb, na % nb, V, _, by omega, hnb, ⟨S2, D2, hS2, kB', kr, ⟨zv, kE, eV⟩, ⟨_, kC, iv_zi _⟩, kq, by rw [kA']; simp, fun p hp => ?_⟩, ?_, ⟨g2, g6, g4, g3, g5, g1⟩, hFu.trans hF2 (fun _ _ h => h), hcs, by omega, hbp, Nat.lt_of_le_of_lt hle hsz, hG.sv, hcs.sizeV hbp⟩
          · rw [kold p (by omega) (by omega) (by omega)]
            exact hold p hp
          · simp only [List.nodup_cons, List.mem_cons, List.not_mem_nil, or_false, not_or, List.nodup_nil, and_true, not_false_eq_true]
            omega
        · refine ⟨_, bGtF (by omega), ?_⟩
          refine ⟨fun hc => (by cases hc), fun _ => ?_⟩
          refine ⟨(A, B, C, E, q, r), ⟨⟨rfl, rfl, rfl, rfl, rfl, rfl, rfl, rfl, rfl, rfl, rfl, trivial⟩, rfl⟩, na, nb, U, V, hnb, ?_, hG⟩
          have h1 := nv_lt oA.wf
          rw [eA] at h1
          have h2 : BW ^ lA.length ≤ BW ^ 1 := pow_le_pow hl
          rw [Nat.pow_one] at h2
          omega
      clear cB oB nB eB svB hlB hS hA hB hC hE hq hr hold eU eV hG hbp hnb
      rintro ⟨A, B, C, E, q, r⟩ u ⟨na, nb, U, V, hnb, hna, hG⟩
      dsimp only at hG ⊢
      obtain ⟨S', D', hS, hA, hB, ⟨zu, hC, eU⟩, ⟨zv, hE, eV⟩, hq, hr, hold⟩ := hG.all
      obtain ⟨vB, lB, cB, oB, nB, eB⟩ := (hS.int _ _ hB).all
      obtain ⟨aB, kB, rfl, _, _, svB⟩ := oB.val
      dsimp only at eB cB
      have hlB := nil_len nB
      rw [eB] at hlB
      refine rnA (fa fo_56_1 _ _) ?_
      refine rnL na_54 cB rfl ?_
      refine ⟨_, _, ln se_54 _ _ _ _ _ _, ?_⟩
      rcases Nat.eq_zero_or_pos nb with hb0 | hbp
      · subst hb0
        refine ⟨_, bGtF (by omega), ?_⟩
        refine ⟨fun hc => (by cases hc), fun _ => ?_⟩
        exact ⟨(A, C), ⟨⟨rfl, rfl, rfl, rfl, rfl, rfl, rfl, trivial⟩, rfl⟩, done hG⟩
      · refine ⟨_, bGt (by omega), ?_⟩
        refine ⟨fun _ => ?_, fun hc => (by cases hc)⟩
        obtain ⟨vA, lA, cA, oA, nA, eA⟩ := (hS.int _ _ hA).all
        dsimp only at eA cA
        have hna1 : 1 ≤ na := hG.a1
        have hle := hG.le
        obtain ⟨lA1, dA⟩ := oneW_ nA oA.wf eA hna hna1
        obtain ⟨lB1, dB⟩ := oneW_ nB oB.wf eB hnb hbp
        obtain ⟨bA, kA, hdA, rfl, rA, _, _⟩ := oA.rd (by intro e; rw [e] at lA1; cases lA1)
        obtain ⟨bB, kB', hdB, hvB, rB, _, _⟩ := oB.rd (by intro e; rw [e] at lB1; cases lB1)
        cases hvB
        refine ⟨.take 0 (.take 1 (.take 2 (.take 3 (.take 4 (.take 5 (.take 6 (.take 7 (.take 8 (.take 9 (.take 10 (.take 11 (.take 12 (.take 13 (.done)))))))))))))), by kernel_rfl, ?_⟩
        refine tkA (fa fo_56_1 _ _) ?_
        refine tkL na_54 cA rfl ?_
        refine tkA (ia se_54 (i := 0) _ (by omega)) ?_
        refine tkC na_101 (rA.cell (by omega)) ?_
        refine tkA (fa fo_56_1 _ _) ?_
        refine tkL na_54 cB rfl ?_
        refine tkA (ia se_54 (i := 0) _ (by omega)) ?_
        refine tkC na_101 (rB.cell (by omega)) ?_
        rw [dA, dB]
        (repeat refine vcp_v _ rfl rfl rfl ?_); (refine vcp_end ?_)
        obtain ⟨g1, g2, g3, g4, g5, g6⟩ := hG.fr
        have hnd := hG.nd
        simp only [List.nodup_cons, List.mem_cons, List.not_mem_nil, or_false, not_or, List.nodup_nil, and_true, not_false_eq_true] at hnd
        obtain ⟨⟨nAB, nAC, nAE, nAq, nAr⟩, ⟨nBC, nBE, nBq, nBr⟩, ⟨nCE, nCq, nCr⟩, ⟨nEq, nEr⟩, nqr⟩ := hnd
        have hzu : zu.2 < BW ^ 10 := by have := iv_abs zu; rw [eU] at this; have := hG.su; omega
        have hzv : zv.2 < BW ^ 10 := by have := iv_abs zv; rw [eV] at this; have := hG.sv; omega
        have hFd : Fm (fun b => ¬ K b) w u.drew := hG.fm.dr
        have hSd := hS.drew
        have hcs := hG.cs
        refine vcut (by repeat (first | exact moE _ _ _ | exact moEd _ _ _ | apply moB | apply moL | apply moV)) Nat (fun g => ⟨(11, pI A) :: (13, pI C) :: (23, vw g) :: [(0, pI z), (1, pI x), (2, .pointer none), (3, pI pa), (15, .bool true)], []⟩) (fun g u' => ∃ S2 D2 zx, Sto u' K S2 D2 ∧ S2 A = some (false, na) ∧ S2 C = some zx ∧ g = Nat.gcd a b ∧ g < BW ∧ 1 ≤ g ∧ zx.2 < BW ^ 12 ∧ (∃ k : Int, ((Nat.gcd a b : Nat) : Int) = iv zx * a + k * b) ∧ (∀ p, p < w.heap.size → S2 p = S p) ∧ Fm (fun b => ¬ K b) w u') ?_ ?_
        · (refine vsr ?_)
          (repeat refine vcl_v _ rfl rfl ?_); (refine vcl_end ?_)
          refine ⟨fun _ => ?_, fun hc => (by cases hc)⟩
          (refine vsr ?_)
          (repeat refine vcl_v _ rfl rfl ?_); (refine vcl_end ?_)
          (refine vsr ?_)
          (repeat refine vcl_v _ rfl rfl ?_); (refine vcl_end ?_)
          (refine vsr ?_)
          (repeat refine vcl_v _ rfl rfl ?_); (refine vcl_end ?_)
          (refine vsr ?_)
          (repeat refine vcl_v _ rfl rfl ?_); (refine vcl_end ?_)
          refine vcut (by repeat (first | exact moE _ _ _ | exact moEd _ _ _ | apply moB | apply moL | apply moV)) (Nat × Nat × Nat × Nat × Nat × Nat × Bool) (fun tt => ⟨(11, pI A) :: (13, pI C) :: (14, pI E) :: (23, vw tt.1) :: (24, vw tt.2.1) :: (25, vw tt.2.2.1) :: (26, vw tt.2.2.2.1) :: (27, vw tt.2.2.2.2.1) :: (28, vw tt.2.2.2.2.2.1) :: (29, .bool tt.2.2.2.2.2.2) :: [(0, pI z), (1, pI x), (2, .pointer none), (3, pI pa), (15, .bool true)], []⟩) (fun tt u' => tt.2.1 = 0 ∧ Wr na nb tt.1 tt.2.1 tt.2.2.1 tt.2.2.2.1 tt.2.2.2.2.1 tt.2.2.2.2.2.1 tt.2.2.2.2.2.2 ∧ Fm (fun _ => False) u.drew u') ?_ ?_
          · refine vloop (Nat × Nat × Nat × Nat × Nat × Nat × Bool) (fun tt => ⟨(11, pI A) :: (13, pI C) :: (14, pI E) :: (23, vw tt.1) :: (24, vw tt.2.1) :: (25, vw tt.2.2.1) :: (26, vw tt.2.2.2.1) :: (27, vw tt.2.2.2.2.1) :: (28, vw tt.2.2.2.2.2.1) :: (29, .bool tt.2.2.2.2.2.2) :: [(0, pI z), (1, pI x), (2, .pointer none), (3, pI pa), (15, .bool true)], []⟩) (fun tt u' => Wr na nb tt.1 tt.2.1 tt.2.2.1 tt.2.2.2.1 tt.2.2.2.2.1 tt.2.2.2.2.2.1 tt.2.2.2.2.2.2 ∧ Fm (fun _ => False) u.drew u') (fun tt => tt.2.1) (na, nb, 1, 0, 0, 1, true)
              ⟨⟨rfl, rfl, rfl, rfl, rfl, rfl, rfl, rfl, rfl, rfl, rfl, rfl, rfl, rfl, rfl, trivial⟩, rfl⟩ ⟨Wr.start hle hna1, Fm.refl _ _⟩ ?_
            rintro ⟨aw, bw, ua, ub, va, vb, e⟩ u' ⟨hW, hF'⟩
            dsimp only at hW ⊢
            rcases Nat.eq_zero_or_pos bw with h0 | h0
            · refine ⟨_, bNeF (by omega), ?_⟩
              refine ⟨fun hc => (by cases hc), fun _ => ?_⟩
              exact ⟨(aw, bw, ua, ub, va, vb, e), ⟨⟨rfl, rfl, rfl, rfl, rfl, rfl, rfl, rfl, rfl, rfl, rfl, rfl, rfl, rfl, rfl, trivial⟩, rfl⟩, h0, hW, hF'⟩
            · refine ⟨_, bNe (by omega), ?_⟩
              refine ⟨fun _ => ?_, fun hc => (by cases hc)⟩
              have hb0 : bw ≠ 0 := by omega
              have hN := hW.step hb0
              have hNb := hN.bounds
              have hBe : BW = 18446744073709551616 := rfl
              have hle2 := hW.le
              have hex := hW.ex
              have hv1 := hW.v1
              have haw : aw ≤ na := by
                have : 1 * aw ≤ vb * aw := Nat.mul_le_mul_right _ hv1
                omega
              (refine sqn ?_)
              refine vbk ?_
              refine ⟨.take 0 (.take 1 (.take 2 (.take 3 (.take 4 (.take 5 (.take 6 (.take 7 (.done)))))))), by kernel_rfl, ?_⟩
              refine ⟨_, wQuo aw bw hb0 (by omega), ?_⟩
              refine ⟨_, wRem aw bw hb0, ?_⟩
              have hmd := Nat.mod_lt aw h0
              generalize aw / bw = q at *
              generalize aw % bw = rr at *
              refine ⟨_, wMul q ub, ?_⟩
              have m1 : (q * ub) % 18446744073709551616 = q * ub := Nat.mod_eq_of_lt (by omega)
              rw [m1]
              refine ⟨_, wAdd' (x := ua) (y := q * ub) (by omega), ?_⟩
              refine ⟨_, wMul q vb, ?_⟩
              have m2 : (q * vb) % 18446744073709551616 = q * vb := Nat.mod_eq_of_lt (by omega)
              rw [m2]
              refine ⟨_, wAdd' (x := va) (y := q * vb) (by omega), ?_⟩
              exact ⟨(bw, rr, ub, ua + q * ub, vb, va + q * vb, !e), ⟨⟨rfl, rfl, rfl, rfl, rfl, rfl, rfl, rfl, rfl, rfl, rfl, rfl, rfl, rfl, rfl, trivial⟩, rfl⟩, ⟨hN, hF'.dr⟩, hmd⟩
          · rintro ⟨aw, bw, ua, ub, va, vb, e⟩ u' ⟨h0, hW, hF'⟩
            dsimp only at h0 hW ⊢
            subst h0
            have hS1 := hSd.fm hF' (fun _ h => h.elim)
            have hux := hW.ux
            have hvx := hW.vx
            have bnd : ∀ {n k : Nat}, n < BW ^ 10 → k ≤ na → n * k < BW ^ 11 := fun {n k} hn hk => by
              have h5 : n * k ≤ n * BW := Nat.mul_le_mul_left _ (by omega)
              have h6 : n * BW < BW ^ 10 * BW := Nat.mul_lt_mul_of_pos_right hn BW_pos
              rw [← Nat.pow_succ] at h6
              exact Nat.lt_of_le_of_lt h5 h6
            refine (mulW_I hS1 hC hC (lt_pow hzu (by omega)) (show ua < BW by omega)).mono ?_
            rintro _ w1 ⟨D1, s1, f1⟩
            have E1 : upd S' C (zu.1 != !e, zu.2 * ua) E = some zv := by rw [upd_ne (fun e => nCE e.symm)]; exact hE
            refine (mulW_I s1 E1 E1 (lt_pow hzv (by omega)) (show va < BW by omega)).mono ?_
            rintro _ w2 ⟨D2, s2, f2⟩
            have C2 : upd (upd S' C (zu.1 != !e, zu.2 * ua)) E (zv.1 != e, zv.2 * va) C = some (zu.1 != !e, zu.2 * ua) := by rw [upd_ne nCE, upd_self]
            have E2 : upd (upd S' C (zu.1 != !e, zu.2 * ua)) E (zv.1 != e, zv.2 * va) E = some (zv.1 != e, zv.2 * va) := upd_self
            have b1 := bnd hzu hux
            have b2 := bnd hzv hvx
            refine (add_I s2 C2 C2 E2 (lt_pow b1 (by omega)) (lt_pow b2 (by omega))).mono ?_
            rintro _ w3 ⟨_, D3, s3, f3⟩
            have i1 : iv (zu.1 != !e, zu.2 * ua) = sg (!e) * (U * (ua : Int)) := by rw [iv_sg, ← eU]
            have i2 : iv (zv.1 != e, zv.2 * va) = sg e * (V * (va : Int)) := by rw [iv_sg, ← eV]
            have hn : (zi (iv (zu.1 != !e, zu.2 * ua) + iv (zv.1 != e, zv.2 * va))).2 < BW ^ 12 := by
              rw [zi_abs]
              have h5 := Int.natAbs_add_le (iv (zu.1 != !e, zu.2 * ua)) (iv (zv.1 != e, zv.2 * va))
              rw [iv_abs, iv_abs] at h5
              dsimp only at h5
              have h6 : BW ^ 11 * 2 ≤ BW ^ 12 := by
                have h7 := Nat.mul_le_mul_left (BW ^ 11) (show 2 ≤ BW by show 2 ≤ 18446744073709551616; omega)
                rwa [← Nat.pow_succ] at h7
              generalize BW ^ 11 = p1 at *
              generalize BW ^ 12 = p2 at *
              omega
            have hg1 : aw = Nat.gcd a b := by
              have := hW.gcd
              rw [Nat.gcd_zero_right] at this
              rw [this, hcs.gcd]
            have hgl : aw ≤ na := by
              have hex := hW.ex
              have : 1 * aw ≤ vb * aw := Nat.mul_le_mul_right _ hW.v1
              omega
            obtain ⟨k, l, h1, h2⟩ := hcs.lin
            refine ⟨aw, ⟨⟨rfl, rfl, rfl, rfl, rfl, rfl, rfl, rfl, trivial⟩, rfl⟩, _, D3, _, s3, ?_, upd_self, hg1, by omega, hW.a1, hn, ?_, fun p hp => ?_, (((hFd.trans hF' (fun _ _ h => h.elim)).trans f1 (fun _ _ h => h)).trans f2 (fun _ _ h => h)).trans f3 (fun _ _ h => h)⟩
            · rw [upd_ne nAC, upd_ne nAE, upd_ne nAC]; exact hA
            · rw [← hg1, iv_zi, i1, i2]
              have hr := hW.r1
              cases e with
              | true =>
                simp only [if_true] at hr
                have q1 : (aw : Int) + (va : Int) * (nb : Int) = (ua : Int) * (na : Int) := by have := congrArg (Nat.cast (R := Int)) hr; simpa using this
                refine ⟨k * (ua : Int) - l * (va : Int), (comb q1 h1 h2).trans ?_⟩
                rw [show sg (!true) * (U * (ua : Int)) + sg true * (V * (va : Int)) = U * ua - V * va by simp [sg]; omega]
              | false =>
                simp only [Bool.false_eq_true, if_false] at hr
                have q1 : (aw : Int) + (ua : Int) * (na : Int) = (va : Int) * (nb : Int) := by have := congrArg (Nat.cast (R := Int)) hr; simpa using this
                refine ⟨l * (va : Int) - k * (ua : Int), (comb q1 h2 h1).trans ?_⟩
                rw [show sg (!false) * (U * (ua : Int)) + sg false * (V * (va : Int)) = V * va - U * ua by simp [sg]; omega]
            · rw [upd_ne (by omega), upd_ne (by omega), upd_ne (by omega)]; exact hold p hp
        · rintro g u' ⟨S2, D2, zx, hS2, hA2, hC2, hge, hgB, hg1, hzx, hlin, hold2, hF2⟩
          obtain ⟨vA2, lA2, cA2, oA2, nA2, eA2⟩ := (hS2.int _ _ hA2).all
          dsimp only at eA2 cA2
          obtain ⟨lA21, _⟩ := oneW_ nA2 oA2.wf eA2 hna hna1
          rcases oA2.cases with ⟨_, _, h5⟩ | ⟨bA2, full, hd2, rfl, hw2, ht2, hl2, hc2⟩
          · rw [h5] at lA21; cases lA21
          refine rnA (fa fo_56_1 _ _) ?_
          refine rnL na_54 cA2 rfl ?_
          refine rnA (ia se_54 (i := 0) _ (by omega)) ?_
          obtain ⟨w4, e4, hw4, f4, z4⟩ := hw2.st (i := 0) (by omega) hgB
          refine ⟨w4, e4, ?_⟩
          have cA4 := f4.obj cA2 (fun e => by subst e; exact cA2.ne_word hw2 rfl)
          have hlen : (full.set 0 g).length = full.length := List.length_set ..
          have hput : IR u' K S2 A (false, g) w4 := by
            refine hS2.put (w1 := w4) hA2 ⟨some bA2, [g], ?_, ?_, ?_, .inr (.inl hd2.symm), ?_⟩ cA4 (Fm.refl _ _)
            · refine ⟨full.set 0 g, ?_, hw4, ?_, ?_, ⟨by rw [hlen]; exact hc2.1, by simp⟩⟩
              · rw [hlen, lA21]; rfl
              · cases full with
                | nil => rw [lA21] at hl2; simp at hl2
                | cons x r => rfl
              · rw [hlen]; simp; omega
            · exact .inr (by show dg [g] 0 ≠ 0; simp [dg]; omega)
            · show nv [g] = g; simp [nv]
            · rw [hd2]; exact f4.mono (fun b _ e => by rw [e])
          obtain ⟨D4, hS4, f4'⟩ := hput
          refine ⟨(A, C), ⟨⟨rfl, rfl, rfl, rfl, rfl, rfl, rfl, trivial⟩, rfl⟩, _, D4, zx, hS4, ?_, ?_, hzx, hlin, fun p hp => ?_, g1, g3, hF2.trans f4' (fun _ _ h => h)⟩
          · rw [upd_self, hge]
          · rw [upd_ne (fun e => nAC e.symm)]; exact hC2
          · rw [upd_ne (by omega)]; exact hold2 p hp
  rintro ⟨A, C⟩ u ⟨S', D', zx, hS, hA, hC, hzx, hlin, hold, fA, fC, hF⟩
  dsimp only at hA hC fA fC ⊢
  have hpa : S' pa = some (false, a) := by rw [hold pa (ltS ha)]; exact ha
  obtain ⟨vpa, lpa, cpa, _⟩ := (hS.int _ _ hpa).all
  refine rnA (fa fo_56_0 _ _) ?_
  refine rnL na_4 cpa rfl ?_
  refine rnA (pNn (by kernel_rfl) none _ _) ?_
  refine ⟨fun hc => (by cases hc), fun _ => ?_⟩
  refine rnA (pNn (by kernel_rfl) (some _) _ _) ?_
  refine ⟨fun _ => ?_, fun hc => (by cases hc)⟩
  have hxS : S' x = some x0 := by rw [hold x (ltS hx)]; exact hx
  refine (set_I hS hxS hC (lt_pow hzx (by omega))).mono ?_
  rintro v u2 ⟨rfl, D2, hS2, hF2⟩
  refine ⟨fun hc => (by cases hc), fun _ => ?_⟩
  have hxlt := ltS hx
  have hzlt := ltS hz
  have hA2 : upd S' x zx A = some (false, Nat.gcd a b) := by rw [upd_ne (by omega)]; exact hA
  have hz2 : upd S' x zx z = some z0 := by rw [upd_ne nzx, hold z hzlt]; exact hz
  have hgs : Nat.gcd a b < BW ^ 10 := Nat.lt_of_le_of_lt (Nat.le_of_dvd (by omega) (Nat.gcd_dvd_left a b)) sa
  refine (set_I hS2 hz2 hA2 (lt_pow hgs (by omega))).mono ?_
  rintro v u3 ⟨rfl, D3, hS3, hF3⟩
  refine ⟨rfl, rfl, _, D3, zx, hS3, (hF.trans hF2 (fun _ _ h => h)).trans hF3 (fun _ _ h => h), upd_self, ?_, hzx, hlin, fun p hp h1 h2 => ?_⟩
  · rw [upd_ne (fun e => nzx e.symm), upd_self]
  · rw [upd_ne h1, upd_ne h2]; exact hold p hp

end Go.Vc
end

section
/- intOne, Int.GCD, ModInverse. -/
set_option linter.unusedSimpArgs false
set_option linter.unusedVariables false
set_option maxRecDepth 8000
set_option maxHeartbeats 1000000
namespace Go.Vc
open Go.Proofs

theorem bsN (x : Nat) (w : World) : ∃ w', (Instr.buildSlice 54 1 [(0, vw x)].toArray).run P w = .ok (.slice (some ⟨w.heap.size, 0, none⟩) 1 1) w' ∧ Cl w' w.heap.size [vw x] 101 ∧ Fm (fun _ => False) w w' ∧ w'.heap.size = w.heap.size + 1 := by
  refine ⟨w.alloc (.cells [vw x].toArray 101), ?_, alloc_new _ _, alloc_fm w _, by simp⟩
  have hz : (zeroValue 101).run P w = .ok (vw 0) w := zeroValue_run (by kernel_rfl) w
  simp only [Instr.buildSlice, Sem.run_bind, run_und (slElem_spec se_54).1, Result.andThen_ok, sizeOf_run (slElem_spec se_54).2]
  rw [if_neg (by decide), if_neg (by decide)]
  simp only [Sem.run_bind, hz, Result.andThen_ok]
  have hf : Instr.fill (fun i => some (i * 1, 1)) ((Array.range (1 * 1)).map fun i => ((vw 0).cells)[i % (vw 0).cells.size]!) [(0, vw x)] = some #[vw x] := by
    simp [Instr.fill, Value.cells, vw]
    apply Array.ext
    · simp
    · intro i h1 h2
      have : i = 0 := by simp at h2; omega
      subst this
      simp
  show ((pure (vw 0).cells : Sem (Array Value)).run P w).andThen _ = _
  simp only [pure, Sem.run, Result.andThen_ok]
  rw [hf]
  rfl

theorem natOne_c (w : World) : CallX P 80 #[] w fun v w' => v = .slice (some ⟨w.heap.size, 0, none⟩) 1 1 ∧ Own w' v (some w.heap.size) [1] ∧ Fm (fun _ => False) w w' := by
  refine calls_vc mo fn_80 rfl ok_80 (Nat.le_of_ble_eq_true rfl) nm_80 ?_
  (refine vsr ?_)
  (repeat refine vcl_v _ rfl rfl ?_); (refine vcl_end ?_)
  obtain ⟨u2, e2, c2, f2, s2⟩ := bsN 1 w
  refine ⟨_, u2, e2, ?_⟩
  have hW : Wd u2 w.heap.size [1] := ⟨c2, fun y hy => by rw [List.mem_singleton.1 hy]; show 1 < 18446744073709551616; omega⟩
  have ho : Own u2 (.slice (some ⟨w.heap.size, 0, none⟩) 1 1) (some w.heap.size) [1] := Own.mk' hW (n := 1) (by simp) (by simp)
  exact ⟨rfl, rfl, ho, f2⟩

theorem intOne_c {w : World} {K : Nat → Prop} {S : Nat → Option Zn} {D : Nat → Option Nat} (h : Sto w K S D) :
    CallX P 88 #[] w fun v w' => ∃ q D', w.heap.size ≤ q ∧ v = pI q ∧ Sto w' K (upd S q (zi 1)) D' ∧ Fm (fun _ => False) w w' := by
  refine calls_vc mo fn_88 rfl ok_88 (Nat.le_of_ble_eq_true rfl) nm_88 ?_
  (refine vsr ?_)
  (repeat refine vcl_v _ rfl rfl ?_); (refine vcl_end ?_)
  refine (natOne_c w).mono ?_
  rintro _ u2 ⟨rfl, ho, hf⟩
  refine rnA (bldI _ _ _ _) ?_
  obtain ⟨u3, e3, c3, f3, s3⟩ := bx 56 (v := .agg #[.bool false, .slice (some ⟨w.heap.size, 0, none⟩) 1 1]) (cs := [.bool false, .slice (some ⟨w.heap.size, 0, none⟩) 1 1]) rfl u2
  refine ⟨_, u3, e3, ?_⟩
  have hs := hf.size
  have hF : Fm (fun _ => False) w u3 := hf.trans f3 (fun _ _ h => h)
  obtain ⟨D', h'⟩ := h.newWith hF c3 (ho.fm f3 (fun _ _ h => h)) (.inr (by simp [dg])) (by omega) (fun b e => by cases e; omega)
  exact ⟨rfl, u2.heap.size, D', by omega, rfl, h', hF⟩

theorem GCD_c {w : World} {K : Nat → Prop} {S : Nat → Option Zn} {D : Nat → Option Nat} (hg : Gl w) (hgk : ∀ {w' : World}, Fm (fun b => ¬ K b) w w' → Gl w') (h : Sto w K S D) {z x pa pb : Nat} {z0 x0 : Zn} {a b : Nat} (hz : S z = some z0) (hx : S x = some x0) (ha : S pa = some (false, a)) (hb : S pb = some (false, b)) (nzx : z ≠ x)
    (a1 : 1 ≤ a) (b1 : 1 ≤ b) (sa : a < BW ^ 10) (sb : b < BW ^ 10) :
    CallX P 87 #[pI z, pI x, .pointer none, pI pa, pI pb] w fun v w' => v = pI z ∧ ∃ S' D' zx, Sto w' K S' D' ∧ Fm (fun b => ¬ K b) w w' ∧ S' z = some (false, Nat.gcd a b) ∧ S' x = some zx ∧ zx.2 < BW ^ 12 ∧ (∃ k : Int, ((Nat.gcd a b : Nat) : Int) = iv zx * a + k * b) ∧
      ∀ p, p < w.heap.size → p ≠ z → p ≠ x → S' p = S p := by
  obtain ⟨va, la, ca, oa, na, ea⟩ := (h.int _ _ ha).all
  obtain ⟨vb, lb, cb, ob, nb, eb⟩ := (h.int _ _ hb).all
  obtain ⟨aa, ka, rfl, _⟩ := oa.val
  obtain ⟨ab, kb, rfl, _⟩ := ob.val
  dsimp only at ea eb ca cb
  have h1 := nil_len na
  have h2 := nil_len nb
  rw [ea] at h1
  rw [eb] at h2
  refine calls_vc mo fn_87 rfl ok_87 (Nat.le_of_ble_eq_true rfl) nm_87 ?_
  (refine vsr ?_)
  (repeat refine vcl_v _ rfl rfl ?_); (refine vcl_end ?_)
  refine rnA (fa fo_56_1 _ _) ?_
  refine rnL na_54 ca rfl ?_
  refine ⟨_, _, ln se_54 _ _ _ _ _ _, ?_⟩
  refine ⟨_, bEqF (by omega), ?_⟩
  refine rnA (fa fo_56_1 _ _) ?_
  refine rnL na_54 cb rfl ?_
  refine ⟨_, _, ln se_54 _ _ _ _ _ _, ?_⟩
  refine ⟨_, bEqF (by omega), ?_⟩
  refine ⟨fun hc => (by cases hc), fun _ => ?_⟩
  refine (lehmerGCD_c hg hgk h hz hx ha hb nzx a1 b1 sa sb).mono ?_
  rintro v w1 ⟨rfl, hr⟩
  exact ⟨rfl, rfl, hr⟩

theorem ModInverse_c {w : World} {K : Nat → Prop} {S : Nat → Option Zn} {D : Nat → Option Nat} (hg : Gl w) (hgk : ∀ {w' : World}, Fm (fun b => ¬ K b) w w' → Gl w') (h : Sto w K S D) {z pg pn : Nat} {z0 : Zn} {g n : Nat} (hz : S z = some z0) (ha : S pg = some (false, g)) (hb : S pn = some (false, n)) (nzn : z ≠ pn)
    (a1 : 1 ≤ g) (b1 : 1 ≤ n) (sa : g < BW ^ 10) (sb : n < BW ^ 10) (hc : Nat.gcd g n = 1) :
    CallX P 72 #[pI z, pI pg, pI pn] w fun v w' => v = pI z ∧ ∃ S' D' X, Sto w' K S' D' ∧ Fm (fun b => ¬ K b) w w' ∧ S' z = some (zi X) ∧ X.natAbs < BW ^ 13 ∧ (∃ k : Int, 1 = X * g + k * n) ∧
      ∀ p, p < w.heap.size → p ≠ z → S' p = S p := by
  have ltS : ∀ {p : Nat} {v : Zn}, S p = some v → p < w.heap.size := fun hp => (h.int _ _ hp).lt
  obtain ⟨va, la, ca, _⟩ := (h.int _ _ ha).all
  obtain ⟨vb, lb, cb, _⟩ := (h.int _ _ hb).all
  have lz := ltS hz
  have lg := ltS ha
  have ln' := ltS hb
  refine calls_vc mo fn_72 rfl ok_72 (Nat.le_of_ble_eq_true rfl) nm_72 ?_
  (refine vsr ?_)
  (repeat refine vcl_v _ rfl rfl ?_); (refine vcl_end ?_)
  refine rnA (fa fo_56_0 _ _) ?_
  refine rnL na_4 cb rfl ?_
  refine ⟨fun hc => (by cases hc), fun _ => ?_⟩
  refine rnA (fa fo_56_0 _ _) ?_
  refine rnL na_4 ca rfl ?_
  refine ⟨fun hc => (by cases hc), fun _ => ?_⟩
  obtain ⟨w1, e1, c1, f1, s1⟩ := nwI w
  refine ⟨_, w1, e1, ?_⟩
  obtain ⟨D1, h1⟩ := h.new c1 f1
  have A1 : upd S w.heap.size (false, 0) w.heap.size = some (false, 0) := upd_self
  have o1 : ∀ p, p < w.heap.size → upd S w.heap.size (false, 0) p = S p := fun p hp => upd_ne (by omega)
  generalize upd S w.heap.size (false, 0) = S1 at *
  obtain ⟨w2, e2, c2, f2, s2⟩ := nwI w1
  refine ⟨_, w2, e2, ?_⟩
  obtain ⟨D2, h2⟩ := h1.new c2 f2
  have B2 : upd S1 w1.heap.size (false, 0) w1.heap.size = some (false, 0) := upd_self
  have A2 : upd S1 w1.heap.size (false, 0) w.heap.size = some (false, 0) := by rw [upd_ne (by omega)]; exact A1
  have o2 : ∀ p, p < w.heap.size → upd S1 w1.heap.size (false, 0) p = S p := fun p hp => by rw [upd_ne (by omega)]; exact o1 p hp
  generalize upd S1 w1.heap.size (false, 0) = S2 at *
  have F2 : Fm (fun b => ¬ K b) w w2 := (f1.mono (fun _ _ h => h.elim)).trans f2 (fun _ _ h => h.elim)
  refine (GCD_c (hgk F2) (fun f => hgk (F2.trans f (fun _ _ h => h))) h2 A2 B2 ((o2 pg lg).trans ha) ((o2 pn ln').trans hb) (by omega) a1 b1 sa sb).mono ?_
  rintro v w3 ⟨rfl, S3, D3, zx, h3, f3, A3, B3, hzx, ⟨k, hk⟩, o3⟩
  rw [hc] at A3 hk
  have F3 := F2.trans f3 (fun _ _ h => h)
  have z3 := f3.size
  have o3' : ∀ p, p < w.heap.size → S3 p = S p := fun p hp => by rw [o3 p (by omega) (by omega) (by omega)]; exact o2 p hp
  refine (intOne_c h3).mono ?_
  rintro v w4 ⟨q, D4, hq, rfl, h4, f4⟩
  have F4 := F3.trans f4 (fun _ _ h => h.elim)
  have q4 : upd S3 q (zi 1) q = some (zi 1) := upd_self
  have A4 : upd S3 q (zi 1) w.heap.size = some (false, 1) := by rw [upd_ne (by omega)]; exact A3
  have B4 : upd S3 q (zi 1) w1.heap.size = some zx := by rw [upd_ne (by omega)]; exact B3
  have o4 : ∀ p, p < w.heap.size → upd S3 q (zi 1) p = S p := fun p hp => by rw [upd_ne (by omega)]; exact o3' p hp
  generalize upd S3 q (zi 1) = S4 at *
  have hB : ∀ {x e : Nat}, x = 1 → x < BW ^ (e + 1) := fun {x e} h => by
    rw [h]
    have h1 : 1 ≤ BW ^ e := Nat.pow_pos BW_pos
    have h2 : BW ^ e * 2 ≤ BW ^ e * BW := Nat.mul_le_mul_left _ (by show 2 ≤ 18446744073709551616; omega)
    rw [Nat.pow_succ]
    omega
  refine (cmp_I h4 A4 q4 (by simp [Cln]) (by simp [Cln, zi]) (hB (e := 199) rfl) (hB (e := 199) rfl)).mono ?_
  rintro v w5 ⟨rfl, f5⟩
  have h5 := h4.fm f5 (fun _ h => h.elim)
  have F5 := F4.trans f5 (fun _ _ h => h.elim)
  refine ⟨_, bNeF (by rw [iv_zi]; rfl), ?_⟩
  refine ⟨fun hc => (by cases hc), fun _ => ?_⟩
  obtain ⟨vx, lx, cx, _⟩ := (h5.int _ _ B4).all
  refine rnA (fa fo_56_0 _ _) ?_
  refine rnL na_4 cx rfl ?_
  have z5 : S4 z = some z0 := (o4 z lz).trans hz
  have n5 : S4 pn = some (false, n) := (o4 pn ln').trans hb
  refine vcut (by repeat (first | exact moE _ _ _ | exact moEd _ _ _ | apply moB | apply moL | apply moV)) Unit (fun _ => ⟨[(0, pI z)], []⟩) (fun _ u => ∃ S' D' X, Sto u K S' D' ∧ Fm (fun b => ¬ K b) w u ∧ S' z = some (zi X) ∧ X.natAbs < BW ^ 13 ∧ (∃ k : Int, 1 = X * g + k * n) ∧
      ∀ p, p < w.heap.size → p ≠ z → S' p = S p) ?_ ?_
  · obtain ⟨sx, nx⟩ := zx
    cases sx with
    | true =>
      refine ⟨fun _ => ?_, fun hc => (by cases hc)⟩
      refine (add_I h5 z5 B4 n5 (lt_pow hzx (by omega)) (lt_pow sb (by omega))).mono ?_
      rintro v w6 ⟨_, D6, h6, f6⟩
      refine ⟨(), ⟨⟨rfl, trivial⟩, rfl⟩, _, D6, _, h6, F5.trans f6 (fun _ _ h => h), upd_self, ?_, ⟨k - g, ?_⟩, fun p hp hne => by rw [upd_ne hne]; exact o4 p hp⟩
      · have h7 := Int.natAbs_add_le (iv (true, nx)) (iv (false, n))
        rw [iv_abs, iv_abs] at h7
        dsimp only at h7 hzx
        have e1 : BW ^ 10 ≤ BW ^ 12 := pow_le_pow (by omega)
        have e2 : BW ^ 12 * 2 ≤ BW ^ 13 := by
          have h7 := Nat.mul_le_mul_left (BW ^ 12) (show 2 ≤ BW by show 2 ≤ 18446744073709551616; omega)
          rwa [← Nat.pow_succ] at h7
        generalize BW ^ 10 = p0 at *
        generalize BW ^ 12 = p1 at *
        generalize BW ^ 13 = p2 at *
        omega
      · have e3 : iv (false, n) = (n : Int) := rfl
        have e4 : ((1 : Nat) : Int) = 1 := rfl
        rw [e4] at hk
        rw [e3, hk, Int.add_mul, Int.sub_mul, Int.mul_comm (n : Int) (g : Int)]
        omega
    | false =>
      refine ⟨fun hc => (by cases hc), fun _ => ?_⟩
      refine (set_I h5 z5 B4 (lt_pow hzx (by omega))).mono ?_
      rintro v w6 ⟨_, D6, h6, f6⟩
      refine ⟨(), ⟨⟨rfl, trivial⟩, rfl⟩, _, D6, ((nx : Nat) : Int), h6, F5.trans f6 (fun _ _ h => h), ?_, ?_, ⟨k, ?_⟩, fun p hp hne => by rw [upd_ne hne]; exact o4 p hp⟩
      · rw [upd_self, zi_nat]
      · rw [Int.natAbs_natCast]
        dsimp only at hzx
        have : BW ^ 12 ≤ BW ^ 13 := pow_le_pow (by omega)
        omega
      · exact hk
  rintro _ u hu
  exact ⟨rfl, rfl, hu⟩

end Go.Vc
end
