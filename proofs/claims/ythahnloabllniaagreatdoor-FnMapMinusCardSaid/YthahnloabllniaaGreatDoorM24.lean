/- Int.Lsh, polynomial, IsOnCurve. -/
import Derived.Test.YthahnloabllniaaGreatDoorM23
section
set_option linter.unusedSimpArgs false
set_option linter.unusedVariables false
set_option maxRecDepth 20000
set_option maxHeartbeats 4000000
namespace Go.Vc
open Go.Proofs

theorem lshR {w0 w : World} {K : Nat → Prop} {ps : List Nat} {vs : List Zn} (R : Rs w0 w K ps vs) {i j z x : Nat} {a : Int} (ij : i ≠ j) (hz : ps[i]? = some z) (hx : ps[j]? = some x) (ha : vs[j]? = some (zi a)) (a0 : 0 ≤ a) (ba : a.natAbs < BW ^ 200) :
    CallX P 233 #[pI z, pI x, vw 1] w fun v w' => v = pI z ∧ Rs w0 w' K ps (vs.set i (zi (a * 2))) := by
  obtain ⟨S, D, h, hr, F⟩ := R.all
  have hi : i < vs.length := by rw [← hr.len]; exact (List.getElem?_eq_some_iff.1 hz).1
  have hne : x ≠ z := fun e => ij (nodup_ix hr.nd hz (by rw [← e]; exact hx))
  have hSz := hr.get hz (List.getElem?_eq_getElem hi)
  have hSx := hr.get hx ha
  obtain ⟨vz, lz, cz, oz, nz, ez⟩ := (h.int z _ hSz).all
  obtain ⟨vx, lx, cx, ox, nx, ex⟩ := (h.int x _ hSx).all
  have hsg : (zi a).1 = false := by simp [zi]; omega
  rw [hsg] at cx
  rw [zi2] at ex
  have hlx := nv_len nx (by rw [ex]; exact ba)
  refine calls_vc mo fn_233 rfl ok_233 (Nat.le_of_ble_eq_true rfl) nm_233 ?_
  (refine vsr ?_)
  (repeat refine vcl_v _ rfl rfl ?_); (refine vcl_end ?_)
  refine ⟨.take 0 (.take 1 (.take 2 (.take 3 (.take 4 (.take 5 (.take 6 (.take 7 (.take 8 (.take 9 (.one 10 [0] (.take 11 (.take 12 (.one 13 [] (.done)))))))))))))), by kernel_rfl, ?_⟩
  refine tkA (fa fo_56_1 _ _) ?_
  refine tkL na_54 cz rfl ?_
  refine tkA (fa fo_56_1 _ _) ?_
  refine tkL na_54 cx rfl ?_
  refine (lsh_c oz.drew ox.drew (by omega) (s := 1) (by omega) (by omega)).mono ?_
  rintro v w1 hres
  refine ⟨trivial, ?_⟩
  refine tkA (fa fo_56_1 _ _) ?_
  obtain ⟨w2, e2, D2, h2, f2⟩ := h.stAbs hSz hres.undrew
  refine ⟨w2, e2, ?_⟩
  refine ⟨trivial, ?_⟩
  obtain ⟨vx2, lx2, cx2, _⟩ := (h2.int x _ (by rw [upd_ne hne]; exact hSx)).all
  rw [hsg] at cx2
  refine rnA (fa fo_56_0 _ _) ?_
  refine rnL na_4 cx2 rfl ?_
  refine rnA (fa fo_56_0 _ _) ?_
  obtain ⟨w3, e3, r3⟩ := h2.stNeg upd_self false
  refine ⟨w3, e3, ?_⟩
  refine ⟨rfl, rfl, ?_⟩
  have e : ((false, nv lx * 2 ^ 1) : Zn) = zi (a * 2) := by
    rw [ex]
    obtain ⟨n, rfl⟩ : ∃ n : Nat, a = (n : Int) := ⟨a.toNat, by omega⟩
    rw [Int.natAbs_natCast, show (n : Int) * 2 = ((n * 2 : Nat) : Int) by rw [Int.natCast_mul]; rfl, zi_nat]
  have r4 := IR.trans f2 r3
  dsimp only at r4
  rw [e] at r4
  exact Rs.up hr F i hz r4

theorem cmp_neg {x y : Int} (h : x < y) : cmpZ x y = -1 := by unfold cmpZ; rw [if_pos h]
theorem cmp_nn {x : Int} (h : 0 ≤ x) : ¬ cmpZ x 0 < 0 := by
  unfold cmpZ
  rw [if_neg (by omega)]
  split <;> decide

/-- The right side of the curve's equation. -/
def rhs (p : Nat) (B x : Int) : Int := (x * x * x - (x * 2 + x) + B) % (p : Int)

theorem poly_c {w0 w : World} {K : Nat → Prop} {be : Addr} {p : Nat} {B x y : Int} {va vb v4 : Zn} (E : Env w0 K be) {pp pb px py xa xb p4 c bits : Nat} (R : Rs w0 w K [pp, pb, px, py, xa, xb, p4] [(false, p), zi B, zi x, zi y, va, vb, v4]) (hCu : Cu w0 c pp pb bits) (hKc : K c) (p1 : 1 < p) (p2 : p < BW ^ 9)
    (x0 : 0 ≤ x) (x1 : x < p) (b0 : 0 ≤ B) (b1 : B < p) :
    CallX P 231 #[pC c, pI px] w fun v w' => ∃ q q', v = pI q ∧ Rs w0 w' K [pp, pb, px, py, xa, xb, p4, q, q'] [(false, p), zi B, zi x, zi y, va, vb, v4, zi (rhs p B x), zi (x * 2 + x)] := by
  have bx : x.natAbs < BW ^ 9 := by omega
  have bB : B.natAbs < BW ^ 9 := by omega
  have b2 := mul_nabs bx bx
  have b3 := mul_nabs b2 bx
  have bd2 : (x * 2).natAbs < BW ^ 10 := by
    rw [Int.natAbs_mul]
    have h1 : x.natAbs * 2 < BW ^ 9 * 2 := by omega
    have h2 : BW ^ 9 * 2 ≤ BW ^ 10 := by
      have h7 := Nat.mul_le_mul_left (BW ^ 9) (show 2 ≤ BW by decide)
      rwa [← Nat.pow_succ] at h7
    exact Nat.lt_of_lt_of_le h1 h2
  have sm : ∀ {a b : Int} {m : Nat}, a.natAbs < BW ^ m → b.natAbs < BW ^ m → (a + b).natAbs < BW ^ (m + 1) ∧ (a - b).natAbs < BW ^ (m + 1) := fun {a b m} h1 h2 => by
    have h7 := Nat.mul_le_mul_left (BW ^ m) (show 2 ≤ BW by decide)
    rw [← Nat.pow_succ] at h7
    constructor
    · have := Int.natAbs_add_le a b
      exact Nat.lt_of_lt_of_le (by omega) h7
    · have := Int.natAbs_sub_le a b
      exact Nat.lt_of_lt_of_le (by omega) h7
  have bd3 := (sm bd2 (lt_pow bx (by omega))).1
  have bd4 := (sm (m := 30) (lt_pow b3 (by omega)) (lt_pow bd3 (by omega))).2
  have bd5 := (sm (m := 31) bd4 (lt_pow bB (by omega))).1
  refine calls_vc mo fn_231 rfl ok_231 (Nat.le_of_ble_eq_true rfl) nm_231 ?_
  (refine vsr ?_)
  (repeat refine vcl_v _ rfl rfl ?_); (refine vcl_end ?_)
  (refine vsr ?_)
  obtain ⟨q, w1, e1, R1, -⟩ := alI R
  refine ⟨_, w1, e1, ?_⟩
  replace R1 : Rs w0 w1 K [pp, pb, px, py, xa, xb, p4, q] [(false, p), zi B, zi x, zi y, va, vb, v4, (false, 0)] := R1
  refine (mulR E R1 (i := 7) (j := 2) (k := 2) rfl rfl rfl rfl rfl (lt_pow bx (by omega)) (lt_pow bx (by omega)) (fun _ => lt_pow bx (by omega))).mono ?_
  rintro _ w2 ⟨rfl, R2⟩
  replace R2 : Rs w0 w2 K [pp, pb, px, py, xa, xb, p4, q] [(false, p), zi B, zi x, zi y, va, vb, v4, zi (x * x)] := R2
  refine (mulR E R2 (i := 7) (j := 7) (k := 2) rfl rfl rfl rfl rfl (lt_pow b2 (by omega)) (lt_pow bx (by omega)) (fun e => by cases e)).mono ?_
  rintro _ w3 ⟨rfl, R3⟩
  replace R3 : Rs w0 w3 K [pp, pb, px, py, xa, xb, p4, q] [(false, p), zi B, zi x, zi y, va, vb, v4, zi (x * x * x)] := R3
  obtain ⟨q', w4, e4, R4, -⟩ := alI R3
  refine ⟨_, w4, e4, ?_⟩
  replace R4 : Rs w0 w4 K [pp, pb, px, py, xa, xb, p4, q, q'] [(false, p), zi B, zi x, zi y, va, vb, v4, zi (x * x * x), (false, 0)] := R4
  refine (lshR R4 (i := 8) (j := 2) (by decide) rfl rfl rfl x0 (lt_pow bx (by omega))).mono ?_
  rintro _ w5 ⟨rfl, R5⟩
  replace R5 : Rs w0 w5 K [pp, pb, px, py, xa, xb, p4, q, q'] [(false, p), zi B, zi x, zi y, va, vb, v4, zi (x * x * x), zi (x * 2)] := R5
  refine (addR R5 (i := 8) (j := 8) (k := 2) rfl rfl rfl rfl rfl (lt_pow bd2 (by omega)) (lt_pow bx (by omega))).mono ?_
  rintro _ w6 ⟨rfl, R6⟩
  replace R6 : Rs w0 w6 K [pp, pb, px, py, xa, xb, p4, q, q'] [(false, p), zi B, zi x, zi y, va, vb, v4, zi (x * x * x), zi (x * 2 + x)] := R6
  refine (subR R6 (i := 7) (j := 7) (k := 8) rfl rfl rfl rfl rfl (lt_pow b3 (by omega)) (lt_pow bd3 (by omega))).mono ?_
  rintro _ w7 ⟨rfl, R7⟩
  replace R7 : Rs w0 w7 K [pp, pb, px, py, xa, xb, p4, q, q'] [(false, p), zi B, zi x, zi y, va, vb, v4, zi (x * x * x - (x * 2 + x)), zi (x * 2 + x)] := R7
  obtain ⟨qn, qx, qy, nm, hcl⟩ := (hCu.fm R7.fm (fun h => h hKc)).all
  refine rnA (fa fo_94_2 _ _) ?_
  refine rnL na_52 hcl rfl ?_
  refine (addR R7 (i := 7) (j := 7) (k := 1) rfl rfl rfl rfl rfl (lt_pow bd4 (by omega)) (lt_pow bB (by omega))).mono ?_
  rintro _ w8 ⟨rfl, R8⟩
  replace R8 : Rs w0 w8 K [pp, pb, px, py, xa, xb, p4, q, q'] [(false, p), zi B, zi x, zi y, va, vb, v4, zi (x * x * x - (x * 2 + x) + B), zi (x * 2 + x)] := R8
  obtain ⟨qn, qx, qy, nm, hcl⟩ := (hCu.fm R8.fm (fun h => h hKc)).all
  refine rnA (fa fo_94_0 _ _) ?_
  refine rnL na_52 hcl rfl ?_
  refine (modR E R8 rfl rfl p1 (lt_pow p2 (by omega)) (i := 7) (j := 7) (by decide) rfl rfl rfl (lt_pow bd5 (by omega))).mono ?_
  rintro _ w9 ⟨rfl, R9⟩
  exact ⟨rfl, q, q', rfl, R9⟩

theorem bGeN {x y : Int} (h : x < y) : binV .geq .i64 .i64 (cmpZ (iv (zi x)) (iv (zi y))) 0 = some (.bool false) := by
  rw [iv_zi, iv_zi, cmp_neg h]; exact bGeF (by decide)
theorem bLtN {x : Int} (h : 0 ≤ x) : binV .lss .i64 .i64 (cmpZ (iv (zi x)) 0) 0 = some (.bool false) := by
  rw [iv_zi]; exact bLtF (cmp_nn h)

theorem isOn_c {w0 w : World} {K : Nat → Prop} {be : Addr} {p : Nat} {B x y : Int} {va vb : Zn} (E : Env w0 K be) {pp pb px py xa xb c bits : Nat} (R : Rs w0 w K [pp, pb, px, py, xa, xb] [(false, p), zi B, zi x, zi y, va, vb]) (hCu : Cu w0 c pp pb bits) (hKc : K c) (p1 : 1 < p) (p2 : p < BW ^ 9)
    (x0 : 0 ≤ x) (x1 : x < p) (y0 : 0 ≤ y) (y1 : y < p) (b0 : 0 ≤ B) (b1 : B < p) (hon : rhs p B x = y * y % (p : Int)) :
    CallX P 242 #[pC c, pI px, pI py] w fun v w' => v = .bool true ∧ ∃ vs' qs, Rs w0 w' K ([pp, pb, px, py, xa, xb] ++ qs) ([(false, p), zi B, zi x, zi y, va, vb] ++ vs') := by
  have by_ : y.natAbs < BW ^ 9 := by omega
  have bx : x.natAbs < BW ^ 9 := by omega
  have bp : ((p : Int)).natAbs < BW ^ 9 := by omega
  have hvp : ∀ {l : List Zn}, ((false, p) :: l)[0]? = some (zi (p : Int)) := fun {l} => by rw [zi_nat]; rfl
  have bl : ∀ z : Int, (z % (p : Int)).natAbs < BW ^ 9 := fun z => Nat.lt_trans (Int.emod_natAbs (by omega)) p2
  refine calls_vc mo fn_242 rfl ok_242 (Nat.le_of_ble_eq_true rfl) nm_242 ?_
  (refine vsr ?_)
  (repeat refine vcl_v _ rfl rfl ?_); (refine vcl_end ?_)
  refine (signR R (i := 2) (a := x) rfl rfl).mono ?_
  rintro _ _ ⟨rfl, rfl⟩
  refine ⟨_, bLtN x0, ?_⟩
  obtain ⟨qn, qx, qy, nm, hcl⟩ := (hCu.fm R.fm (fun h => h hKc)).all
  refine rnA (fa fo_94_0 _ _) ?_
  refine rnL na_52 hcl rfl ?_
  refine (cmpR R (i := 2) (j := 0) rfl rfl rfl hvp (lt_pow bx (by omega)) (lt_pow bp (by omega))).mono ?_
  rintro _ w1 ⟨rfl, R1⟩
  refine ⟨_, bGeN x1, ?_⟩
  refine (signR R1 (i := 3) (a := y) rfl rfl).mono ?_
  rintro _ _ ⟨rfl, rfl⟩
  refine ⟨_, bLtN y0, ?_⟩
  obtain ⟨qn, qx, qy, nm, hcl⟩ := (hCu.fm R1.fm (fun h => h hKc)).all
  refine rnA (fa fo_94_0 _ _) ?_
  refine rnL na_52 hcl rfl ?_
  refine (cmpR R1 (i := 3) (j := 0) rfl rfl rfl hvp (lt_pow by_ (by omega)) (lt_pow bp (by omega))).mono ?_
  rintro _ w2 ⟨rfl, R2⟩
  refine ⟨_, bGeN y1, ?_⟩
  refine ⟨fun hc => (by cases hc), fun _ => ?_⟩
  obtain ⟨q4, w3, e3, R3, -⟩ := alI R2
  refine ⟨_, w3, e3, ?_⟩
  replace R3 : Rs w0 w3 K [pp, pb, px, py, xa, xb, q4] [(false, p), zi B, zi x, zi y, va, vb, (false, 0)] := R3
  refine (mulR E R3 (i := 6) (j := 3) (k := 3) rfl rfl rfl rfl rfl (lt_pow by_ (by omega)) (lt_pow by_ (by omega)) (fun _ => lt_pow by_ (by omega))).mono ?_
  rintro _ w4 ⟨rfl, R4⟩
  replace R4 : Rs w0 w4 K [pp, pb, px, py, xa, xb, q4] [(false, p), zi B, zi x, zi y, va, vb, zi (y * y)] := R4
  obtain ⟨qn, qx, qy, nm, hcl⟩ := (hCu.fm R4.fm (fun h => h hKc)).all
  refine rnA (fa fo_94_0 _ _) ?_
  refine rnL na_52 hcl rfl ?_
  refine (modR E R4 rfl rfl p1 (lt_pow p2 (by omega)) (i := 6) (j := 6) (by decide) rfl rfl rfl (lt_pow (mul_nabs by_ by_) (by omega))).mono ?_
  rintro _ w5 ⟨rfl, R5⟩
  replace R5 : Rs w0 w5 K [pp, pb, px, py, xa, xb, q4] [(false, p), zi B, zi x, zi y, va, vb, zi (y * y % (p : Int))] := R5
  refine (poly_c E R5 hCu hKc p1 p2 x0 x1 b0 b1).mono ?_
  rintro _ w6 ⟨q5, q6, rfl, R6⟩
  refine (cmpR R6 (i := 7) (j := 6) (a := rhs p B x) (b := y * y % (p : Int)) rfl rfl rfl rfl (lt_pow (bl _) (by omega)) (lt_pow (bl _) (by omega))).mono ?_
  rintro _ w7 ⟨rfl, R7⟩
  refine ⟨_, bCmp _ _, ?_⟩
  rw [decide_eq_true hon]
  exact ⟨rfl, rfl, [_, _, _], [q4, q5, q6], R7⟩

end Go.Vc
end

section
/- append of bytes, Unmarshal, NewElement. -/
set_option linter.unusedSimpArgs false
set_option linter.unusedVariables false
set_option maxRecDepth 20000
set_option maxHeartbeats 4000000
namespace Go.Vc
open Go.Proofs

theorem byte_info : ∃ i : TypeInfo, P.info? 5 = some i ∧ i.size = 1 ∧ i.zero = some (.int .u8 0) ∧ i.bytes ≤ 64 := by
  have h1 : szOf 5 = some 1 := sz_5
  have h2 : zeroOf 5 = some (.int .u8 0) := by kernel_rfl
  have h3 : byOk 5 = true := by kernel_rfl
  unfold szOf at h1; unfold zeroOf at h2; unfold byOk at h3
  cases hi : P.info? 5 with
  | none => rw [hi] at h1; cases h1
  | some i =>
    rw [hi] at h1 h2 h3
    exact ⟨i, rfl, by simpa using h1, by simpa using h2, Nat.le_of_ble_eq_true h3⟩

/-- append(v, y...), of bytes. -/
theorem apB {w : World} {g len a : Nat} {Z Y : List Nat} (hg : Bd w g Z) (hl : len ≤ Z.length) (hlen : len ≤ 5000) (hY : Bd w a Y) (h0 : 0 < Y.length) (hY2 : Y.length ≤ 5000) (hc : Z.length < 9223372036854775808) (ty : TypeId) (cs : Array Bool) :
    ∃ w' g' Z', (builtin .append #[22, 22] ty cs #[.slice (some ⟨g, 0, none⟩) len Z.length, .slice (some ⟨a, 0, none⟩) Y.length Y.length]).run P w = .ok (.value (.slice (some ⟨g', 0, none⟩) (len + Y.length) Z'.length)) w' ∧ Bd w' g' Z' ∧ Z'.take (len + Y.length) = Z.take len ++ Y ∧ len + Y.length ≤ Z'.length ∧ Z'.length < 9223372036854775808 ∧ (g' = g ∨ w.heap.size ≤ g') ∧ Fm (· = g) w w' := by
  obtain ⟨hu, hsz⟩ := slElem_spec se_22
  obtain ⟨i, hi, hi1, hi2, hi3⟩ := byte_info
  have hnews : ∀ j u, (vbs Y)[j]? = some u → w.cell? ((⟨a, 0, none⟩ : Addr).add j) = some u := fun j u hj => by
    have hj2 : j < Y.length := by
      have := (List.getElem?_eq_some_iff.1 hj).1
      rwa [vbs_len] at this
    rw [vbs_get hj2] at hj
    cases hj
    rw [addr_add, Nat.zero_add]
    exact hY.cell hj2
  rcases Nat.lt_or_ge Z.length (len + Y.length) with h1 | h1
  · have holds : ∀ j u, (vbs (Z.take len))[j]? = some u → w.cell? ((⟨g, 0, none⟩ : Addr).add j) = some u := fun j u hj => by
      have hj2 : j < (Z.take len).length := by
        have := (List.getElem?_eq_some_iff.1 hj).1
        rwa [vbs_len] at this
      rw [vbs_get hj2] at hj
      cases hj
      rw [List.length_take] at hj2
      rw [addr_add, Nat.zero_add, dg_take (by omega)]
      exact hg.cell (by omega)
    have hr := run_append_grow (P := P) w 22 ty 5 i (.int .u8 0) hu hi hi2 ⟨g, 0, none⟩ len Z.length (vbs (Z.take len)) (by rw [vbs_len, hi1, List.length_take]; omega) holds ⟨a, 0, none⟩ Y.length Y.length (vbs Y) (by rw [vbs_len, hi1, Nat.mul_one]) hnews (by omega) (by omega)
      (growslice_fits (by omega) (by have : (len + Y.length) * i.bytes ≤ 10000 * 64 := Nat.mul_le_mul (by omega) hi3; omega))
    have h3 := grownCap_ge w (len + Y.length) Z.length 5
    have h2 := grownCap_le_maxLen w (len + Y.length) Z.length 5 (by simp [maxLen]; omega)
    simp only [maxLen] at h2
    generalize grownCap w (len + Y.length) Z.length 5 = c at *
    have hrow : ((vbs (Z.take len)).toArray ++ (vbs Y).toArray ++ Builtin.zeroCells (Value.int .u8 0).cells (c - (len + Y.length))) = (vbs (Z.take len ++ Y ++ List.replicate (c - (len + Y.length)) 0)).toArray := by
      rw [show (Value.int .u8 0).cells = #[.int .u8 0] from rfl, zeroCells_one]
      apply Array.toList_inj.1
      simp [vbs]
    rw [hrow] at hr
    have ht : (Z.take len).length = len := by rw [List.length_take]; omega
    have hL : (Z.take len ++ Y ++ List.replicate (c - (len + Y.length)) 0).length = c := by
      rw [List.length_append, List.length_append, ht, List.length_replicate]; omega
    refine ⟨w.drew.alloc (.cells (vbs (Z.take len ++ Y ++ List.replicate (c - (len + Y.length)) 0)).toArray 5), w.heap.size, Z.take len ++ Y ++ List.replicate (c - (len + Y.length)) 0, ?_, ⟨alloc_new (w := w.drew) _ _, ?_⟩, ?_, by omega, by omega, .inr (Nat.le_refl _), ((alloc_fm w.drew _).drew').mono (fun _ _ h => h.elim)⟩
    · rw [hL]
      simp only [builtin, Sem.run_bind, hr, Result.andThen_ok]
      rfl
    · exact BF.append (BF.append (hg.bf.take len) hY.bf) (fun y hy => by rw [List.eq_of_mem_replicate hy]; omega)
    · rw [List.take_append_of_le_length (by rw [List.length_append, ht]; omega), List.take_of_length_le (by rw [List.length_append, ht]; omega)]
  · have hr := run_append_room (P := P) w 22 ty 5 i hu hi g len Z.length (vbs Z).toArray hg.cl ⟨a, 0, none⟩ Y.length Y.length (vbs Y) (by rw [vbs_len, hi1, Nat.mul_one]) hnews (by
      intro u hu
      obtain ⟨y, _, rfl⟩ := List.mem_map.1 hu
      rfl) h1 (by rw [hi1, vbs_len]; simp [vbs_len]; omega)
    have hset : ((vbs Z).toArray.toList.take (len * i.size) ++ vbs Y ++ (vbs Z).toArray.toList.drop (len * i.size + (vbs Y).length)) = vbs (Z.take len ++ Y ++ Z.drop (len + Y.length)) := by
      rw [hi1, Nat.mul_one, vbs_len]
      simp [vbs, List.map_take, List.map_drop]
    rw [hset] at hr
    have ht : (Z.take len).length = len := by rw [List.length_take]; omega
    have hL : (Z.take len ++ Y ++ Z.drop (len + Y.length)).length = Z.length := by
      rw [List.length_append, List.length_append, ht, List.length_drop]; omega
    refine ⟨w.setRow g (vbs (Z.take len ++ Y ++ Z.drop (len + Y.length))).toArray, g, Z.take len ++ Y ++ Z.drop (len + Y.length), ?_, ⟨setRow_heap w g (vbs Z).toArray _ 5 _ hg.cl, ?_⟩, ?_, by omega, by omega, .inl rfl, ⟨rfl, rfl, rfl, by simp, fun k _ hk => setRow_other w g k _ (fun e => hk e)⟩⟩
    · rw [hL]
      simp only [builtin, Sem.run_bind, hr, Result.andThen_ok]
      rfl
    · exact BF.append (BF.append (hg.bf.take len) hY.bf) (hg.bf.drop _)
    · rw [List.take_append_of_le_length (by rw [List.length_append, ht]; omega), List.take_of_length_le (by rw [List.length_append, ht]; omega)]

theorem mIO (c : Nat) (w : World) : (method (P.types.size + Made.depth) 83 (pC c) "IsOnCurve").run P w = .ok (242, pC c) w := by kernel_rfl

theorem unmarshal_c {w0 w : World} {K : Nat → Prop} {be : Addr} {p bits : Nat} {B : Int} {va vb : Zn} (E : Env w0 K be) {pp pb xa xb c bd cap : Nat} {X Y : List Nat} (R : Rs w0 w K [pp, pb, xa, xb] [(false, p), zi B, va, vb]) (hCu : Cu w0 c pp pb bits) (hKc : K c) (hb : bits < 1000)
    (hd : Rb w0 bd 0 (4 :: (X ++ Y))) (hKd : K bd) (hX : X.length = nb bits) (hY : Y.length = nb bits) (hn0 : 0 < nb bits) (hcap : 1 + 2 * nb bits ≤ cap) (hcap2 : cap < 9223372036854775808) (p1 : 1 < p) (p2 : p < BW ^ 9)
    (x1 : bev X < p) (y1 : bev Y < p) (b0 : 0 ≤ B) (b1 : B < p) (hon : rhs p B (bev X : Int) = (bev Y : Int) * (bev Y : Int) % (p : Int)) :
    CallX P 230 #[cvV c, .slice (some ⟨bd, 0, none⟩) (1 + 2 * nb bits) cap] w fun v w' => ∃ q1 q2, v = .tuple #[pI q1, pI q2] ∧ Rs w0 w' K [pp, pb, xa, xb] [(false, p), zi B, va, vb] := by
  have hn := nb_lt hb
  have hlen : (4 :: (X ++ Y)).length = 1 + 2 * nb bits := by simp; omega
  have hvp : ∀ {l : List Zn}, ((false, p) :: l)[0]? = some (zi (p : Int)) := fun {l} => by rw [zi_nat]; rfl
  have hdX : ((4 :: (X ++ Y)).drop 1).take (nb bits) = X := by rw [List.drop_one, List.tail_cons, List.take_left' hX]
  have hdY : ((4 :: (X ++ Y)).drop (1 + nb bits)).take (nb bits) = Y := by
    rw [Nat.add_comm, List.drop_succ_cons, List.drop_left' hX, List.take_of_length_le (by omega)]
  refine calls_vc mo fn_230 rfl ok_230 (Nat.le_of_ble_eq_true rfl) nm_230 ?_
  (refine vsr ?_)
  (repeat refine vcl_v _ rfl rfl ?_); (refine vcl_end ?_)
  (refine vsr ?_)
  refine ⟨_, _, mPar _ _, ?_⟩
  refine (params_c c _).mono ?_
  rintro _ _ ⟨rfl, rfl⟩
  obtain ⟨qn, qx, qy, nm, hcl⟩ := (hCu.fm R.fm (fun h => h hKc)).all
  refine rnA (fa fo_94_5 _ _) ?_
  refine rnL na_3 hcl rfl ?_
  refine ⟨_, nAdd bits 7 (by omega), ?_⟩
  refine ⟨_, nQuo (a := bits + 7) (b := 8) (by omega) (by omega), ?_⟩
  rw [show (bits + 7) / 8 = nb bits from rfl]
  (repeat refine vcl_v _ rfl rfl ?_); (refine vcl_end ?_)
  refine ⟨_, _, ln se_22 _ _ _ _ _ _, ?_⟩
  refine ⟨_, nMul 2 (nb bits) (by omega), ?_⟩
  refine ⟨_, nAdd 1 (2 * nb bits) (by omega), ?_⟩
  refine ⟨_, bNeF rfl, ?_⟩
  refine ⟨fun hc => (by cases hc), fun _ => ?_⟩
  refine rnA (ia se_22 (i := 0) _ (by omega)) ?_
  have hd1 := hd.fm R.fm (fun h => h hKd)
  refine rnC na_5 (hd1.cell (i := 0) (by omega)) ?_
  refine ⟨_, bNeF rfl, ?_⟩
  refine ⟨fun hc => (by cases hc), fun _ => ?_⟩
  refine ⟨_, _, mPar _ _, ?_⟩
  refine (params_c c _).mono ?_
  rintro _ _ ⟨rfl, rfl⟩
  refine rnA (fa fo_94_0 _ _) ?_
  refine rnL na_52 hcl rfl ?_
  obtain ⟨q1, w1, e1, R1, -⟩ := alI R
  refine ⟨_, w1, e1, ?_⟩
  replace R1 : Rs w0 w1 K [pp, pb, xa, xb, q1] [(false, p), zi B, va, vb, (false, 0)] := R1
  refine ⟨_, nAdd 1 (nb bits) (by omega), ?_⟩
  refine rnA (sl se_22 (lo := 1) (hi := 1 + nb bits) _ _ (by omega) (by omega)) ?_
  rw [subA_some (by omega), show 1 + nb bits - 1 = X.length by omega]
  have hd2 := (hd.fm R1.fm (fun h => h hKd)).sub 1 (nb bits) (by omega)
  rw [hdX] at hd2
  refine (setBytesR R1 (i := 4) rfl (Sb.of_rb hd2) (by omega) (by omega) (by omega)).mono ?_
  rintro _ w2 ⟨rfl, R2⟩
  replace R2 : Rs w0 w2 K [pp, pb, xa, xb, q1] [(false, p), zi B, va, vb, zi (bev X : Int)] := R2
  obtain ⟨q2, w3, e3, R3, -⟩ := alI R2
  refine ⟨_, w3, e3, ?_⟩
  replace R3 : Rs w0 w3 K [pp, pb, xa, xb, q1, q2] [(false, p), zi B, va, vb, zi (bev X : Int), (false, 0)] := R3
  refine ⟨_, nAdd 1 (nb bits) (by omega), ?_⟩
  refine rnA (slLo se_22 (lo := 1 + nb bits) _ (by omega)) ?_
  rw [subA_some (by omega), show 1 + 2 * nb bits - (1 + nb bits) = Y.length by omega]
  have hd3 := (hd.fm R3.fm (fun h => h hKd)).sub (1 + nb bits) (nb bits) (by omega)
  rw [hdY] at hd3
  refine (setBytesR R3 (i := 5) rfl (Sb.of_rb hd3) (by omega) (by omega) (by omega)).mono ?_
  rintro _ w4 ⟨rfl, R4⟩
  replace R4 : Rs w0 w4 K [pp, pb, xa, xb, q1, q2] [(false, p), zi B, va, vb, zi (bev X : Int), zi (bev Y : Int)] := R4
  refine (cmpR R4 (i := 4) (j := 0) rfl rfl rfl hvp (lt_pow (a := 9) (by omega) (by omega)) (lt_pow (a := 9) (by omega) (by omega))).mono ?_
  rintro _ w5 ⟨rfl, R5⟩
  refine ⟨_, bGeN (by omega), ?_⟩
  refine (cmpR R5 (i := 5) (j := 0) rfl rfl rfl hvp (lt_pow (a := 9) (by omega) (by omega)) (lt_pow (a := 9) (by omega) (by omega))).mono ?_
  rintro _ w6 ⟨rfl, R6⟩
  refine ⟨_, bGeN (by omega), ?_⟩
  refine ⟨fun hc => (by cases hc), fun _ => ?_⟩
  have R7 := R6.sel [0, 1, 4, 5, 2, 3] (by decide) (by show ∀ i ∈ [0, 1, 4, 5, 2, 3], i < 6; decide)
  replace R7 : Rs w0 w6 K [pp, pb, q1, q2, xa, xb] [(false, p), zi B, zi (bev X : Int), zi (bev Y : Int), va, vb] := R7
  refine ⟨_, _, mIO c _, ?_⟩
  refine (isOn_c E R7 hCu hKc p1 p2 (by omega) (by omega) (by omega) (by omega) b0 b1 hon).mono ?_
  rintro _ w7 ⟨rfl, vs', qs, R8⟩
  refine ⟨fun hc => (by cases hc), fun _ => ?_⟩
  have R9 := R8.sel [0, 1, 4, 5] (by decide) (by intro i hi; simp at hi; simp; omega)
  exact ⟨rfl, q1, q2, rfl, R9⟩

theorem zeroElt_c {w0 w : World} {K : Nat → Prop} {be : Addr} {c : Nat} {oa : Option Addr} {on oc : Nat} {ps : List Nat} {vs : List Zn} (E : Env w0 K be) (R : Rs w0 w K ps vs) :
    CallX P 210 #[wgV c (.slice oa on oc)] w fun v w' => ∃ e ex ey K', v = pC e ∧ Cl w' e [pI ex, pI ey, cvV c, .slice oa on oc] 91 ∧ K' e ∧ (∀ b, K b → K' b) ∧ Env w' K' be ∧ Rs w' w' K' (ps ++ [ex] ++ [ey]) (vs ++ [(false, 0)] ++ [(false, 0)]) ∧ Fm (fun b => ¬ K b) w0 w' := by
  refine calls_vc mo fn_210 rfl ok_210 (Nat.le_of_ble_eq_true rfl) nm_210 ?_
  (refine vsr ?_)
  obtain ⟨g1, e1, cg1, fg1, sg1⟩ := bx 73 (v := wgV c (.slice oa on oc)) (cs := [cvV c, .slice oa on oc]) rfl w
  refine ⟨_, g1, e1, ?_⟩
  (repeat refine vcl_v _ rfl rfl ?_); (refine vcl_end ?_)
  obtain ⟨K1, E1, R1, hsub1, hnew1, hout1⟩ := keepR E R fg1
  have hK1 : K1 w.heap.size := hnew1 _ (Nat.le_refl _) (by omega)
  (refine vsr ?_)
  obtain ⟨ex, w1, e1, R2, -⟩ := alI R1
  refine ⟨_, w1, e1, ?_⟩
  obtain ⟨ey, w2, e2, R3, -⟩ := alI R2
  refine ⟨_, w2, e2, ?_⟩
  refine rnR (ldAg (by kernel_rfl) sz_73 (R3.cl cg1 hK1) rfl rfl) ?_
  refine rnA (bldE _ _ _ _ _ _) ?_
  obtain ⟨w3, e3, c3, f3, s3⟩ := bx 91 (v := .agg #[pI ex, pI ey, cvV c, .slice oa on oc]) (cs := [pI ex, pI ey, cvV c, .slice oa on oc]) rfl w2
  refine ⟨_, w3, e3, ?_⟩
  obtain ⟨K2, E2, R4, hsub2, hnew2, hout2⟩ := keepR E1 R3 f3
  exact ⟨rfl, w2.heap.size, ex, ey, K2, rfl, c3, hnew2 _ (Nat.le_refl _) (by omega), fun b hb => hsub2 b (hsub1 b hb), E2, R4, hout1 (hout2 (Fm.refl _ _))⟩

theorem mNE (c : Nat) (o : Value) (w : World) : (method (P.types.size + Made.depth) 73 (wgV c o) "NewElement").run P w = .ok (203, wgV c o) w := by kernel_rfl

theorem newElt_c {w0 w : World} {K : Nat → Prop} {be : Addr} {c : Nat} {oa : Option Addr} {on oc : Nat} {ps : List Nat} {vs : List Zn} (E : Env w0 K be) (R : Rs w0 w K ps vs) :
    CallX P 203 #[wgV c (.slice oa on oc)] w fun v w' => ∃ e ex ey K', v = .iface 78 (pC e) ∧ Cl w' e [pI ex, pI ey, cvV c, .slice oa on oc] 91 ∧ K' e ∧ (∀ b, K b → K' b) ∧ Env w' K' be ∧ Rs w' w' K' (ps ++ [ex] ++ [ey]) (vs ++ [(false, 0)] ++ [(false, 0)]) ∧ Fm (fun b => ¬ K b) w0 w' := by
  refine calls_vc mo fn_203 rfl ok_203 (Nat.le_of_ble_eq_true rfl) nm_203 ?_
  (refine vsr ?_)
  obtain ⟨g1, e1, cg1, fg1, sg1⟩ := bx 73 (v := wgV c (.slice oa on oc)) (cs := [cvV c, .slice oa on oc]) rfl w
  refine ⟨_, g1, e1, ?_⟩
  (repeat refine vcl_v _ rfl rfl ?_); (refine vcl_end ?_)
  (refine vsr ?_)
  refine rnR (ldAg (by kernel_rfl) sz_73 cg1 rfl rfl) ?_
  refine (zeroElt_c E (R.un fg1 (fun _ h => h.elim))).mono ?_
  rintro _ w2 ⟨e, ex, ey, K', rfl, h⟩
  refine rnA (mkIE e) ?_
  exact ⟨rfl, e, ex, ey, K', rfl, h⟩

end Go.Vc
end

section
/- UnmarshalBinary, elementOf. -/
set_option linter.unusedSimpArgs false
set_option linter.unusedVariables false
set_option maxRecDepth 20000
set_option maxHeartbeats 4000000
namespace Go.Vc
open Go.Proofs

theorem unmarshalB_c {w0 w : World} {K : Nat → Prop} {be : Addr} {p bits : Nat} {B : Int} {va vb : Zn} (E : Env w0 K be) {pp pb ex ey e c bd cap : Nat} {oa : Option Addr} {on oc : Nat} {X Y : List Nat} (R : Rs w0 w K [pp, pb, ex, ey] [(false, p), zi B, va, vb]) (hCu : Cu w0 c pp pb bits) (hKc : K c) (hb : bits < 1000)
    (ce : Cl w0 e [pI ex, pI ey, cvV c, .slice oa on oc] 91) (hKe : K e)
    (hd : Rb w0 bd 0 (4 :: (X ++ Y))) (hKd : K bd) (hX : X.length = nb bits) (hY : Y.length = nb bits) (hn0 : 0 < nb bits) (hcap : 1 + 2 * nb bits ≤ cap) (hcap2 : cap < 9223372036854775808) (p1 : 1 < p) (p2 : p < BW ^ 9)
    (x1 : bev X < p) (y1 : bev Y < p) (b0 : 0 ≤ B) (b1 : B < p) (hon : rhs p B (bev X : Int) = (bev Y : Int) * (bev Y : Int) % (p : Int)) :
    CallX P 227 #[pC e, .slice (some ⟨bd, 0, none⟩) (1 + 2 * nb bits) cap] w fun v w' => v = .nilIface ∧ Rs w0 w' K [pp, pb, ex, ey] [(false, p), zi B, zi (bev X : Int), zi (bev Y : Int)] := by
  have hn := nb_lt hb
  have hlen : (4 :: (X ++ Y)).length = 1 + 2 * nb bits := by simp; omega
  have hdX : ((4 :: (X ++ Y)).drop 1).take (nb bits) = X := by rw [List.drop_one, List.tail_cons, List.take_left' hX]
  have hdY : ((4 :: (X ++ Y)).drop (1 + nb bits)).take (nb bits) = Y := by
    rw [Nat.add_comm, List.drop_succ_cons, List.drop_left' hX, List.take_of_length_le (by omega)]
  refine calls_vc mo fn_227 rfl ok_227 (Nat.le_of_ble_eq_true rfl) nm_227 ?_
  (refine vsr ?_)
  (repeat refine vcl_v _ rfl rfl ?_); (refine vcl_end ?_)
  (refine vsr ?_)
  refine rnA (fa fo_91_2 _ _) ?_
  refine rnR (ldAg (by kernel_rfl) sz_73 (R.cl ce hKe) (ds := [cvV c, .slice oa on oc]) rfl rfl) ?_
  refine (byteSize_c (hCu.fm R.fm (fun h => h hKc)) hb).mono ?_
  rintro _ w1 ⟨rfl, f1⟩
  have R1 := R.un f1 (fun _ h => h.elim)
  (repeat refine vcl_v _ rfl rfl ?_); (refine vcl_end ?_)
  (refine vsr ?_)
  refine ⟨_, _, ln se_22 _ _ _ _ _ _, ?_⟩
  (repeat refine vcl_v _ rfl rfl ?_); (refine vcl_end ?_)
  refine vcut (by repeat (first | exact moE _ _ _ | exact moEd _ _ _ | apply moB | apply moL | apply moV)) Unit (fun _ => ⟨[], []⟩) (fun _ u => Rs w0 u K [pp, pb, ex, ey] [(false, p), zi B, zi (bev X : Int), zi (bev Y : Int)]) ?_ ?_
  · refine ⟨_, bEqF (by omega), ?_⟩
    refine ⟨fun hc => (by cases hc), fun _ => ?_⟩
    refine ⟨_, nAdd 1 (nb bits) (by omega), ?_⟩
    refine ⟨_, bEqF (by omega), ?_⟩
    refine ⟨fun hc => (by cases hc), fun _ => ?_⟩
    refine ⟨_, nMul 2 (nb bits) (by omega), ?_⟩
    refine ⟨_, nAdd 1 (2 * nb bits) (by omega), ?_⟩
    refine ⟨_, bEq rfl, ?_⟩
    refine rnA (ia se_22 (i := 0) _ (by omega)) ?_
    refine rnC na_5 ((hd.fm R1.fm (fun h => h hKd)).cell (i := 0) (by omega)) ?_
    refine ⟨_, bEq rfl, ?_⟩
    refine ⟨fun _ => ?_, fun hc => (by cases hc)⟩
    refine rnA (fa fo_91_2 _ _) ?_
    refine rnA (fa fo_73_0 _ _) ?_
    refine rnL na_71 (R1.cl ce hKe) rfl ?_
    refine (unmarshal_c E R1 hCu hKc hb hd hKd hX hY hn0 hcap hcap2 p1 p2 x1 y1 b0 b1 hon).mono ?_
    rintro _ w2 ⟨q1, q2, rfl, R2⟩
    refine rnA (pEn (by kernel_rfl) (some _) _ _) ?_
    refine ⟨fun hc => (by cases hc), fun _ => ?_⟩
    refine ⟨.take 0 (.take 1 (.take 2 (.take 3 (.take 4 (.take 5 (.take 6 (.take 7 (.one 8 [] (.done))))))))), by kernel_rfl, ?_⟩
    refine tkA (fa fo_91_0 _ _) ?_
    refine tkL na_52 (R2.cl ce hKe) rfl ?_
    refine ⟨_, nAdd 1 (nb bits) (by omega), ?_⟩
    refine tkA (sl se_22 (lo := 1) (hi := 1 + nb bits) _ _ (by omega) (by omega)) ?_
    rw [subA_some (by omega), show 1 + nb bits - 1 = X.length by omega]
    have hd2 := (hd.fm R2.dr.fm (fun h => h hKd)).sub 1 (nb bits) (by omega)
    rw [hdX] at hd2
    refine (setBytesR R2.dr (i := 2) rfl (Sb.of_rb hd2) (by omega) (by omega) (by omega)).mono ?_
    rintro _ w3 ⟨rfl, R3⟩
    replace R3 : Rs w0 w3 K [pp, pb, ex, ey] [(false, p), zi B, zi (bev X : Int), vb] := R3
    refine ⟨trivial, ?_⟩
    refine ⟨.take 0 (.take 1 (.take 2 (.take 3 (.take 4 (.take 5 (.take 6 (.take 7 (.take 8 (.take 9 (.take 10 (.one 11 [] (.done)))))))))))), by kernel_rfl, ?_⟩
    refine tkA (fa fo_91_1 _ _) ?_
    refine tkL na_52 (R3.cl ce hKe) rfl ?_
    refine ⟨_, nAdd 1 (nb bits) (by omega), ?_⟩
    refine ⟨_, nMul 2 (nb bits) (by omega), ?_⟩
    refine ⟨_, nAdd 1 (2 * nb bits) (by omega), ?_⟩
    refine tkA (sl se_22 (lo := 1 + nb bits) (hi := 1 + 2 * nb bits) _ _ (by omega) (by omega)) ?_
    rw [subA_some (by omega), show 1 + 2 * nb bits - (1 + nb bits) = Y.length by omega]
    have hd3 := (hd.fm R3.dr.fm (fun h => h hKd)).sub (1 + nb bits) (nb bits) (by omega)
    rw [hdY] at hd3
    refine (setBytesR R3.dr (i := 3) rfl (Sb.of_rb hd3) (by omega) (by omega) (by omega)).mono ?_
    rintro _ w4 ⟨rfl, R4⟩
    refine ⟨trivial, ?_⟩
    exact ⟨(), ⟨trivial, rfl⟩, R4⟩
  rintro _ u R5
  exact ⟨rfl, rfl, R5⟩

theorem mUm (e : Nat) (w : World) : (method (P.types.size + Made.depth) 78 (pC e) "UnmarshalBinary").run P w = .ok (227, pC e) w := by kernel_rfl

theorem bs4 (w : World) : ∃ w', (Instr.buildSlice 22 1 [(0, Value.int .u8 4)].toArray).run P w = .ok (.slice (some ⟨w.heap.size, 0, none⟩) 1 1) w' ∧ Bd w' w.heap.size [4] ∧ Fm (fun _ => False) w w' ∧ w'.heap.size = w.heap.size + 1 :=
  ⟨w.alloc (.cells #[.int .u8 4] 5), by kernel_rfl, ⟨alloc_new [.int .u8 4] _, fun y hy => by rw [List.mem_singleton.1 hy]; omega⟩, alloc_fm w _, by simp⟩

theorem elementOf_c {w0 w : World} {K : Nat → Prop} {be : Addr} {p bits : Nat} {B : Int} (E : Env w0 K be) {pp pb c xb_ yb_ : Nat} {oa : Option Addr} {on oc : Nat} {X Y : List Nat} (R : Rs w0 w K [pp, pb] [(false, p), zi B]) (hCu : Cu w0 c pp pb bits) (hKc : K c) (hb : bits < 1000)
    (hBX : Bd w0 xb_ X) (hBY : Bd w0 yb_ Y) (hKX : K xb_) (hKY : K yb_) (hX : X.length = nb bits) (hY : Y.length = nb bits) (hn0 : 0 < nb bits) (p1 : 1 < p) (p2 : p < BW ^ 9)
    (x1 : bev X < p) (y1 : bev Y < p) (b0 : 0 ≤ B) (b1 : B < p) (hon : rhs p B (bev X : Int) = (bev Y : Int) * (bev Y : Int) % (p : Int)) :
    CallX P 15 #[.iface 73 (wgV c (.slice oa on oc)), ptV xb_ yb_ (nb bits)] w fun v w' => ∃ e ex ey K', v = .tuple #[.iface 78 (pC e), .bool true] ∧ Cl w' e [pI ex, pI ey, cvV c, .slice oa on oc] 91 ∧ K' e ∧ (∀ b, K b → K' b) ∧ Env w' K' be ∧
      Rs w' w' K' [pp, pb, ex, ey] [(false, p), zi B, zi (bev X : Int), zi (bev Y : Int)] ∧ Fm (fun b => ¬ K b) w0 w' := by
  have hn := nb_lt hb
  refine calls_vc mo fn_15 rfl ok_15 (Nat.le_of_ble_eq_true rfl) nm_15 ?_
  (refine vsr ?_)
  obtain ⟨g1, e1, cg1, fg1, sg1⟩ := bx 27 (v := ptV xb_ yb_ (nb bits)) (cs := [.slice (some ⟨xb_, 0, none⟩) (nb bits) (nb bits), .slice (some ⟨yb_, 0, none⟩) (nb bits) (nb bits)]) rfl w
  refine ⟨_, g1, e1, ?_⟩
  (repeat refine vcl_v _ rfl rfl ?_); (refine vcl_end ?_)
  obtain ⟨K1, E1, R1, hsub1, hnew1, hout1⟩ := keepR E R fg1
  have hK1 : K1 w.heap.size := hnew1 _ (Nat.le_refl _) (by omega)
  have hCu1 : Cu g1 c pp pb bits := (hCu.fm R.fm (fun h => h hKc)).fm fg1 (fun h => h)
  have hX1 := (hBX.fm R.fm (fun h => h hKX)).fm fg1 (fun h => h)
  have hY1 := (hBY.fm R.fm (fun h => h hKY)).fm fg1 (fun h => h)
  (refine vsr ?_)
  refine ⟨_, _, mNE _ _ _, ?_⟩
  refine (newElt_c E1 R1).mono ?_
  rintro _ w2 ⟨e, ex, ey, K2, rfl, ce, hKe, hs2, E2, R2, F2⟩
  replace R2 : Rs w2 w2 K2 [pp, pb, ex, ey] [(false, p), zi B, (false, 0), (false, 0)] := R2
  have cg2 : Cl w2 w.heap.size [.slice (some ⟨xb_, 0, none⟩) (nb bits) (nb bits), .slice (some ⟨yb_, 0, none⟩) (nb bits) (nb bits)] 27 := F2.obj cg1 (fun h => h hK1)
  have hCu2 := hCu1.fm F2 (fun h => h (hsub1 c hKc))
  have hX2 := hX1.fm F2 (fun h => h (hsub1 _ hKX))
  have hY2 := hY1.fm F2 (fun h => h (hsub1 _ hKY))
  (repeat refine vcl_v _ rfl rfl ?_); (refine vcl_end ?_)
  refine rnA (fa fo_27_0 _ _) ?_
  refine rnL na_22 cg2 rfl ?_
  refine ⟨_, _, ln se_22 _ _ _ _ _ _, ?_⟩
  refine ⟨_, bEqF (by omega), ?_⟩
  refine ⟨fun hc => (by cases hc), fun _ => ?_⟩
  refine ⟨.take 0 (.take 1 (.take 2 (.take 3 (.one 4 [2, 1, 0] (.take 5 (.take 6 (.take 7 (.take 8 (.take 9 (.take 10 (.one 11 [9, 8, 7] (.take 12 (.take 13 (.done)))))))))))))), by kernel_rfl, ?_⟩
  refine tkA (fa fo_27_0 _ _) ?_
  refine tkL na_22 cg2 rfl ?_
  refine ⟨_, fun w' => ln se_22 _ _ _ _ _ w', ?_⟩
  refine (size_c (hCu2.fm (Fm.drew (fun _ => False) w2) (fun h => h)) hb).mono ?_
  rintro _ w3 ⟨rfl, f3⟩
  have f23 : Fm (fun _ => False) w2 w3 := f3.drew'
  have cg3 : Cl w3 w.heap.size [.slice (some ⟨xb_, 0, none⟩) (nb bits) (nb bits), .slice (some ⟨yb_, 0, none⟩) (nb bits) (nb bits)] 27 := f23.obj cg2 (fun h => h)
  refine ⟨⟨cg3.cell rfl, trivial⟩, ?_⟩
  refine ⟨_, bNeF rfl, ?_⟩
  refine tkA (fa fo_27_1 _ _) ?_
  refine tkL na_22 cg3 rfl ?_
  refine ⟨_, fun w' => ln se_22 _ _ _ _ _ w', ?_⟩
  refine (size_c (hCu2.fm f23 (fun h => h)) hb).mono ?_
  rintro _ w4 ⟨rfl, f4⟩
  have cg4 : Cl w4 w.heap.size [.slice (some ⟨xb_, 0, none⟩) (nb bits) (nb bits), .slice (some ⟨yb_, 0, none⟩) (nb bits) (nb bits)] 27 := f4.obj cg3 (fun h => h)
  refine ⟨⟨cg4.cell rfl, trivial⟩, ?_⟩
  refine ⟨_, bNeF rfl, ?_⟩
  refine ⟨fun hc => (by cases hc), fun _ => ?_⟩
  have f24 : Fm (fun _ => False) w2 w4.drew := (f23.trans f4 (fun _ _ h => h)).dr
  have R4 : Rs w2 w4.drew K2 [pp, pb, ex, ey] [(false, p), zi B, (false, 0), (false, 0)] := R2.un f24 (fun _ h => h.elim)
  refine ⟨.take 0 (.take 1 (.take 3 (.take 4 (.take 6 (.take 7 (.take 9 (.take 10 (.take 11 (.one 2 [11, 10, 9, 7, 6, 4, 3, 1, 0] (.one 5 [11, 10, 9, 7, 6, 1, 0] (.one 8 [11, 10, 9, 1, 0] (.one 12 [0] (.take 13 (.take 14 (.take 15 (.done)))))))))))))))), by kernel_rfl, ?_⟩
  refine tkA (fa fo_27_0 _ _) ?_
  refine tkL na_22 cg4 rfl ?_
  refine tkA (fa fo_27_1 _ _) ?_
  refine tkL na_22 cg4 rfl ?_
  refine ⟨.func (.method "UnmarshalBinary") #[.iface 78 (pC e)] #[], fun w' => by kernel_rfl, ?_⟩
  obtain ⟨w5, e5, hB5, f5, s5⟩ := bs4 w4.drew
  refine ⟨_, w5, e5, ?_⟩
  have cg5 : Cl w5 w.heap.size [.slice (some ⟨xb_, 0, none⟩) (nb bits) (nb bits), .slice (some ⟨yb_, 0, none⟩) (nb bits) (nb bits)] 27 := f5.obj (show Cl w4.drew w.heap.size _ _ from cg4) (fun h => h)
  refine ⟨⟨cg5.cell rfl, cg5.cell rfl, trivial⟩, ?_⟩
  have f25 : Fm (fun _ => False) w2 w5 := f24.trans f5 (fun _ _ h => h)
  have hX5 := hX2.fm f25 (fun h => h)
  have hY5 := hY2.fm f25 (fun h => h)
  have lX := hX5.lt
  have lX2 := hX2.lt
  have lY2 := hY2.lt
  have z24 := f24.size
  have hgl : w.heap.size < w2.heap.size := lt_of_obj cg2
  have hap1 := apB (len := 1) hB5 (by simp) (by omega) hX5 (by omega) (by omega) (by simp) 22 (#[Operand.tmp 37, Operand.tmp 39].map fun | .const _ => true | _ => false)
  rw [hX] at hap1
  obtain ⟨w6, g6, Z6, e6, hB6, ht6, hl6, hc6, hg6, f6⟩ := hap1
  refine ⟨_, w6, e6, ?_⟩
  have cg6 : Cl w6 w.heap.size [.slice (some ⟨xb_, 0, none⟩) (nb bits) (nb bits), .slice (some ⟨yb_, 0, none⟩) (nb bits) (nb bits)] 27 := f6.obj cg5 (by omega)
  refine ⟨⟨cg6.cell rfl, trivial⟩, ?_⟩
  have hY6 := hY5.fm f6 (by omega)
  have z5 := f5.size
  have hap2 := apB (len := 1 + nb bits) hB6 hl6 (by omega) hY6 (by omega) (by omega) hc6 22 (#[Operand.tmp 40, Operand.tmp 42].map fun | .const _ => true | _ => false)
  rw [hY] at hap2
  obtain ⟨w7, g7, Z7, e7, hB7, ht7, hl7, hc7, hg7, f7⟩ := hap2
  refine ⟨_, w7, e7, ?_⟩
  refine ⟨trivial, ?_⟩
  have z6 := f6.size
  have hg6l := hB6.lt
  have hg7l := hB7.lt
  have f47 : Fm (fun _ => False) w4.drew w7 := (f5.trans f6 (fun b hb h => by omega)).trans f7 (fun b hb h => by omega)
  obtain ⟨K3, E3, R5, hsub3, hnew3, hout3⟩ := keepR E2 R4 f47
  have hdata : Rb w7 g7 0 (4 :: (X ++ Y)) := by
    refine Rb.of_bd hB7 ?_ ?_
    · simp only [List.length_cons, List.length_append, hX, hY]; omega
    · rw [List.drop_zero]
      have : (4 :: (X ++ Y)).length = 1 + nb bits + nb bits := by simp; omega
      rw [this, ht7, ht6]
      rfl
  have ce7 : Cl w7 e [pI ex, pI ey, cvV c, .slice oa on oc] 91 := f47.obj (f24.obj ce (fun h => h)) (fun h => h)
  have hCu7 := (hCu2.fm f24 (fun h => h)).fm f47 (fun h => h)
  refine ⟨_, _, mUm e _, ?_⟩
  rw [show 1 + nb bits + nb bits = 1 + 2 * nb bits by omega]
  refine (unmarshalB_c E3 R5 hCu7 (hsub3 _ (hs2 _ (hsub1 _ hKc))) hb ce7 (hsub3 _ hKe) hdata (hnew3 _ (by omega) hg7l) hX hY hn0 (by omega) (by omega) p1 p2 x1 y1 b0 b1 hon).mono ?_
  rintro _ w8 ⟨rfl, R6⟩
  refine ⟨trivial, ?_⟩
  refine tkA (eNN _) ?_
  refine ⟨rfl, e, ex, ey, K3, rfl, R6.cl ce7 (hsub3 _ hKe), hsub3 _ hKe, fun b hb => hsub3 _ (hs2 _ (hsub1 _ hb)), E3.base R6.fm, R6.base, hout1 (F2.trans (hout3 R6.fm) (fun b _ h hk => h (hs2 b hk)))⟩

end Go.Vc
end

section
/- cvtElt, Neg, Minus. -/
set_option linter.unusedSimpArgs false
set_option linter.unusedVariables false
set_option maxRecDepth 20000
set_option maxHeartbeats 4000000
namespace Go.Vc
open Go.Proofs

theorem eIN (e i : Nat) (w : World) : ((do eqGuard .eql 45 (.tmp i) (.const .nilIface) (.iface 78 (pC e)) .nilIface; binOp .eql 45 (.iface 78 (pC e)) .nilIface) : Sem Value).run P w = .ok (.bool false) w := by kernel_rfl
theorem asOk (e : Nat) (w : World) : (Instr.typeAssert (.iface 78 (pC e)) 45 78 true).run P w = .ok (.tuple #[pC e, .bool true]) w := by kernel_rfl

theorem cvtElt_c {w : World} {e c qp qb bits : Nat} {px' py' : Value} {oa oa' : Option Addr} {on oc on' oc' : Nat} (hCu : Cu w c qp qb bits) (ce : Cl w e [px', py', cvV c, .slice oa' on' oc'] 91) :
    CallX P 228 #[wgV c (.slice oa on oc), .iface 78 (pC e)] w fun v w' => v = pC e ∧ Fm (fun _ => False) w w' := by
  refine calls_vc mo fn_228 rfl ok_228 (Nat.le_of_ble_eq_true rfl) nm_228 ?_
  (refine vsr ?_)
  obtain ⟨g1, e1, cg1, fg1, sg1⟩ := bx 73 (v := wgV c (.slice oa on oc)) (cs := [cvV c, .slice oa on oc]) rfl w
  refine ⟨_, g1, e1, ?_⟩
  (repeat refine vcl_v _ rfl rfl ?_); (refine vcl_end ?_)
  refine rnA (eIN e _) ?_
  refine ⟨fun hc => (by cases hc), fun _ => ?_⟩
  (refine sqn ?_)
  (refine vsr ?_)
  refine rnA (asOk e) ?_
  (repeat refine vcl_v _ rfl rfl ?_); (refine vcl_end ?_)
  have ce1 : Cl g1 e [px', py', cvV c, .slice oa' on' oc'] 91 := fg1.obj ce (fun h => h)
  obtain ⟨qn, qx, qy, nm, hcl⟩ := (hCu.fm fg1 (fun h => h)).all
  refine ⟨.take 0 (.take 1 (.take 2 (.take 3 (.take 4 (.take 9 (.take 10 (.take 11 (.take 12 (.take 13 (.one 5 [13, 12, 11, 10, 9] (.take 6 (.take 7 (.take 8 (.one 14 [8, 7, 6] (.take 15 (.take 16 (.take 17 (.take 18 (.take 19 (.done)))))))))))))))))))), by kernel_rfl, ?_⟩
  refine tkA (fa fo_73_0 _ _) ?_
  refine tkL na_71 cg1 rfl ?_
  refine tkA (fa fo_91_2 _ _) ?_
  refine tkA (fa fo_73_0 _ _) ?_
  refine tkL na_71 ce1 rfl ?_
  refine ⟨_, _, mPar _ _, ?_⟩
  refine (params_c c _).mono ?_
  rintro _ _ ⟨rfl, rfl⟩
  refine ⟨⟨Cl.cell (w := g1) ce1 rfl, trivial⟩, ?_⟩
  refine tkA (fa fo_94_5 _ _) ?_
  refine tkL na_3 hcl rfl ?_
  refine ⟨_, _, mPar _ _, ?_⟩
  refine (params_c c _).mono ?_
  rintro _ _ ⟨rfl, rfl⟩
  refine ⟨⟨Cl.cell (w := g1) hcl rfl, trivial⟩, ?_⟩
  refine tkA (fa fo_94_5 _ _) ?_
  refine tkL na_3 hcl rfl ?_
  refine ⟨_, bNeF rfl, ?_⟩
  refine ⟨fun hc => (by cases hc), fun _ => ?_⟩
  exact ⟨rfl, rfl, fg1.dr⟩

theorem neg_c {w0 w : World} {K : Nat → Prop} {be : Addr} {p bits : Nat} {B x y : Int} {va vb : Zn} (E : Env w0 K be) {pp pb ax ay ex ey e e1 c : Nat} {oa oa' : Option Addr} {on oc on' oc' : Nat} (R : Rs w0 w K [pp, pb, ax, ay, ex, ey] [(false, p), zi B, zi x, zi y, va, vb]) (hCu : Cu w0 c pp pb bits) (hKc : K c)
    (ce : Cl w0 e [pI ex, pI ey, cvV c, .slice oa on oc] 91) (hKe : K e) (ce1 : Cl w0 e1 [pI ax, pI ay, cvV c, .slice oa' on' oc'] 91) (hKe1 : K e1) (p1 : 1 < p) (p2 : p < BW ^ 9) (bX : x.natAbs < BW ^ 9) (bY : y.natAbs < BW ^ 9) :
    CallX P 225 #[pC e, .iface 78 (pC e1)] w fun v w' => v = .iface 78 (pC e) ∧ Rs w0 w' K [pp, pb, ax, ay, ex, ey] [(false, p), zi B, zi x, zi y, zi x, zi (-y % (p : Int))] := by
  refine calls_vc mo fn_225 rfl ok_225 (Nat.le_of_ble_eq_true rfl) nm_225 ?_
  (refine vsr ?_)
  (repeat refine vcl_v _ rfl rfl ?_); (refine vcl_end ?_)
  (refine vsr ?_)
  refine rnA (fa fo_91_2 _ _) ?_
  refine rnR (ldAg (by kernel_rfl) sz_73 (R.cl ce hKe) (ds := [cvV c, .slice oa on oc]) rfl rfl) ?_
  refine (cvtElt_c (hCu.fm R.fm (fun h => h hKc)) (R.cl ce1 hKe1)).mono ?_
  rintro _ w1 ⟨rfl, f1⟩
  have R1 := R.un f1 (fun _ h => h.elim)
  (repeat refine vcl_v _ rfl rfl ?_); (refine vcl_end ?_)
  refine ⟨.take 0 (.take 1 (.take 2 (.take 3 (.take 4 (.take 5 (.take 6 (.take 7 (.one 8 [] (.done))))))))), by kernel_rfl, ?_⟩
  refine tkA (fa fo_91_0 _ _) ?_
  refine tkL na_52 (R1.cl ce hKe) rfl ?_
  refine tkA (fa fo_91_0 _ _) ?_
  refine tkL na_52 (R1.cl ce1 hKe1) rfl ?_
  refine (setR R1.dr (i := 4) (j := 2) rfl rfl rfl (lt_pow bX (by omega))).mono ?_
  rintro _ w2 ⟨rfl, R2⟩
  replace R2 : Rs w0 w2 K [pp, pb, ax, ay, ex, ey] [(false, p), zi B, zi x, zi y, zi x, vb] := R2
  refine ⟨trivial, ?_⟩
  refine ⟨.take 0 (.take 1 (.take 2 (.take 3 (.take 4 (.take 5 (.take 6 (.take 7 (.take 9 (.take 10 (.take 11 (.take 12 (.take 13 (.take 14 (.take 15 (.take 16 (.take 17 (.one 8 [17, 16, 15, 14, 13, 12, 11, 10, 9] (.one 18 [12, 11, 10, 9] (.take 19 (.take 20 (.take 21 (.one 22 [] (.done))))))))))))))))))))))), by kernel_rfl, ?_⟩
  refine tkA (fa fo_91_1 _ _) ?_
  refine tkL na_52 (R2.cl ce hKe) rfl ?_
  refine tkA (fa fo_91_1 _ _) ?_
  refine tkL na_52 (R2.cl ce1 hKe1) rfl ?_
  refine tkA (fa fo_91_1 _ _) ?_
  refine tkL na_52 (R2.cl ce hKe) rfl ?_
  refine tkA (fa fo_91_2 _ _) ?_
  refine tkA (fa fo_73_0 _ _) ?_
  refine tkL na_71 (R2.cl ce hKe) rfl ?_
  refine (negR R2.dr (i := 5) (j := 3) (a := y) rfl rfl rfl (lt_pow bY (by omega))).mono ?_
  rintro _ w3 ⟨rfl, R3⟩
  replace R3 : Rs w0 w3 K [pp, pb, ax, ay, ex, ey] [(false, p), zi B, zi x, zi y, zi x, zi (-y)] := R3
  refine ⟨⟨(R3.cl ce hKe).cell rfl, (R3.cl ce hKe).cell rfl, trivial⟩, ?_⟩
  refine ⟨_, _, mPar _ _, ?_⟩
  refine (params_c c _).mono ?_
  rintro _ _ ⟨rfl, rfl⟩
  refine ⟨⟨(R3.cl ce hKe).cell rfl, trivial⟩, ?_⟩
  obtain ⟨qn, qx, qy, nm, hcl⟩ := (hCu.fm R3.fm (fun h => h hKc)).all
  refine tkA (fa fo_94_0 _ _) ?_
  refine tkL na_52 hcl rfl ?_
  refine (modR E R3 rfl rfl p1 (lt_pow p2 (by omega)) (i := 5) (j := 5) (a := -y) (by decide) rfl rfl rfl (by rw [Int.natAbs_neg]; exact lt_pow bY (by omega))).mono ?_
  rintro _ w4 ⟨rfl, R4⟩
  refine ⟨trivial, ?_⟩
  refine rnA (mkIE e) ?_
  exact ⟨rfl, rfl, R4⟩

theorem mNg (e : Nat) (w : World) : (method (P.types.size + Made.depth) 78 (pC e) "Neg").run P w = .ok (225, pC e) w := by kernel_rfl

theorem rhs_ok {bits : Nat} {f : Int → Sp} (h : Cv bits f) : 0 ≤ (f 0).B ∧ (f 0).B < (f 0).p ∧ 1 < (f 0).p := by
  have h1 : (f 1).Ok := sp_ok h (by omega) (by rcases h with ⟨_, rfl⟩ | ⟨_, rfl⟩ | ⟨_, rfl⟩ <;> exact Int.ofNat_lt.2 (Nat.le_of_ble_eq_true (by kernel_rfl)))
  obtain ⟨e1, e2, _⟩ := sp_same h 1
  have h2 := h1.b0
  have h3 := h1.b1
  have h4 := h1.p3
  rw [e1, e2] at h3
  rw [e2] at h2
  rw [e1] at h4
  exact ⟨h2, h3, by omega⟩

theorem minus_c {w : World} {be : Addr} {k bits xb yb : Nat} {f : Int → Sp} {X Y : List Nat} (hG : Gb w be) (hk : Kcv k bits f) (hBX : Bd w xb X) (hBY : Bd w yb Y) (hX : X.length = nb bits) (hY : Y.length = nb bits) (x1 : bev X < (f 0).p) (y1 : bev Y < (f 0).p)
    (hon : rhs (f 0).p (f 0).B (bev X : Int) = (bev Y : Int) * (bev Y : Int) % ((f 0).p : Int)) (hid : ¬ ((bev X : Int) = 0 ∧ -(bev Y : Int) % ((f 0).p : Int) = 0)) :
    CallX P 7 #[.int .i64 (k : Int), ptV xb yb (nb bits)] w fun v w' => ∃ pv, v = .tuple #[pv, .bool true] ∧ PtR w w' (nb bits) (bev X : Int) (-(bev Y : Int) % ((f 0).p : Int)) pv ∧ Fm (fun _ => False) w w' := by
  have hcv := hk.cv
  obtain ⟨hb, hp⟩ := cv_bits hcv
  have hp9 := (sp_b hcv 0).p9
  obtain ⟨b0, b1, p1⟩ := rhs_ok hcv
  have hn0 : 0 < nb bits := by
    rcases Nat.eq_zero_or_pos (nb bits) with h | h
    · rw [h, Nat.pow_zero] at hp; omega
    · exact h
  refine calls_vc mo fn_7 rfl ok_7 (Nat.le_of_ble_eq_true rfl) nm_7 ?_
  (refine vsr ?_)
  obtain ⟨g0, e0, cg0, fg0, sg0⟩ := bx 27 (v := ptV xb yb (nb bits)) (cs := [.slice (some ⟨xb, 0, none⟩) (nb bits) (nb bits), .slice (some ⟨yb, 0, none⟩) (nb bits) (nb bits)]) rfl w
  refine ⟨_, g0, e0, ?_⟩
  obtain ⟨g1, e1, cg1, fg1, sg1⟩ := nw (t := 27) (z := .agg #[.slice none 0 0, .slice none 0 0]) (by kernel_rfl) (cs := [.slice none 0 0, .slice none 0 0]) rfl g0
  refine ⟨_, g1, e1, ?_⟩
  (repeat refine vcl_v _ rfl rfl ?_); (refine vcl_end ?_)
  have fg : Fm (fun _ => False) w g1 := fg0.trans fg1 (fun _ _ h => h)
  have cg01 : Cl g1 w.heap.size [.slice (some ⟨xb, 0, none⟩) (nb bits) (nb bits), .slice (some ⟨yb, 0, none⟩) (nb bits) (nb bits)] 27 := fg1.obj cg0 (fun h => h)
  have hX1 := hBX.fm fg (fun h => h)
  have hY1 := hBY.fm fg (fun h => h)
  have hG1 := hG.fm fg (fun b _ h => h)
  have E1 := hG1.env
  have R1 := Rs.nil g1
  (refine vsr ?_)
  refine (groupOf_c E1 R1 hk).mono ?_
  rintro _ w2 ⟨c, qp, qb, oa, on, oc, K2, rfl, hCu2, hKc2, hs2, E2, R2, F2⟩
  have cg02 : Cl w2 w.heap.size [.slice (some ⟨xb, 0, none⟩) (nb bits) (nb bits), .slice (some ⟨yb, 0, none⟩) (nb bits) (nb bits)] 27 := F2.obj cg01 (fun h => h (by omega))
  have hX2 := hX1.fm F2 (fun h => h hX1.lt)
  have hY2 := hY1.fm F2 (fun h => h hY1.lt)
  (repeat refine vcl_v _ rfl rfl ?_); (refine vcl_end ?_)
  (refine vsr ?_)
  refine rnR (ldAg (by kernel_rfl) sz_27 cg02 rfl rfl) ?_
  refine (elementOf_c E2 R2 hCu2 hKc2 hb hX2 hY2 (hs2 _ hX1.lt) (hs2 _ hY1.lt) hX hY hn0 p1 hp9 x1 y1 b0 b1 hon).mono ?_
  rintro _ w3 ⟨ea, ax, ay, K3, rfl, cea, hKea, hs3, E3, R3, F3⟩
  have hCu3 := hCu2.fm F3 (fun h => h hKc2)
  (repeat refine vcl_v _ rfl rfl ?_); (refine vcl_end ?_)
  refine ⟨fun hc => (by cases hc), fun _ => ?_⟩
  refine ⟨_, _, mNE _ _ _, ?_⟩
  refine (newElt_c E3 R3).mono ?_
  rintro _ w4 ⟨e, ex, ey, K4, rfl, ce, hKe, hs4, E4, R4, F4⟩
  replace R4 : Rs w4 w4 K4 [qp, qb, ax, ay, ex, ey] [(false, (f 0).p), zi (f 0).B, zi (bev X : Int), zi (bev Y : Int), (false, 0), (false, 0)] := R4
  have cea4 : Cl w4 ea [pI ax, pI ay, cvV c, .slice oa on oc] 91 := F4.obj cea (fun h => h hKea)
  have hCu4 := hCu3.fm F4 (fun h => h (hs3 _ hKc2))
  refine ⟨_, _, mNg e _, ?_⟩
  refine (neg_c E4 R4 hCu4 (hs4 _ (hs3 _ hKc2)) ce hKe cea4 (hs4 _ hKea) p1 hp9 (by omega) (by omega)).mono ?_
  rintro _ w5 ⟨rfl, R5⟩
  have R6 := R5.base.two (i := 4) (j := 5) rfl rfl rfl rfl (by decide)
  have y0' := Int.emod_nonneg (-(bev Y : Int)) (show ((f 0).p : Int) ≠ 0 by omega)
  have y1' := Int.emod_lt_of_pos (-(bev Y : Int)) (show (0 : Int) < ((f 0).p : Int) by omega)
  refine (pointOf_c R6 (R5.cl ce hKe) hKe (hCu4.fm R5.fm (fun h => h (hs4 _ (hs3 _ hKc2)))) (hs4 _ (hs3 _ hKc2)) hb hid (lt_pow (a := 9) (by omega) (by omega)) (lt_pow (a := 9) (by omega) (by omega)) (by omega) (by omega)).mono ?_
  rintro v w6 ⟨⟨rx, ry, rfl, hB1, hB2, l1, l2⟩, F6⟩
  have F25 : Fm (fun b => ¬ (b < g1.heap.size)) g1 w5 := ((F2.trans F3 (fun b _ h hk => h (hs2 b hk))).trans F4 (fun b _ h hk => h (hs3 b (hs2 b hk)))).trans R5.fm (fun b _ h hk => h (hs4 b (hs3 b (hs2 b hk))))
  have FA : Fm (fun b => ¬ (b < g1.heap.size)) g1 w6 := F25.trans F6 (fun b _ h hk => h (hs4 b (hs3 b (hs2 b hk))))
  have cg6 : Cl w6 g0.heap.size [.slice none 0 0, .slice none 0 0] 27 := FA.obj cg1 (fun h => h (by omega))
  have hsz5 := F25.size
  have hsz0 := fg0.size
  obtain ⟨u2, e2, c2, f2, s2⟩ := stAg (t := 27) (vs := [.slice (some ⟨rx, 0, none⟩) (nb bits) (nb bits), .slice (some ⟨ry, 0, none⟩) (nb bits) (nb bits)]) sz_27 cg6 (i := 0) (by simp) (by intro v hv; simp at hv; rcases hv with rfl | rfl <;> rfl) (cs' := [.slice (some ⟨rx, 0, none⟩) (nb bits) (nb bits), .slice (some ⟨ry, 0, none⟩) (nb bits) (nb bits)]) rfl
  refine ⟨u2, e2, ?_⟩
  exact ⟨rfl, _, lvAg (by kernel_rfl) sz_27 c2 rfl rfl, ptV rx ry (nb bits), rfl, ⟨rx, ry, rfl, hB1.fm f2 (by omega), hB2.fm f2 (by omega), by omega, by omega⟩, (fg.trans FA (fun b hb h => h (by omega))).trans f2 (fun b hb h => by omega)⟩

end Go.Vc
end
