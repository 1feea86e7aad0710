/- A part of a row written anew, again and again. -/
import Derived.Test.YthahnloabllniaaGreatDoorM05
section
set_option linter.unusedSimpArgs false
set_option linter.unusedVariables false
namespace Go.Vc

theorem splice_in {Z p r : List Nat} {j : Nat} (hp : p.length ≤ Z.length) (h : j + r.length ≤ p.length) : splice (splice Z 0 p) j r = splice Z 0 (splice p j r) := by
  have l1 : (splice Z 0 p).length = Z.length := splice_len (by omega)
  have l2 : (splice p j r).length = p.length := splice_len h
  apply list_ext_dg (by rw [splice_len (by omega), l1, splice_len (by omega)])
  intro i hi
  rw [splice_len (by omega), l1] at hi
  have inn : ∀ (q : List Nat), q.length = p.length → i < p.length → dg (splice Z 0 q) i = dg q i := fun q hq hi => by
    have := dg_splice_in (Z := Z) (o := 0) (l := q) (by omega) (i := i) (by omega)
    rwa [Nat.zero_add] at this
  rcases Nat.lt_or_ge i p.length with h1 | h1
  · rw [inn _ l2 h1]
    rcases Nat.lt_or_ge i j with h2 | h2
    · rw [dg_splice_low (by omega) h2, dg_splice_low h h2, inn p rfl h1]
    · rcases Nat.lt_or_ge i (j + r.length) with h3 | h3
      · obtain ⟨k, rfl⟩ : ∃ k, i = j + k := ⟨i - j, by omega⟩
        rw [dg_splice_in (by omega) (by omega), dg_splice_in h (by omega)]
      · rw [dg_splice_high (by omega) h3, dg_splice_high h h3, inn p rfl h1]
  · rw [dg_splice_high (by omega) (by omega), dg_splice_high (by omega) (by omega), dg_splice_high (by omega) (by omega)]

theorem drop_splice {p r : List Nat} {j : Nat} (h : j + r.length ≤ p.length) : (splice p j r).drop j = r ++ p.drop (j + r.length) := by
  unfold splice
  rw [List.append_assoc, List.drop_append, List.drop_eq_nil_of_le (by simp; omega), List.nil_append, List.length_take, Nat.min_eq_left (by omega), Nat.sub_self, List.drop_zero]

theorem set_splice0 {Z p : List Nat} {i x : Nat} (hp : p.length ≤ Z.length) (h : i < p.length) : (splice Z 0 p).set i x = splice Z 0 (p.set i x) := by
  apply list_ext_dg (by rw [List.length_set, splice_len (by omega), splice_len (by rw [List.length_set]; omega)])
  intro k hk
  rw [List.length_set, splice_len (by omega)] at hk
  have inn : ∀ (q : List Nat), q.length = p.length → k < p.length → dg (splice Z 0 q) k = dg q k := fun q hq hi => by
    have := dg_splice_in (Z := Z) (o := 0) (l := q) (by omega) (i := k) (by omega)
    rwa [Nat.zero_add] at this
  rcases Nat.lt_or_ge k p.length with h1 | h1
  · rw [inn (p.set i x) List.length_set h1]
    rcases Classical.em (i = k) with e | e
    · subst e; rw [dg_set_eq (by rw [splice_len (by omega)]; omega), dg_set_eq h]
    · rw [dg_set_ne e, dg_set_ne e, inn p rfl h1]
  · rw [dg_set_ne (by omega), dg_splice_high (by omega) (by omega), dg_splice_high (by rw [List.length_set]; omega) (by rw [List.length_set]; omega)]

/-- n+1 words, then the n lower ones, then the highest one. -/
theorem splice_fix {p r r2 : List Nat} {j t : Nat} (h : j + r.length ≤ p.length) (h2 : r.length = r2.length + 1) : (splice (splice p j r) j r2).set (j + r2.length) t = splice p j (r2 ++ [t]) := by
  have l1 : (splice p j r).length = p.length := splice_len h
  have l3 : (r2 ++ [t]).length = r2.length + 1 := by simp
  apply list_ext_dg (by rw [List.length_set, splice_len (by omega), l1, splice_len (by omega)])
  intro i hi
  rw [List.length_set, splice_len (by omega), l1] at hi
  rcases Nat.lt_trichotomy i (j + r2.length) with h3 | h3 | h3
  · rw [dg_set_ne (by omega)]
    rcases Nat.lt_or_ge i j with h4 | h4
    · rw [dg_splice_low (by omega) h4, dg_splice_low h h4, dg_splice_low (by omega) h4]
    · obtain ⟨k, rfl⟩ : ∃ k, i = j + k := ⟨i - j, by omega⟩
      rw [dg_splice_in (by omega) (by omega), dg_splice_in (by omega) (by omega), dg_append_left (by omega)]
  · subst h3
    rw [dg_set_eq (by rw [splice_len (by omega)]; omega), dg_splice_in (by omega) (by omega), dg_append_right (Nat.le_refl _)]
    simp [dg]
  · rw [dg_set_ne (by omega), dg_splice_high (by omega) (by omega), dg_splice_high h (by omega), dg_splice_high (by omega) (by omega)]

theorem WF.of_splice {Z p : List Nat} (hp : p.length ≤ Z.length) (h : WF (Vc.splice Z 0 p)) : WF p := by
  have e := take_splice_all hp
  rw [← e]; exact h.take _

end Go.Vc
end

section
/- divBasic: long division. -/
set_option linter.unusedSimpArgs false
set_option linter.unusedVariables false
set_option maxRecDepth 8000
namespace Go.Vc
open Go.Proofs

theorem poly3 {N B u0 u1 u2 : Nat} : N * u0 + N * B * u1 + N * B * B * u2 = N * ((u2 * B + u1) * B + u0) := by
  simp only [Nat.mul_add, Nat.add_mul]
  rw [Nat.mul_assoc N B B, Nat.mul_assoc N (B * B) u2, Nat.mul_comm (B * B) u2, Nat.mul_assoc u2 B B, Nat.mul_assoc N B u1, Nat.mul_comm B u1]
  omega

/-- One round of a long division: what is known of the tops. -/
theorem tops {us vs : List Nat} {j k : Nat} (hn : vs.length = k + 2) (wv : WF vs) (wu : WF us) (htop : BW / 2 ≤ dg vs (k + 1)) (hlt : nv (us.drop j) < nv vs * BW) :
    QIn (BW ^ k) (nv vs) (nv (us.drop j)) (dg vs (k + 1) * BW + dg vs k) ((dg us (j + (k + 2)) * BW + dg us (j + (k + 1))) * BW + dg us (j + k)) ∧ dg us (j + (k + 2)) ≤ dg vs (k + 1) := by
  have ev := nv_top2 hn
  have lv : nv (vs.take k) < BW ^ k := by
    have := nv_lt (wv.take k)
    rwa [List.length_take, Nat.min_eq_left (by omega)] at this
  have wd : WF (us.drop j) := wu.drop j
  have hV : nv vs < BW ^ (k + 2) := by have := nv_lt wv; rwa [hn] at this
  have hB : nv (us.drop j) < BW ^ (k + 3) := by
    have : nv vs * BW ≤ BW ^ (k + 2) * BW := Nat.mul_le_mul_right _ (Nat.le_of_lt hV)
    rw [← Nat.pow_succ] at this
    exact Nat.lt_of_lt_of_le hlt this
  have eu : nv (us.drop j) = nv ((us.drop j).take k) + BW ^ k * ((dg us (j + (k + 2)) * BW + dg us (j + (k + 1))) * BW + dg us (j + k)) := by
    have e3 := nv_take_of_lt wd hB
    have pad : ∀ (l : List Nat) (i : Nat), nv (l.take (i + 1)) = nv (l.take i) + BW ^ i * dg l i := by
      intro l i
      rcases Nat.lt_or_ge i l.length with h | h
      · exact nv_take_succ h
      · rw [List.take_of_length_le (by omega), List.take_of_length_le h, dg_ge h]; simp
    have p1 : BW ^ (k + 1) = BW ^ k * BW := Nat.pow_succ ..
    have p2 : BW ^ (k + 1 + 1) = BW ^ k * BW * BW := by rw [Nat.pow_succ, Nat.pow_succ]
    rw [← e3, show k + 3 = k + 1 + 1 + 1 from rfl, pad, pad, pad, dg_drop, dg_drop, dg_drop, p2, p1]
    rw [show j + (k + 1 + 1) = j + (k + 2) from rfl, ← poly3]
    omega
  have lu : nv ((us.drop j).take k) < BW ^ k := by
    rcases Nat.lt_or_ge (us.drop j).length k with h | h
    · have := nv_lt wd
      rw [List.take_of_length_le (by omega)]
      exact Nat.lt_of_lt_of_le this (pow_le_pow (by omega))
    · have := nv_lt (wd.take k)
      rwa [List.length_take, Nat.min_eq_left (by omega)] at this
  have q : QIn (BW ^ k) (nv vs) (nv (us.drop j)) (dg vs (k + 1) * BW + dg vs k) ((dg us (j + (k + 2)) * BW + dg us (j + (k + 1))) * BW + dg us (j + k)) := by
    rw [Nat.mul_comm (BW ^ k)] at ev eu
    refine ⟨by omega, by rw [Nat.add_mul]; omega, by omega, by rw [Nat.add_mul]; omega, ?_⟩
    have : 1 * BW ≤ dg vs (k + 1) * BW := Nat.mul_le_mul_right _ (by unfold BW at htop; omega)
    omega
  refine ⟨q, ?_⟩
  rcases Nat.lt_or_ge (dg vs (k + 1)) (dg us (j + (k + 2))) with h | h
  · exfalso
    have h1 : (dg vs (k + 1) + 1) * BW ≤ dg us (j + (k + 2)) * BW := Nat.mul_le_mul_right _ h
    have h2 : (dg vs (k + 1) * BW + dg vs k + 1) ≤ (dg vs (k + 1) + 1) * BW := by
      rw [Nat.add_mul]; have := wv.dg k; omega
    have h3 : (dg vs (k + 1) * BW + dg vs k + 1) * BW ≤ (dg us (j + (k + 2)) * BW + dg us (j + (k + 1))) * BW := Nat.mul_le_mul_right _ (by omega)
    have h4 : (dg vs (k + 1) * BW + dg vs k + 1) * BW * BW ^ k ≤ nv (us.drop j) := Nat.le_trans (Nat.mul_le_mul_right _ (by omega)) q.w1
    have h5 : nv vs * BW < (dg vs (k + 1) * BW + dg vs k + 1) * BW ^ k * BW := Nat.mul_lt_mul_of_pos_right q.v2 BW_pos
    rw [Nat.mul_assoc, Nat.mul_comm (BW ^ k) BW, ← Nat.mul_assoc] at h5
    omega
  · exact h

theorem Wd.ne_stI {w : World} {b bi : Nat} {l : List Nat} {wb : Option Nat} {len : Nat} {Z : List Nat} (h : Wd w b l) (hs : StI w bi wb len Z) : b ≠ bi := by
  obtain ⟨v, hc, _⟩ := hs
  exact h.cl.ne_T hc (by decide)

/-- What is read is still there when the stack has handed something out. -/
theorem rd_tk {w w1 : World} {bs : Nat} {st : Option Sk} (hst : St w bs st) {v : Value} {n : Nat} {wb' : Option Nat} {len' b o c : Nat} {Z : List Nat} (hT : Tk w w1 (inSt bs st) v n (wbOf st) (lenOf st) wb' len' b o c Z)
    {bv ov : Nat} {vs : List Nat} (hv : Rd w bv ov vs) (hd : wbOf st = some bv → ov + vs.length ≤ lenOf st) : Rd w1 bv ov vs := by
  rcases Classical.em (wbOf st = some bv) with e | e
  · obtain ⟨full, h1, h2, h3⟩ := hv.all
    have hle : lenOf st ≤ full.length := by
      cases st with
      | none => cases e
      | some s =>
        obtain ⟨v2, _, hs2, _⟩ := hst.2
        simp only [wbOf] at e
        rw [e] at hs2
        have := hs2.2.1.uniq h1
        rw [← this]; exact hs2.2.2.1
    obtain ⟨Z3, g1, g2, g3⟩ := hT.old bv full e h1 hle
    refine ⟨Z3, g1, by rw [g2]; exact h2, ?_⟩
    have hd' := hd e
    apply list_ext_dg (by simp; omega)
    intro i hi
    have hi2 : i < vs.length := by simp at hi; omega
    rw [dg_take hi2, dg_drop]
    have a : dg vs i = dg full (ov + i) := by rw [← h3, dg_take hi2, dg_drop]
    rw [a, ← dg_take (l := Z3) (n := lenOf st) (by omega), g3, dg_take (by omega)]
  · refine hv.fm hT.fm (fun h => ?_)
    obtain ⟨full, h1, _⟩ := hv.all
    rcases h with h | ⟨s, rfl, h⟩
    · cases st with
      | none => exact h1.cl.ne_T hst (by decide) h
      | some s => exact h1.cl.ne_T hst.1 (by decide) h
    · rcases h with h | h
      · exact h1.ne_stI hst.2 h
      · exact e h

end Go.Vc
end
