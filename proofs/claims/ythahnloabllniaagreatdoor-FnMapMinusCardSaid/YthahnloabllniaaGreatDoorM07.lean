/- divBasic: the walk. -/
import Derived.Test.YthahnloabllniaaGreatDoorM06
section
set_option linter.unusedSimpArgs false
set_option linter.unusedVariables false
set_option maxRecDepth 8000
set_option maxHeartbeats 4000000
namespace Go.Vc
open Go.Proofs

/-- The deferred call of restore. -/
def dRest (bs n : Nat) : List Deferred := [{ target := .fn (.func 121) #[], args := #[] ++ [Value.pointer (some ⟨bs, 0, none⟩), Value.int .i64 (n : Int)].toArray }]

theorem dfr_rest {w : World} {bs n : Nat} {nx : World → Prop} (h : CallD P 121 #[.pointer (some ⟨bs, 0, none⟩), .int .i64 (n : Int)] w nx) : dfr P (dRest bs n) w nx :=
  ⟨_, #[.pointer (some ⟨bs, 0, none⟩), .int .i64 (n : Int)], rfl, by simp, by kernel_rfl, h⟩

theorem bNeD {k : IntKind} {a b : Int} : binV .neq k k a b = some (.bool (decide (a ≠ b))) := by simp [binV]; rfl

theorem vbk {P : Program} {id : Nat} {body : Code} {q : Exit → Fr → World → Prop} {K : Fr} {w : World} (h : vcc P body (blockQ id q) K w) : vcc P (.block id body) q K w := h

theorem vcp_v {P : Program} {ops : Array Oper} {Q : Fr → World → Prop} {i : Nat} {p : Plan} {T : Pend} {o : Oper} {K : Fr} {w : World} (v : Value) (hi : ops[i]? = some o) (hg : o.guard = none) (ho : opS K o = some (.v v))
    (h : vcp P ops Q p T (K.put o.dst v) w) : vcp P ops Q (.take i p) T K w := by
  simp only [vcp, hi, grd, hg, ho, tk, addP]; exact h
theorem vcp_end {P : Program} {ops : Array Oper} {next : Fr → World → Prop} {q : Exit → Fr → World → Prop} {T : Pend} {K : Fr} {w : World} (h : next K w) : vcp P ops (seqQ next q .normal) .done T K w := h

theorem addback {N a R c b : Nat} (h : a + N * c = R + N * b) (ha : a < N) (hR : R < N) : c = b ∧ a = R := by
  rcases Nat.lt_trichotomy c b with h1 | h1 | h1
  · have : N * (c + 1) ≤ N * b := Nat.mul_le_mul_left _ h1
    rw [Nat.mul_add] at this; omega
  · subst h1; exact ⟨rfl, by omega⟩
  · have : N * (b + 1) ≤ N * c := Nat.mul_le_mul_left _ h1
    rw [Nat.mul_add] at this; omega

theorem splice_twice {p r r2 : List Nat} {j : Nat} (h : j + r.length ≤ p.length) (h2 : r2.length = r.length) : splice (splice p j r) j r2 = splice p j r2 := by
  have l1 : (splice p j r).length = p.length := splice_len h
  apply list_ext_dg (by rw [splice_len (by omega), l1, splice_len (by omega)])
  intro i hi
  rcases Nat.lt_or_ge i j with h3 | h3
  · rw [dg_splice_low (by omega) h3, dg_splice_low h h3, dg_splice_low (by omega) h3]
  · rcases Nat.lt_or_ge i (j + r.length) with h4 | h4
    · obtain ⟨k, rfl⟩ : ∃ k, i = j + k := ⟨i - j, by omega⟩
      rw [dg_splice_in (by omega) (by omega), dg_splice_in (by omega) (by omega)]
    · rw [dg_splice_high (by omega) (by omega), dg_splice_high h h4, dg_splice_high (by omega) (by omega)]

theorem digit_in {V N B Q s US u0 u W R : Nat} (h1 : u0 = u + V * (N * B * s)) (h2 : US + N * W = u + N * R) (h3 : V * Q + R = W) : u0 = US + V * (N * (Q + B * s)) := by
  subst h3
  rw [Nat.mul_add, Nat.mul_left_comm N V Q] at h2
  rw [h1, Nat.mul_add N, Nat.mul_add V, ← Nat.mul_assoc N B s]
  omega

/-- The stack, where its words have been written over. -/
theorem St.turn {S : Nat → Prop} {w u : World} {bs : Nat} {st : Option Sk} (h : St w bs st) (f : Fm S w u) (h1 : ¬ S bs) (h2 : ∀ s, st = some s → ¬ S s.bi)
    (h3 : ∀ b, wbOf st = some b → ∀ Z, Wd w b Z → ∃ Z', Wd u b Z' ∧ Z'.length = Z.length) : ∃ st2, St u bs st2 ∧ lenOf st2 = lenOf st ∧ ∀ k, inSt bs st2 k → inSt bs st k := by
  cases st with
  | none => exact ⟨none, f.obj h h1, rfl, fun k hk => hk⟩
  | some s =>
    obtain ⟨bi, wb, len, Z⟩ := s
    obtain ⟨hc, v, hcv, hs, h4⟩ := h
    cases wb with
    | none => exact ⟨some ⟨bi, none, len, Z⟩, ⟨f.obj hc h1, v, f.obj hcv (h2 _ rfl), hs, h4⟩, rfl, fun k hk => hk⟩
    | some b =>
      obtain ⟨rfl, hw, hl, hb⟩ := hs
      obtain ⟨Z', hw', hl'⟩ := h3 b rfl Z hw
      dsimp only at hl hb hcv h4
      have hbi := h2 _ rfl
      dsimp only at hbi
      have hS : Sl u (.slice (some ⟨b, 0, none⟩) len Z.length) (some b) len Z' := ⟨by rw [hl'], hw', by omega, by omega⟩
      refine ⟨some ⟨bi, some b, len, Z'⟩, ⟨f.obj hc h1, _, f.obj hcv hbi, hS, h4⟩, rfl, ?_⟩
      rintro k (hk | ⟨s, e, hk⟩)
      · exact .inl hk
      · cases e; exact .inr ⟨_, rfl, hk⟩

theorem lenOf_atLen {k : Nat} {st : Option Sk} : atLen k st = none ∨ lenOf (atLen k st) = k := by
  cases st with
  | none => exact .inl rfl
  | some s => exact .inr rfl

theorem sub_cases {z V Q qh R B b W : Nat} (hv5 : z + V * qh = W + B * b) (hdiv : V * Q + R = W) (ha : Q ≤ qh) (hb : qh ≤ Q + 1) (hb1 : b ≤ 1) (hz : z < B) (hR : R < V) :
    (b = 1 ∧ qh = Q + 1 ∧ z + V = R + B) ∨ (b = 0 ∧ qh = Q ∧ z = R) := by
  have hqe : V * (Q + 1) = V * Q + V := by rw [Nat.mul_add, Nat.mul_one]
  rcases Nat.eq_or_lt_of_le ha with e | e
  · subst e
    rcases Nat.eq_or_lt_of_le hb1 with h | h
    · subst h; rw [Nat.mul_one] at hv5; omega
    · have : b = 0 := by omega
      subst this; rw [Nat.mul_zero] at hv5
      exact .inr ⟨rfl, rfl, by omega⟩
  · have : qh = Q + 1 := by omega
    subst this
    rw [hqe] at hv5
    rcases Nat.eq_or_lt_of_le hb1 with h | h
    · subst h; rw [Nat.mul_one] at hv5; exact .inl ⟨rfl, rfl, by omega⟩
    · have : b = 0 := by omega
      subst this; rw [Nat.mul_zero] at hv5; omega

theorem add_tops {z N c a V t R B : Nat} (h1 : z + N * c = a + V) (h2 : a + N * t + V = R + N * B) : z + N * (c + t) = R + N * B := by
  rw [Nat.mul_add]; omega

theorem val0 (a b c : Nat) : a = a + b * (c * nv []) := by simp [nv]

theorem divBasic_c {w : World} {bs : Nat} {st : Option Sk} (hst : St w bs st) (hsl : lenOf st ≤ 4000) {bq cq : Nat} {Zq : List Nat} (hq : Wd w bq Zq) {bu cu : Nat} {Zu us0 : List Nat} (hu : Wd w bu (splice Zu 0 us0))
    {bv ov cv : Nat} {vs : List Nat} (hv : Rd w bv ov vs) {k m : Nat} (hn : vs.length = k + 2) (hL : us0.length = m + (k + 2)) (hLZ : us0.length ≤ Zu.length) (hmq : m ≤ Zq.length) (hcu : us0.length ≤ cu) (hcv : k + 2 ≤ cv)
    (hm : m ≤ 400) (hk : k ≤ 60) (htop : BW / 2 ≤ dg vs (k + 1)) (h0 : nv (us0.drop m) < nv vs)
    (d1 : bq ≠ bu) (d2 : bv ≠ bq) (d3 : bv ≠ bu) (d4 : ¬ inSt bs st bq) (d5 : ¬ inSt bs st bu) (d6 : wbOf st = some bv → ov + vs.length ≤ lenOf st) :
    CallX P 143 #[.slice (some ⟨bq, 0, none⟩) m cq, .pointer (some ⟨bs, 0, none⟩), .slice (some ⟨bu, 0, none⟩) us0.length cu, .slice (some ⟨bv, ov, none⟩) vs.length cv] w fun v w' =>
      ∃ qs us st', qs.length = m ∧ us.length = us0.length ∧ Wd w' bq (splice Zq 0 qs) ∧ Wd w' bu (splice Zu 0 us) ∧ nv us0 = nv us + nv vs * nv qs ∧ nv us < nv vs ∧ St w' bs st' ∧ (st' = none ∨ lenOf st' = lenOf st) ∧
        Fm (fun b => b = bq ∨ b = bu ∨ inSt bs st b) w w' ∧ (∀ b, inSt bs st' b → inSt bs st b ∨ w.heap.size ≤ b) := by
  have hvB : dg vs (k + 1) < BW := hv.wf.dg _
  have hv1 : dg vs (k + 1) ≠ 0 := by unfold BW at htop; omega
  refine calls_vcd mo fn_143 rfl ok_143 (Nat.le_of_ble_eq_true rfl) nm_143 ?_
  refine ⟨_, _, ln se_54 _ _ _ _ _ _, ?_⟩
  refine ⟨_, _, ln se_54 _ _ _ _ _ _, ?_⟩
  refine ⟨_, nSub us0.length vs.length (by omega) (by omega), ?_⟩
  have hmm : us0.length - vs.length = m := by omega
  rw [hmm]
  refine (save_c hst).mono ?_
  rintro v w' ⟨rfl, rfl⟩
  refine ⟨_, nAdd vs.length 1 (by omega), ?_⟩
  refine (nat_c hst (n := vs.length + 1) (by omega) (by omega) (by omega)).mono ?_
  rintro v w1 ⟨st1, b2, o2, c2, Z2, hst1, hlen1, hlen2, hnone, hin, hT⟩
  have hvv := hT.v
  subst hvv
  have hrv := rd_tk hst hT hv d6
  have hq1 := hq.fm hT.fm d4
  have hu1 := hu.fm hT.fm d5
  have n2q : b2 ≠ bq := fun e => by
    subst e
    rcases hT.nd with ⟨h, _⟩ | h
    · cases st with
      | none => cases h
      | some s => exact d4 (.inr ⟨s, rfl, .inr h⟩)
    · have := hq.lt; omega
  have n2u : b2 ≠ bu := fun e => by
    subst e
    rcases hT.nd with ⟨h, _⟩ | h
    · cases st with
      | none => cases h
      | some s => exact d5 (.inr ⟨s, rfl, .inr h⟩)
    · have := hu.lt; omega
  have n2v : bv = b2 → ov + vs.length ≤ o2 := fun e => by
    subst e
    rcases hT.nd with ⟨h, h2⟩ | h
    · rw [h2]; exact d6 h
    · have := hv.lt; omega
  refine ⟨_, nSub vs.length 1 (by omega) (by omega), ?_⟩
  have hvl : vs.length - 1 = k + 1 := by omega
  refine rnA (ia se_54 _ (by omega)) ?_
  refine rnC na_101 (hrv.cell (by omega)) ?_
  rw [hvl]
  refine (reciprocalWord_c hv1 hvB w1).mono ?_
  rintro v w2 ⟨⟨hF2, hs2⟩, rfl⟩
  generalize hrc : recip (dg vs (k + 1) * 2 ^ lz (dg vs (k + 1))) = rc
  have hrv2 := hrv.fm0 hF2
  have hq2 := hq1.fm hF2 (fun h => h)
  have hu2 := hu1.fm hF2 (fun h => h)
  have hZ2 := hT.wd.fm hF2 (fun h => h)
  have hT2 := hT.hz
  have hTc := hT.c
  have hwu0 : WF us0 := WF.of_splice hLZ hu.wf
  have e1i : (m : Int) = ((m + 1 : Nat) : Int) - 1 := by omega
  have hVB : nv vs < BW ^ (k + 2) := by have := nv_lt hv.wf; rwa [hn] at this
  have hV0 : 0 < nv vs := by omega
  (repeat refine vcl_v _ rfl rfl ?_); (refine vcl_end ?_)
  (refine vsr ?_)
  (repeat refine vcl_v _ rfl rfl ?_); (refine vcl_end ?_)
  (refine vsr ?_)
  (repeat refine vcl_v _ rfl rfl ?_); (refine vcl_end ?_)
  refine vloop (Nat × List Nat × List Nat × List Nat) (fun p => ⟨[(0, .slice (some ⟨bq, 0, none⟩) m cq), (2, .slice (some ⟨bu, 0, none⟩) us0.length cu), (3, .slice (some ⟨bv, ov, none⟩) vs.length cv), (8, .int .i64 (vs.length : Int)), (9, .int .i64 (m : Int)), (10, .slice (some ⟨b2, o2, none⟩) (vs.length + 1) c2), (11, vw (dg vs (k + 1))), (12, vw rc), (13, vw (dg p.2.1 (p.1 + (k + 1)))), (14, .int .i64 ((p.1 : Int) - 1))], dRest bs (lenOf st)⟩)
    (fun p u => p.1 ≤ m + 1 ∧ p.2.1.length = us0.length ∧ p.2.2.1.length = m - p.1 ∧ Wd u bu (splice Zu 0 p.2.1) ∧ Wd u bq (splice Zq p.1 p.2.2.1) ∧ (∃ Z, Wd u b2 Z ∧ Z.length = Z2.length) ∧ Rd u bv ov vs ∧
      Fm (fun b => b = bq ∨ b = bu ∨ b = b2) w2 u ∧ nv us0 = nv p.2.1 + nv vs * (BW ^ p.1 * nv p.2.2.1) ∧ nv (p.2.1.drop p.1) < nv vs) (fun p => p.1) (m + 1, us0, [], [])
    ⟨⟨rfl, rfl, rfl, rfl, rfl, rfl, rfl, rfl, ?_, ?_, trivial⟩, rfl⟩ ⟨Nat.le_refl _, rfl, by simp, hu2, by rw [splice_nil]; exact hq2, ⟨Z2, hZ2, rfl⟩, hrv2, Fm.refl _ _, val0 _ _ _, ?_⟩ ?_
  · show some (vw 0) = some (vw (dg us0 (m + 1 + (k + 1))))
    rw [dg_ge (by omega)]
  · show some (Value.int .i64 (m : Int)) = some (Value.int .i64 (((m + 1 : Nat) : Int) - 1))
    rw [e1i]
  · have hd : nv (us0.drop (m + 1)) < BW ^ (k + 1) := by
      have := nv_lt (hwu0.drop (m + 1))
      rwa [List.length_drop, show us0.length - (m + 1) = k + 1 by omega] at this
    have hge : BW ^ (k + 1) ≤ nv vs := by
      have e := nv_top2 hn
      have h1 : BW ^ k * (1 * BW) ≤ BW ^ k * (dg vs (k + 1) * BW + dg vs k) := Nat.mul_le_mul_left _ (Nat.le_trans (Nat.mul_le_mul_right BW (Nat.pos_of_ne_zero hv1)) (Nat.le_add_right _ _))
      rw [Nat.one_mul] at h1
      have hp : BW ^ (k + 1) = BW ^ k * BW := Nat.pow_succ ..
      omega
    exact Nat.lt_of_lt_of_le hd hge
  rintro ⟨j1, us, qs, z0⟩ u ⟨hj, hul, hql, hWu, hWq, ⟨ZZ, hWz, hzl⟩, hRv, hF, hval, hrem⟩
  dsimp only at hj hul hql hWu hWq hval hrem ⊢
  rcases Nat.eq_zero_or_pos j1 with rfl | hjp
  · refine ⟨_, bGeF (by omega), ?_⟩
    refine ⟨fun hc => (by cases hc), fun _ => ?_⟩
    have hst0 : St w2 bs st1 := hst1.fm hF2 (fun _ _ h => h)
    have nq1 : ¬ inSt bs st1 bq := fun e => (hin _ e).elim d4 (fun h => by have := hq.lt; omega)
    have nu1 : ¬ inSt bs st1 bu := fun e => (hin _ e).elim d5 (fun h => by have := hu.lt; omega)
    obtain ⟨st2, hst2, hl2, hi2⟩ := hst0.turn hF (fun e => by
        rcases e with e | e | e
        · exact nq1 (.inl e.symm)
        · exact nu1 (.inl e.symm)
        · subst e
          cases st1 with
          | none => exact hZ2.cl.ne_T hst0 (by decide) rfl
          | some s => exact hZ2.cl.ne_T hst0.1 (by decide) rfl) (fun s es e => by
        subst es
        rcases e with e | e | e
        · exact nq1 (.inr ⟨s, rfl, .inl e.symm⟩)
        · exact nu1 (.inr ⟨s, rfl, .inl e.symm⟩)
        · exact hZ2.ne_stI hst0.2 e.symm) (fun b hb Z hZ => by
        rcases Classical.em (b = b2) with e | e
        · subst e
          exact ⟨ZZ, hWz, by rw [hzl, hZ2.uniq hZ]⟩
        · refine ⟨Z, hZ.fm hF ?_, rfl⟩
          have hb2 : inSt bs st1 b := by
            cases st1 with
            | none => cases hb
            | some s => exact .inr ⟨s, rfl, .inr hb⟩
          rintro (e2 | e2 | e2)
          · subst e2; exact nq1 hb2
          · subst e2; exact nu1 hb2
          · exact e e2)
    refine dfr_rest ?_
    refine (restore_d hst2 (k := lenOf st) (.inr (by omega))).mono ?_
    rintro w5 ⟨hst5, hF5⟩
    have hF01 : Fm (fun b => b = bq ∨ b = bu ∨ inSt bs st b) w w2 := (hT.fm.mono (fun _ _ h => .inr (.inr h))).trans hF2 (fun _ _ h => h.elim)
    have hF02 : Fm (fun b => b = bq ∨ b = bu ∨ inSt bs st b) w u := hF01.trans hF (fun b hb h => by
      rcases h with h | h | h
      · exact .inl h
      · exact .inr (.inl h)
      · subst h
        rcases hT.nd with ⟨h6, _⟩ | h6
        · cases st with
          | none => cases h6
          | some s => exact .inr (.inr (.inr ⟨s, rfl, .inr h6⟩))
        · omega)
    rw [Nat.pow_zero, Nat.one_mul] at hval
    rw [List.drop_zero] at hrem
    exact ⟨qs, us, _, by omega, hul, hWq.fm hF5 (fun e => nq1 (hi2 _ e)), hWu.fm hF5 (fun e => nu1 (hi2 _ e)), hval, hrem, hst5, lenOf_atLen,
      hF02.trans hF5 (fun b hb h => (hin _ (hi2 _ h)).elim (fun h => .inr (.inr h)) (fun h => by omega)), fun b hb => hin _ (hi2 _ (inSt_atLen.1 hb))⟩
  refine ⟨_, bGe (by omega), ?_⟩
  refine ⟨fun _ => ?_, fun hc => (by cases hc)⟩
  obtain ⟨j, rfl⟩ : ∃ j, j1 = j + 1 := ⟨j1 - 1, by omega⟩
  have hji : ((j + 1 : Nat) : Int) - 1 = (j : Int) := by omega
  rw [hji]
  have hwu : WF us := WF.of_splice (by omega) hWu.wf
  have hltj : nv (us.drop j) < nv vs * BW := by
    rw [nv_drop (by omega)]
    have h1 := hwu.dg j
    have h2 : BW * (nv (us.drop (j + 1)) + 1) ≤ BW * nv vs := Nat.mul_le_mul_left _ hrem
    rw [Nat.mul_add] at h2
    rw [Nat.mul_comm (nv vs) BW]
    omega
  obtain ⟨hQI, hle⟩ := tops (j := j) hn hv.wf hwu htop hltj
  have hQB : nv (us.drop j) / nv vs < BW := by rw [Nat.div_lt_iff_lt_mul hV0, Nat.mul_comm]; exact hltj
  have hzl2 : o2 + (vs.length + 1) ≤ ZZ.length := by rw [hzl]; exact hT2
  have hRu : Rd u bu 0 us := rd_spliced (o := 0) hWu (by omega)
  have i1 : j + vs.length - 1 = j + (k + 1) := by omega
  have i2 : j + vs.length - 2 = j + k := by omega
  have i3 : vs.length - 2 = k := by omega
  have hQm : j = m → nv (us.drop j) < nv vs := fun hjm => by
    have hus : us = us0 := by
      have e0 : qs = [] := List.eq_nil_of_length_eq_zero (by omega)
      refine nv_inj hwu hwu0 hul ?_
      rw [hval, e0]; exact val0 (nv us) (nv vs) (BW ^ (j + 1))
    rw [hus, hjm]; exact h0
  generalize hQ : nv (us.drop j) / nv vs = Q at *
  (refine sqn ?_)
  (refine vsb ?_)
  (refine vsr ?_)
  (repeat refine vcl_v _ rfl rfl ?_); (refine vcl_end ?_)
  refine vcut (by repeat (first | exact moE _ _ _ | exact moEd _ _ _ | apply moB | apply moL | apply moV)) Nat (fun qh => ⟨[(0, .slice (some ⟨bq, 0, none⟩) m cq), (2, .slice (some ⟨bu, 0, none⟩) us0.length cu), (3, .slice (some ⟨bv, ov, none⟩) vs.length cv), (8, .int .i64 (vs.length : Int)), (9, .int .i64 (m : Int)), (10, .slice (some ⟨b2, o2, none⟩) (vs.length + 1) c2), (11, vw (dg vs (k + 1))), (12, vw rc), (14, .int .i64 (j : Int)), (15, vw qh)], dRest bs (lenOf st)⟩)
    (fun qh u' => u' = u ∧ Q ≤ qh ∧ qh ≤ Q + 1 ∧ qh < BW) ?_ ?_
  · (refine vsr ?_)
    refine ⟨_, bNeD, ?_⟩
    (repeat refine vcl_v _ rfl rfl ?_); (refine vcl_end ?_)
    refine ⟨fun hc => ?_, fun hc => ?_⟩
    · have hne : dg us (j + 1 + (k + 1)) ≠ dg vs (k + 1) := fun e => by simp [e] at hc
      rw [show j + 1 + (k + 1) = j + (k + 2) by omega] at hne ⊢
      have hlt : dg us (j + (k + 2)) < dg vs (k + 1) := by omega
      (refine vsr ?_)
      (repeat refine vcl_v _ rfl rfl ?_); (refine vcl_end ?_)
      (refine vsr ?_)
      refine ⟨_, nAdd j vs.length (by omega), ?_⟩
      refine ⟨_, nSub (j + vs.length) 1 (by omega) (by omega), ?_⟩
      refine rnA (ia se_54 _ (by omega)) ?_
      refine rnC na_101 (hRu.cell (by omega)) ?_
      rw [i1]
      refine (divWW_c hlt hvB (hwu.dg _) hrc.symm u).mono ?_
      rintro v u2 ⟨rfl, rfl⟩
      have hI0 := hQI.start (hwu.dg _) (Nat.pos_of_ne_zero hv1) (by have := hwu.dg (j + (k + 1)); have h3 : (dg us (j + (k + 2)) + 1) * BW ≤ dg vs (k + 1) * BW := Nat.mul_le_mul_right _ hlt; rw [Nat.add_mul] at h3; omega)
      rw [hQ] at hI0
      have hv2B := hv.wf.dg k
      have hu0B := hwu.dg (j + k)
      have hrB : (dg us (j + (k + 2)) * BW + dg us (j + (k + 1))) % dg vs (k + 1) < BW := by have := Nat.mod_lt (dg us (j + (k + 2)) * BW + dg us (j + (k + 1))) (Nat.pos_of_ne_zero hv1); omega
      generalize hq0 : (dg us (j + (k + 2)) * BW + dg us (j + (k + 1))) / dg vs (k + 1) = q0 at *
      generalize hr0 : (dg us (j + (k + 2)) * BW + dg us (j + (k + 1))) % dg vs (k + 1) = r0 at *
      generalize dg us (j + (k + 2)) * BW + dg us (j + (k + 1)) = u21 at *
      (repeat refine vcl_v _ rfl rfl ?_); (refine vcl_end ?_)
      (refine vsr ?_)
      refine ⟨_, nSub vs.length 2 (by omega) (by omega), ?_⟩
      refine rnA (ia se_54 _ (by omega)) ?_
      refine rnC na_101 (hRv.cell (by omega)) ?_
      rw [i3]
      generalize hv2 : dg vs k = v2 at *
      generalize hu0 : dg us (j + k) = u0 at *
      generalize hv1e : dg vs (k + 1) = v1 at *
      (repeat refine vcl_v _ rfl rfl ?_); (refine vcl_end ?_)
      (refine vsr ?_)
      refine (mulWW_c hI0.2.2 hv2B u).mono ?_
      rintro v u2 ⟨rfl, x1, x2, rfl, hx1, hx2, hxe⟩
      (repeat refine vcl_v _ rfl rfl ?_); (refine vcl_end ?_)
      (refine vsr ?_)
      refine ⟨_, nAdd j vs.length (by omega), ?_⟩
      refine ⟨_, nSub (j + vs.length) 2 (by omega) (by omega), ?_⟩
      refine rnA (ia se_54 _ (by omega)) ?_
      refine rnC na_101 (hRu.cell (by omega)) ?_
      rw [i2, hu0]
      (repeat refine vcl_v _ rfl rfl ?_); (refine vcl_end ?_)
      refine vloop (Nat × Nat × Nat × Nat) (fun p => ⟨(15, vw p.1) :: (16, vw p.2.1) :: (17, vw v2) :: (18, vw p.2.2.1) :: (19, vw p.2.2.2) :: (20, vw u0) :: [(0, .slice (some ⟨bq, 0, none⟩) m cq), (2, .slice (some ⟨bu, 0, none⟩) us0.length cu), (3, .slice (some ⟨bv, ov, none⟩) vs.length cv), (8, .int .i64 (vs.length : Int)), (9, .int .i64 (m : Int)), (10, .slice (some ⟨b2, o2, none⟩) (vs.length + 1) c2), (11, vw v1), (12, vw rc), (14, .int .i64 (j : Int))], dRest bs (lenOf st)⟩)
        (fun p u' => u' = u ∧ RInv v1 u21 Q p.1 p.2.1 ∧ p.2.1 < BW ∧ p.2.2.1 < BW ∧ p.2.2.2 < BW ∧ p.2.2.2 + BW * p.2.2.1 = p.1 * v2) (fun p => p.1) (q0, r0, x1, x2)
        ⟨⟨rfl, rfl, rfl, rfl, rfl, rfl, rfl, rfl, rfl, rfl, rfl, rfl, rfl, rfl, rfl, trivial⟩, rfl⟩ ⟨rfl, hI0, hrB, hx1, hx2, hxe⟩ ?_
      rintro ⟨q, r, y1, y2⟩ u' ⟨rfl, hI, hr, hy1, hy2, hye⟩
      dsimp only at hI hr hy1 hy2 hye ⊢
      refine (greaterThan_c hy2 hu0B u').mono ?_
      rintro v u2 ⟨rfl, rfl⟩
      rw [← hQ] at hI
      rcases Nat.lt_or_ge (r * BW + u0) (y1 * BW + y2) with hgt | hgt
      · have hc2 : r * BW + u0 < q * v2 := by rw [← hye, Nat.mul_comm BW y1]; omega
        obtain ⟨hq1, hI2⟩ := hQI.down hI hc2
        rw [decide_eq_true hgt]
        refine ⟨fun _ => ?_, fun hc => (by cases hc)⟩
        (refine sqn ?_)
        refine vbk ?_
        (refine vsr ?_)
        have hqB : q < BW := hI.2.2
        refine ⟨_, wSub' (x := q) (y := 1) hq1 (by unfold BW at hqB; omega), ?_⟩
        (repeat refine vcl_v _ rfl rfl ?_); (refine vcl_end ?_)
        (refine vsr ?_)
        refine ⟨_, wAdd r v1, ?_⟩
        (repeat refine vcl_v _ rfl rfl ?_); (refine vcl_end ?_)
        have hv1B : v1 < 18446744073709551616 := hvB
        have hr' : r < 18446744073709551616 := hr
        rcases Nat.lt_or_ge (r + v1) 18446744073709551616 with hov | hov
        · have hm : (r + v1) % 18446744073709551616 = r + v1 := Nat.mod_eq_of_lt hov
          rw [hm]
          refine ⟨_, bLtF (by omega), ?_⟩
          refine ⟨fun hc => (by cases hc), fun _ => ?_⟩
          obtain ⟨q', rfl⟩ : ∃ q', q = q' + 1 := ⟨q - 1, by omega⟩
          have hye2 : y2 + BW * y1 = q' * v2 + v2 := by rw [hye, Nat.add_mul, Nat.one_mul]
          have hy2' : y2 < 18446744073709551616 := hy2
          have hv2' : v2 < 18446744073709551616 := hv2B
          rcases Nat.lt_or_ge y2 v2 with hb | hb
          · have hy1p : 1 ≤ y1 := by
              rcases Nat.eq_zero_or_pos y1 with e | e
              · subst e; rw [Nat.mul_zero] at hye2; have := Nat.zero_le (q' * v2); omega
              · exact e
            refine ⟨_, bGt (by omega), ?_⟩
            refine ⟨fun _ => ?_, fun hc => (by cases hc)⟩
            refine ⟨_, wSub' (x := y1) (y := 1) hy1p (by unfold BW at hy1; omega), ?_⟩
            refine ⟨_, wSub y2 v2 (by omega), ?_⟩
            have hm2 : (y2 + (18446744073709551616 - v2)) % 18446744073709551616 = y2 + (18446744073709551616 - v2) := Nat.mod_eq_of_lt (by omega)
            rw [hm2]
            refine ⟨(q' + 1 - 1, r + v1, y1 - 1, y2 + (18446744073709551616 - v2)), ⟨⟨rfl, rfl, rfl, rfl, rfl, rfl, rfl, rfl, rfl, rfl, rfl, rfl, rfl, rfl, rfl, trivial⟩, rfl⟩, ⟨rfl, by rw [← hQ]; exact hI2, hov, by show y1 - 1 < BW; omega, by show y2 + (18446744073709551616 - v2) < BW; unfold BW; omega, ?_⟩, by show q' + 1 - 1 < q' + 1; omega⟩
            show y2 + (18446744073709551616 - v2) + BW * (y1 - 1) = q' * v2
            have hp : BW * (y1 - 1) + BW = BW * y1 := by rw [Nat.mul_sub, Nat.mul_one]; have : BW * 1 ≤ BW * y1 := Nat.mul_le_mul_left _ hy1p; omega
            have hBe : BW = 18446744073709551616 := rfl
            generalize BW * (y1 - 1) = a1 at *
            generalize BW * y1 = a2 at *
            generalize q' * v2 = a3 at *
            omega
          · refine ⟨_, bGtF (by omega), ?_⟩
            refine ⟨fun hc => (by cases hc), fun _ => ?_⟩
            refine ⟨_, wSub' (x := y2) (y := v2) hb hy2', ?_⟩
            refine ⟨(q' + 1 - 1, r + v1, y1, y2 - v2), ⟨⟨rfl, rfl, rfl, rfl, rfl, rfl, rfl, rfl, rfl, rfl, rfl, rfl, rfl, rfl, rfl, trivial⟩, rfl⟩, ⟨rfl, by rw [← hQ]; exact hI2, hov, hy1, by show y2 - v2 < BW; omega, ?_⟩, by show q' + 1 - 1 < q' + 1; omega⟩
            show y2 - v2 + BW * y1 = q' * v2
            omega
        · have hm : (r + v1) % 18446744073709551616 = r + v1 - 18446744073709551616 := by rw [Nat.mod_eq_sub_mod hov, Nat.mod_eq_of_lt (by omega)]
          rw [hm]
          refine ⟨_, bLt (by omega), ?_⟩
          refine ⟨fun _ => ?_, fun hc => (by cases hc)⟩
          refine ⟨q - 1, ⟨⟨rfl, rfl, rfl, rfl, rfl, rfl, rfl, rfl, rfl, rfl, trivial⟩, rfl⟩, rfl, ?_⟩
          rw [← hQ]
          exact hQI.broke hI2 hv2B hov
      · rw [decide_eq_false (Nat.not_lt.2 hgt)]
        refine ⟨fun hc => (by cases hc), fun _ => ?_⟩
        refine ⟨q, ⟨⟨rfl, rfl, rfl, rfl, rfl, rfl, rfl, rfl, rfl, rfl, trivial⟩, rfl⟩, rfl, ?_⟩
        rw [← hQ]
        exact hQI.done hI (by rw [← hye, Nat.mul_comm BW y1]; omega)
    · have he : dg us (j + 1 + (k + 1)) = dg vs (k + 1) := by
        have h0 : decide (((dg us (j + 1 + (k + 1)) : Nat) : Int) ≠ ((dg vs (k + 1) : Nat) : Int)) = false := hc
        have := of_decide_eq_false h0
        omega
      have he2 : dg us (j + (k + 2)) = dg vs (k + 1) := by rw [show j + (k + 2) = j + 1 + (k + 1) by omega]; exact he
      have hM : 18446744073709551615 = BW - 1 := by unfold BW; omega
      refine ⟨18446744073709551615, ⟨⟨rfl, rfl, rfl, rfl, rfl, rfl, rfl, rfl, rfl, rfl, trivial⟩, rfl⟩, rfl, by rw [hM]; omega, ?_, by rw [hM]; have := BW_pos; omega⟩
      rw [← hQ, hM]
      refine hQI.max (v1 := dg vs (k + 1)) ?_ ?_ ?_
      · rw [Nat.add_mul]; have := hv.wf.dg k; omega
      · rw [he2, Nat.add_mul, Nat.mul_assoc]; exact Nat.le_trans (Nat.le_add_right _ _) (Nat.le_add_right _ _)
      · unfold BW at htop ⊢; omega
  rintro qh u' ⟨rfl, hqa, hqb, hqB⟩
  (refine vsr ?_)
  refine rnA (sl (lo := 0) (hi := vs.length) se_54 _ _ (Nat.zero_le _) (by omega)) ?_
  rw [subA_zero, Nat.sub_zero, Nat.sub_zero]
  refine (mulAddVWW_c (cz := c2) (cx := cv) hWz hRv hqB BW_pos (by omega) (fun e => .inr (n2v e)) (by omega)).mono ?_
  rintro v u1 ⟨zs, c, rfl, hcB, hzsl, hW1, hv1, hF1, hs1⟩
  refine rnA (ia (i := vs.length) se_54 _ (by omega)) ?_
  obtain ⟨u2, e2, hW2, hF2', hs2'⟩ := hW1.st (i := o2 + vs.length) (by rw [splice_len (by omega)]; omega) hcB
  refine ⟨u2, e2, ?_⟩
  have es := splice_snoc (Z := ZZ) (o := o2) (l := zs) (by omega) c
  rw [hzsl] at es
  rw [es] at hW2
  have hPl : (zs ++ [c]).length = vs.length + 1 := by simp [hzsl]
  have hPv : nv (zs ++ [c]) = nv vs * qh := by
    rw [nv_append, hzsl]; simp only [nv, Nat.mul_zero, Nat.add_zero] at hv1 ⊢; exact hv1
  have hRP := rd_spliced (o := o2) hW2 (by rw [hPl]; omega)
  have hWF1 : WF (zs ++ [c]) := hRP.wf
  have hdc : dg (zs ++ [c]) vs.length = c := by rw [dg_append_right (by omega), hzsl, Nat.sub_self]; simp [dg]
  have hZl2 : (splice ZZ o2 (zs ++ [c])).length = ZZ.length := splice_len (by rw [hPl]; omega)
  have hF12 : Fm (· = b2) u' u2 := hF1.trans hF2' (fun _ _ h => h)
  have hRv2 : Rd u2 bv ov vs := hRv.keep hWz hW2 hF12 (by rw [hPl]; omega) (fun e => .inl (n2v e))
  generalize hZe : splice ZZ o2 (zs ++ [c]) = Z4 at *
  generalize hP : zs ++ [c] = P' at *
  have hWu2 : Wd u2 bu (splice Zu 0 us) := hWu.fm hF12 (fun e => n2u e.symm)
  have hWq2 : Wd u2 bq (splice Zq (j + 1) qs) := hWq.fm hF12 (fun e => n2q e.symm)
  clear es e2 hW1 hF1 hF2' hRu
  (repeat refine vcl_v _ rfl rfl ?_); (refine vcl_end ?_)
  (refine vsr ?_)
  refine ⟨_, _, ln se_54 _ _ _ _ _ _, ?_⟩
  (repeat refine vcl_v _ rfl rfl ?_); (refine vcl_end ?_)
  refine vcut (by repeat (first | exact moE _ _ _ | exact moEd _ _ _ | apply moB | apply moL | apply moV)) Nat (fun L => ⟨(21, .int .i64 (L : Int)) :: (15, vw qh) :: [(0, .slice (some ⟨bq, 0, none⟩) m cq), (2, .slice (some ⟨bu, 0, none⟩) us0.length cu), (3, .slice (some ⟨bv, ov, none⟩) vs.length cv), (8, .int .i64 (vs.length : Int)), (9, .int .i64 (m : Int)), (10, .slice (some ⟨b2, o2, none⟩) (vs.length + 1) c2), (11, vw (dg vs (k + 1))), (12, vw rc), (14, .int .i64 (j : Int))], dRest bs (lenOf st)⟩)
    (fun L u4 => u4 = u2 ∧ j + L ≤ us.length ∧ nv (P'.take L) = nv vs * qh ∧ nv (us.drop j) < BW ^ L ∧ ((L = vs.length ∧ j = m) ∨ (L = vs.length + 1 ∧ j < m))) ?_ ?_
  · refine ⟨_, nAdd j (vs.length + 1) (by omega), ?_⟩
    refine ⟨_, _, ln se_54 _ _ _ _ _ _, ?_⟩
    rcases Nat.eq_or_lt_of_le (show j ≤ m by omega) with hjm | hjm
    · have hWV := hQm hjm
      have hQ0 : Q = 0 := by rw [← hQ]; exact Nat.div_eq_of_lt hWV
      have hPV : nv P' < BW ^ vs.length := by
        rw [hPv, hn]
        have : nv vs * qh ≤ nv vs * 1 := Nat.mul_le_mul_left _ (by omega)
        rw [Nat.mul_one] at this
        exact Nat.lt_of_le_of_lt this hVB
      have hc0 : c = 0 := by rw [← hdc]; exact dg_zero_of_lt hWF1 hPV _ (Nat.le_refl _)
      refine ⟨_, bGt (by omega), ?_⟩
      refine rnA (ia se_54 _ (by omega)) ?_
      refine rnC na_101 (hRP.cell (i := vs.length) (by omega)) ?_
      rw [hdc, hc0]
      refine ⟨_, bEq rfl, ?_⟩
      refine ⟨fun _ => ?_, fun hc => (by cases hc)⟩
      refine ⟨_, nSub (vs.length + 1) 1 (by omega) (by omega), ?_⟩
      refine ⟨vs.length, ⟨⟨rfl, rfl, rfl, rfl, rfl, rfl, rfl, rfl, rfl, rfl, rfl, trivial⟩, rfl⟩, rfl, by omega, ?_, ?_, .inl ⟨rfl, hjm⟩⟩
      · rw [nv_take_of_lt hWF1 hPV, hPv]
      · rw [hn]; exact Nat.lt_trans hWV hVB
    · refine ⟨_, bGtF (by omega), ?_⟩
      refine ⟨fun hc => (by cases hc), fun _ => ?_⟩
      refine ⟨vs.length + 1, ⟨⟨rfl, rfl, rfl, rfl, rfl, rfl, rfl, rfl, rfl, rfl, rfl, trivial⟩, rfl⟩, rfl, by omega, ?_, ?_, .inr ⟨rfl, hjm⟩⟩
      · rw [List.take_of_length_le (by omega), hPv]
      · have hp : BW ^ (vs.length + 1) = BW ^ vs.length * BW := Nat.pow_succ ..
        rw [hp, hn]
        exact Nat.lt_of_lt_of_le hltj (Nat.mul_le_mul_right _ (Nat.le_of_lt hVB))
  rintro L u4 ⟨rfl, hjL, hPL, hWL, hLc⟩
  have hLn : L ≤ vs.length + 1 := by omega
  have hnL : vs.length ≤ L := by omega
  have hLs : (P'.take L).length = L := by rw [List.length_take]; omega
  have hxl : ((us.drop j).take L).length = L := by rw [List.length_take, List.length_drop]; omega
  have hxv : nv ((us.drop j).take L) = nv (us.drop j) := nv_take_of_lt (hwu.drop j) hWL
  have hRx : Rd u4 bu (0 + j) ((us.drop j).take L) := (rd_spliced (o := 0) hWu2 (by omega)).sub j L hjL
  have hRPL : Rd u4 b2 o2 (P'.take L) := by have := hRP.sub 0 L (by omega); rwa [List.drop_zero] at this
  have hdiv := Nat.div_add_mod (nv (us.drop j)) (nv vs)
  have hmod := Nat.mod_lt (nv (us.drop j)) hV0
  rw [hQ] at hdiv
  generalize hR : nv (us.drop j) % nv vs = R at *
  refine ⟨.take 0 (.take 1 (.take 2 (.take 3 (.take 4 (.take 5 (.take 6 (.take 7 (.take 8 (.take 9 (.take 10 (.take 11 (.take 12 (.take 13 (.take 14 (.one 15 [] (.take 16 (.done))))))))))))))))), by kernel_rfl, ?_⟩
  refine ⟨_, nAdd j L (by omega), ?_⟩
  refine tkA (sl se_54 _ _ (by omega) (by omega)) ?_
  refine ⟨_, nAdd j L (by omega), ?_⟩
  refine tkA (sl se_54 _ _ (by omega) (by omega)) ?_
  refine tkA (slHi se_54 _ (by omega)) ?_
  rw [subA_some (by omega), show j + L - j = L by omega]
  have ca := subVV_c (cz := cu - j) (cx := cu - j) (cy := c2) hWu2.drew hRx.drew hRPL.drew (by rw [hxl, hLs]) (oz := 0 + j) (by rw [hxl, splice_len (by omega)]; omega) (fun _ => .inl (Nat.le_refl _)) (fun e => absurd e n2u) (by rw [hxl]; omega)
  rw [hxl, hLs] at ca
  refine ca.mono ?_
  rintro v u5 ⟨z2, b5, rfl, hb5, hz2, hWu5, hv5, hF5, hs5⟩
  refine ⟨trivial, ?_⟩
  have hF5' : Fm (· = bu) u4 u5 := hF5.drew'
  have hRz5 : Rd u5 bu (0 + j) z2 := rd_spliced hWu5 (by rw [hz2, splice_len (by omega)]; omega)
  rw [Nat.zero_add, splice_in (by omega) (by omega)] at hWu5
  rw [hxv, hPL] at hv5
  have hWq5 : Wd u5 bq (splice Zq (j + 1) qs) := hWq2.fm hF5' d1
  have hW5 : Wd u5 b2 Z4 := hW2.fm hF5' n2u
  have hRv5 : Rd u5 bv ov vs := hRv2.fm hF5' d3
  have hwz2 : WF z2 := by
    have := WF.of_splice (Z := Zu) (by rw [splice_len (by omega)]; omega) hWu5.wf
    have e := splice_mid (Z := us) (o := j) (l := z2) (by omega)
    rw [← e]; exact (this.drop _).take _
  have hz2l := nv_lt hwz2
  rw [hz2] at hz2l
  have hcase := sub_cases hv5 hdiv hqa hqb hb5 hz2l hmod
  (repeat refine vcp_v _ rfl rfl rfl ?_); (refine vcp_end ?_)
  refine vcut (by repeat (first | exact moE _ _ _ | exact moEd _ _ _ | apply moB | apply moL | apply moV)) (List Nat) (fun _ => ⟨(15, vw Q) :: [(0, .slice (some ⟨bq, 0, none⟩) m cq), (2, .slice (some ⟨bu, 0, none⟩) us0.length cu), (3, .slice (some ⟨bv, ov, none⟩) vs.length cv), (8, .int .i64 (vs.length : Int)), (9, .int .i64 (m : Int)), (10, .slice (some ⟨b2, o2, none⟩) (vs.length + 1) c2), (11, vw (dg vs (k + 1))), (12, vw rc), (14, .int .i64 (j : Int))], dRest bs (lenOf st)⟩)
    (fun r u6 => r.length = L ∧ nv r = R ∧ Wd u6 bu (splice Zu 0 (splice us j r)) ∧ Wd u6 bq (splice Zq (j + 1) qs) ∧ Wd u6 b2 Z4 ∧ Rd u6 bv ov vs ∧ Fm (· = bu) u4 u6) ?_ ?_
  · have lA : (splice us j z2).length = us.length := splice_len (by omega)
    have lC : (splice Zu 0 (splice us j z2)).length = Zu.length := splice_len (by omega)
    have hVn : nv vs < BW ^ vs.length := by rw [hn]; exact hVB
    have hn0 : 0 < vs.length := by omega
    have hjc : j < cu := by omega
    have hjnc : j + vs.length ≤ cu := by omega
    have hjn : j + vs.length ≤ us.length := by omega
    have hnb : vs.length < 1000 := by omega
    have hjb : j < 1000 := by omega
    have huZ : us.length ≤ Zu.length := by omega
    have huc : us0.length = us.length := hul.symm
    have hqB' : qh < 18446744073709551616 := hqB
    clear hdiv hv5 hval hrem hltj hWL hle htop h0 hsl hlen1 hlen2 hs2 hZl2 hzl hzl2 hPl hvB hv1 hL hLZ hmq hcu hcv hm hk hVB hV0 hQB hqa hqb hqB hxl hxv hPL hQI hz2l hb5 hT2 hTc hPv hdc hcB hs5 hj hjp hji hul hql i1 i2 i3 hLs hvl hmm e1i hQm
    rcases hcase with ⟨rfl, rfl, hv5'⟩ | ⟨rfl, rfl, hzR⟩
    · refine ⟨_, bNe (by omega), ?_⟩
      refine ⟨fun _ => ?_, fun hc => (by cases hc)⟩
      refine ⟨.take 0 (.take 1 (.take 2 (.take 3 (.take 4 (.take 5 (.take 6 (.take 7 (.take 8 (.take 9 (.take 10 (.take 11 (.take 12 (.one 13 [] (.take 14 (.done))))))))))))))), by kernel_rfl, ?_⟩
      refine ⟨_, nAdd j vs.length (by omega), ?_⟩
      refine tkA (sl se_54 _ _ (by omega) (by omega)) ?_
      refine ⟨_, nAdd j vs.length (by omega), ?_⟩
      refine tkA (sl se_54 _ _ (by omega) (by omega)) ?_
      rw [subA_some (by omega), show j + vs.length - j = vs.length by omega]
      have hRz6 : Rd u5 bu (0 + j) (z2.take vs.length) := by have := hRz5.sub 0 vs.length (by omega); rwa [List.drop_zero, Nat.add_zero] at this
      have hzt : (z2.take vs.length).length = vs.length := by rw [List.length_take]; omega
      have cb := addVV_c (cz := cu - j) (cx := cu - j) (cy := cv) hWu5.drew hRz6.drew hRv5.drew hzt.symm (oz := 0 + j) (by rw [hzt, lC]; omega) (fun _ => .inl (Nat.le_refl _)) (fun e => absurd e d3) (by rw [hzt]; omega)
      rw [hzt] at cb
      refine cb.mono ?_
      rintro v u6 ⟨z3, c3, rfl, hc3, hz3, hWu6, hv6, hF6, hs6⟩
      refine ⟨trivial, ?_⟩
      have hF6' : Fm (· = bu) u5 u6 := hF6.drew'
      have lB : (splice (splice us j z2) j z3).length = us.length := by rw [splice_len (by rw [lA]; omega), lA]
      have lD : (splice Zu 0 (splice (splice us j z2) j z3)).length = Zu.length := splice_len (by rw [lB]; omega)
      rw [Nat.zero_add, splice_in (by rw [lA]; omega) (by rw [lA]; omega)] at hWu6
      have hWq6 : Wd u6 bq (splice Zq (j + 1) qs) := hWq5.fm hF6' d1
      have hW6 : Wd u6 b2 Z4 := hW5.fm hF6' n2u
      have hRv6 : Rd u6 bv ov vs := hRv5.fm hF6' d3
      have hFF : Fm (· = bu) u4 u6 := hF5'.trans hF6' (fun _ _ h => h)
      have hwz3 : WF z3 := by
        have := WF.of_splice (Z := Zu) (by rw [lB]; omega) hWu6.wf
        have e := splice_mid (Z := splice us j z2) (o := j) (l := z3) (by rw [lA]; omega)
        rw [← e]; exact (this.drop _).take _
      have hz3l := nv_lt hwz3
      rw [hz3] at hz3l
      have hRV : R < BW ^ vs.length := Nat.lt_trans hmod hVn
      clear hVn hmod hs6
      rcases hLc with ⟨hLe, hjm⟩ | ⟨hLe, hjm⟩
      · rw [hLe] at hv5'
        rw [List.take_of_length_le (by omega), hv5'] at hv6
        obtain ⟨_, hzR⟩ := addback (c := c3) (b := 1) (by rw [Nat.mul_one]; exact hv6) hz3l hRV
        clear hv6 hv5' hz3l hRV
        refine ⟨_, bLtF (by omega), ?_⟩
        refine ⟨fun hc => (by cases hc), fun _ => ?_⟩
        refine ⟨_, wSub' (x := Q + 1) (y := 1) (by omega) (by omega), ?_⟩
        rw [splice_twice (by omega) (by omega)] at hWu6
        exact ⟨z3, ⟨⟨rfl, rfl, rfl, rfl, rfl, rfl, rfl, rfl, rfl, rfl, trivial⟩, rfl⟩, by omega, hzR, hWu6, hWq6, hW6, hRv6, hFF⟩
      · rw [hLe, Nat.pow_succ] at hv5'
        have et := nv_take_succ (l := z2) (i := vs.length) (by omega)
        rw [List.take_of_length_le (by omega)] at et
        rw [et] at hv5'
        obtain ⟨hct, hzR⟩ := addback (add_tops hv6 hv5') hz3l hRV
        have hz0 : (dg z2 vs.length + c3) % 18446744073709551616 = 0 := by
          rw [Nat.add_comm, hct]; exact Nat.mod_self _
        clear hv6 hv5' hz3l hRV et hct
        refine ⟨_, bLt (by omega), ?_⟩
        refine ⟨fun _ => ?_, fun hc => (by cases hc)⟩
        refine ⟨_, nAdd j vs.length (by omega), ?_⟩
        refine rnA (ia se_54 _ (by omega)) ?_
        have hRu6 : Rd u6 bu 0 (splice (splice us j z2) j z3) := rd_spliced (o := 0) hWu6 (by rw [lB]; omega)
        have hdt : dg (splice (splice us j z2) j z3) (j + vs.length) = dg z2 vs.length := by
          rw [dg_splice_high (by rw [lA]; omega) (by omega), dg_splice_in (by omega) (by omega)]
        refine rnC na_101 (hRu6.cell (i := j + vs.length) (by rw [lB]; omega)) ?_
        rw [hdt]
        refine ⟨_, wAdd _ _, ?_⟩
        rw [hz0]
        refine rnA (ia se_54 _ (by omega)) ?_
        obtain ⟨u7, e7, hW7, hF7, hs7⟩ := hWu6.st (i := 0 + (j + vs.length)) (by rw [lD]; omega) BW_pos
        refine ⟨u7, e7, ?_⟩
        rw [Nat.zero_add, set_splice0 (by rw [lB]; omega) (by rw [lB]; omega), ← hz3, splice_fix (by omega) (by omega)] at hW7
        refine ⟨_, wSub' (x := Q + 1) (y := 1) (by omega) (by omega), ?_⟩
        refine ⟨z3 ++ [0], ⟨⟨rfl, rfl, rfl, rfl, rfl, rfl, rfl, rfl, rfl, rfl, trivial⟩, rfl⟩, by rw [List.length_append]; simp only [List.length_cons, List.length_nil]; omega, ?_, hW7, hWq6.fm hF7 d1, hW6.fm hF7 n2u, hRv6.fm hF7 d3, hFF.trans hF7 (fun _ _ h => h)⟩
        rw [nv_append]; simp only [nv, Nat.mul_zero, Nat.add_zero]; exact hzR
    · refine ⟨_, bNeF rfl, ?_⟩
      refine ⟨fun hc => (by cases hc), fun _ => ?_⟩
      exact ⟨z2, ⟨⟨rfl, rfl, rfl, rfl, rfl, rfl, rfl, rfl, rfl, rfl, trivial⟩, rfl⟩, hz2, hzR, hWu5, hWq5, hW5, hRv5, hF5'⟩
  rintro r u6 ⟨hrl, hrv, hWu6, hWq6, hW6, hRv6, hF6⟩
  have hUl : (splice us j r).length = us0.length := by rw [splice_len (by omega)]; exact hul
  have hRu6 : Rd u6 bu 0 (splice us j r) := rd_spliced (o := 0) hWu6 (by omega)
  have hover := nv_over (p := us) (r := r) (j := j) (by omega)
  have hsp : us.take j ++ r ++ us.drop (j + r.length) = splice us j r := rfl
  rw [hsp, hrl, hxv, hrv] at hover
  have hup : nv (us.drop (j + L)) = 0 := by
    have e := nv_split (us.drop j) L
    rw [hxv, List.drop_drop] at e
    have e2 : BW ^ min L (us.drop j).length * nv (us.drop (j + L)) = 0 := by omega
    rcases Nat.mul_eq_zero.1 e2 with e3 | e3
    · exact absurd e3 (Nat.pos_iff_ne_zero.1 (Nat.pow_pos BW_pos))
    · exact e3
  have hrem6 : nv ((splice us j r).drop j) < nv vs := by
    rw [drop_splice (by omega), nv_append, hrl, hup, Nat.mul_zero, Nat.add_zero, hrv]
    exact hmod
  rw [Nat.pow_succ] at hval
  have hval6 := digit_in hval hover hdiv
  have hFF6 : Fm (fun b => b = bq ∨ b = bu ∨ b = b2) w2 u6 := (hF.trans hF12 (fun _ _ h => .inr (.inr h))).trans hF6 (fun _ _ h => .inr (.inl h))
  refine ⟨_, nAdd j vs.length (by omega), ?_⟩
  refine ⟨_, nSub (j + vs.length) 1 (by omega) (by omega), ?_⟩
  refine rnA (ia se_54 _ (by omega)) ?_
  refine rnC na_101 (hRu6.cell (by omega)) ?_
  rw [i1]
  rcases hLc with ⟨hLe, hjm⟩ | ⟨hLe, hjm⟩
  · have hQ0 : Q = 0 := by rw [← hQ]; exact Nat.div_eq_of_lt (hQm hjm)
    have hqs0 : qs = [] := List.eq_nil_of_length_eq_zero (by omega)
    refine ⟨_, bEq (by omega), ?_⟩
    refine ⟨_, _, ln se_54 _ _ _ _ _ _, ?_⟩
    refine ⟨_, bEq rfl, ?_⟩
    refine ⟨_, bEq (by omega), ?_⟩
    refine ⟨fun _ => ?_, fun hc => (by cases hc)⟩
    refine ⟨_, bSub (by omega), ?_⟩
    have hv6 : Q + BW * nv qs = nv [] := by rw [hQ0, hqs0]; simp only [nv, Nat.mul_zero, Nat.add_zero]
    rw [hv6] at hval6
    rw [hqs0, splice_nil] at hWq6
    refine ⟨(j, splice us j r, [], []), ⟨⟨rfl, rfl, rfl, rfl, rfl, rfl, rfl, rfl, rfl, rfl, trivial⟩, rfl⟩, ⟨by show j ≤ m + 1; omega, hUl, by show 0 = m - j; omega, hWu6, by rw [splice_nil]; exact hWq6, ⟨Z4, hW6, by rw [hZl2]; exact hzl⟩, hRv6, hFF6, hval6, hrem6⟩, by show j < j + 1; omega⟩
  · refine ⟨_, bEqF (by omega), ?_⟩
    refine ⟨fun hc => (by cases hc), fun _ => ?_⟩
    refine rnA (ia se_54 _ hjm) ?_
    obtain ⟨u7, e7, hW7, hF7, hs7⟩ := hWq6.st (i := 0 + j) (by rw [splice_len (by omega)]; omega) hQB
    refine ⟨u7, e7, ?_⟩
    rw [Nat.zero_add, splice_cons (by omega)] at hW7
    refine ⟨_, bSub (by omega), ?_⟩
    refine ⟨(j, splice us j r, Q :: qs, []), ⟨⟨rfl, rfl, rfl, rfl, rfl, rfl, rfl, rfl, rfl, rfl, trivial⟩, rfl⟩, ⟨by show j ≤ m + 1; omega, hUl, by show qs.length + 1 = m - j; omega, hWu6.fm hF7 (fun e => d1 e.symm), hW7, ⟨Z4, hW6.fm hF7 n2q, by rw [hZl2]; exact hzl⟩, hRv6.fm hF7 d2, hFF6.trans hF7 (fun _ _ h => .inl h), hval6, hrem6⟩, by show j < j + 1; omega⟩

end Go.Vc
end
