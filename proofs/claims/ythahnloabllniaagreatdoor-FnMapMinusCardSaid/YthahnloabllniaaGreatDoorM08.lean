/- divLarge: the plain laws. -/
import Derived.Test.YthahnloabllniaaGreatDoorM07
section
set_option linter.unusedSimpArgs false
set_option linter.unusedVariables false
set_option maxRecDepth 8000
namespace Go.Vc
open Go.Proofs

theorem scale_lt {l : List Nat} {k : Nat} (hl : l.length = k + 1) (hw : WF l) (ht : dg l k ≠ 0) : nv l * 2 ^ lz (dg l k) < BW ^ (k + 1) := by
  have hk := nv_take_succ (l := l) (i := k) (by omega)
  rw [List.take_of_length_le (by omega)] at hk
  have h1 := nv_lt (hw.take k)
  rw [List.length_take, Nat.min_eq_left (by omega)] at h1
  obtain ⟨_, h2⟩ := lz_mul ht (hw.dg k)
  have h64 := lz_lt ht
  generalize dg l k = t at *
  generalize lz t = s at *
  have e : BW = 2 ^ (64 - s) * 2 ^ s := by rw [BW_two, ← Nat.pow_add]; congr 1; omega
  have h3 : t < 2 ^ (64 - s) := by
    rw [e] at h2; exact Nat.lt_of_mul_lt_mul_right h2
  have h4 : (t + 1) * 2 ^ s ≤ BW := by rw [e]; exact Nat.mul_le_mul_right _ h3
  have h5 : nv l * 2 ^ s < BW ^ k * (t + 1) * 2 ^ s := by
    refine Nat.mul_lt_mul_of_pos_right ?_ (Nat.pow_pos (by omega))
    rw [Nat.mul_add, Nat.mul_one]; omega
  rw [Nat.mul_assoc] at h5
  have h6 := Nat.mul_le_mul_left (BW ^ k) h4
  rw [Nat.pow_succ]
  exact Nat.lt_of_lt_of_le h5 h6

theorem scale_ge {l : List Nat} {k : Nat} (hl : l.length = k + 1) (hw : WF l) (ht : dg l k ≠ 0) : BW ^ k * (BW / 2) ≤ nv l * 2 ^ lz (dg l k) := by
  have hk := nv_take_succ (l := l) (i := k) (by omega)
  rw [List.take_of_length_le (by omega)] at hk
  obtain ⟨h2, _⟩ := lz_mul ht (hw.dg k)
  rw [hk, Nat.add_mul, Nat.mul_assoc]
  exact Nat.le_trans (Nat.mul_le_mul_left _ h2) (Nat.le_add_left _ _)

/-- The top of what has been scaled. -/
theorem scale_top {l vs : List Nat} {k : Nat} (hl : l.length = k + 1) (hw : WF l) (ht : dg l k ≠ 0) (hv : vs.length = k + 1) (wv : WF vs) (e : nv vs = nv l * 2 ^ lz (dg l k)) : BW / 2 ≤ dg vs k := by
  have h := scale_ge hl hw ht
  rw [← e] at h
  have hk := nv_take_succ (l := vs) (i := k) (by omega)
  rw [List.take_of_length_le (by omega)] at hk
  have h1 := nv_lt (wv.take k)
  rw [List.length_take, Nat.min_eq_left (by omega)] at h1
  rcases Nat.lt_or_ge (dg vs k) (BW / 2) with h2 | h2
  · have h3 : BW ^ k * (dg vs k + 1) ≤ BW ^ k * (BW / 2) := Nat.mul_le_mul_left _ h2
    rw [Nat.mul_add, Nat.mul_one] at h3
    omega
  · exact h2

/-- The highest words of the scaled dividend. -/
theorem scale_h0 {lu lv us : List Nat} {k m s : Nat} (hl : lv.length = k + 1) (ht : dg lv k ≠ 0) (wu : WF lu) (hm : lu.length = m + k) (hul : us.length = lu.length + 1) (e : nv us = nv lu * 2 ^ s) : nv (us.drop m) < nv lv * 2 ^ s := by
  have h1 := nv_lt wu
  rw [hm, Nat.pow_add] at h1
  have h2 := nv_split us m
  rw [Nat.min_eq_left (by omega)] at h2
  have hk := nv_take_succ (l := lv) (i := k) (by omega)
  rw [List.take_of_length_le (by omega)] at hk
  have h3 : BW ^ k ≤ nv lv := by
    have : BW ^ k * 1 ≤ BW ^ k * dg lv k := Nat.mul_le_mul_left _ (Nat.pos_of_ne_zero ht)
    omega
  have h4 : BW ^ m * nv (us.drop m) < BW ^ m * (BW ^ k * 2 ^ s) := by
    have : nv lu * 2 ^ s < BW ^ m * BW ^ k * 2 ^ s := Nat.mul_lt_mul_of_pos_right h1 (Nat.pow_pos (by omega))
    rw [Nat.mul_assoc] at this
    omega
  exact Nat.lt_of_lt_of_le (Nat.lt_of_mul_lt_mul_left h4) (Nat.mul_le_mul_right _ h3)

theorem scale_undo {u v q r K : Nat} (hK : 0 < K) (e : u * K = r + v * K * q) (hr : r < v * K) : q = u / v ∧ r = u % v * K ∧ r / K = u % v := by
  have hv : 0 < v * K := by omega
  have h1 : (u * K) / (v * K) = q := by
    rw [e, Nat.add_mul_div_left _ _ hv, Nat.div_eq_of_lt hr, Nat.zero_add]
  have h2 : (u * K) % (v * K) = r := by
    rw [e, Nat.add_mul_mod_self_left, Nat.mod_eq_of_lt hr]
  rw [Nat.mul_div_mul_right _ _ hK] at h1
  rw [Nat.mul_mod_mul_right] at h2
  refine ⟨h1.symm, h2.symm, ?_⟩
  rw [← h2, Nat.mul_div_cancel _ hK]

theorem Gl.fmT {S : Nat → Prop} {w w' : World} (h : Gl w) (f : Fm S w w') (hs : ∀ b, b < w.heap.size → S b → ∃ cs T, Cl w b cs T ∧ T ≠ 3) : Gl w' := by
  have go : ∀ {g : Nat} {cs : List Value}, Cl w g cs 3 → Cl w' g cs 3 := fun {g cs} hc => by
    refine f.obj hc (fun hS => ?_)
    obtain ⟨cs2, T, h2, h3⟩ := hs g (lt_of_obj hc) hS
    exact hc.ne_T h2 (fun e => h3 e.symm) rfl
  exact ⟨go h.k, go h.s, go h.q, go h.r⟩

/-- The stack, where its words have been written over. -/
theorem St.turn2 {S : Nat → Prop} {w u : World} {bs : Nat} {st : Option Sk} (h : St w bs st) (f : Fm S w u) (h1 : ¬ S bs) (h2 : ∀ s, st = some s → ¬ S s.bi)
    (h3 : ∀ b, wbOf st = some b → ∀ Z, Wd w b Z → ∃ Z', Wd u b Z' ∧ Z'.length = Z.length) : ∃ st2, St u bs st2 ∧ lenOf st2 = lenOf st ∧ (∀ k, inSt bs st2 k ↔ inSt bs st k) ∧ wbOf st2 = wbOf st ∧ (st2 = none ↔ st = none) := by
  cases st with
  | none => exact ⟨none, f.obj h h1, rfl, fun k => Iff.rfl, rfl, Iff.rfl⟩
  | some s =>
    obtain ⟨bi, wb, len, Z⟩ := s
    obtain ⟨hc, v, hcv, hs, h4⟩ := h
    cases wb with
    | none => exact ⟨some ⟨bi, none, len, Z⟩, ⟨f.obj hc h1, v, f.obj hcv (h2 _ rfl), hs, h4⟩, rfl, fun k => Iff.rfl, rfl, Iff.rfl⟩
    | some b =>
      obtain ⟨rfl, hw, hl, hb⟩ := hs
      obtain ⟨Z', hw', hl'⟩ := h3 b rfl Z hw
      dsimp only at hl hb hcv h4
      have hbi := h2 _ rfl
      dsimp only at hbi
      have hS : Sl u (.slice (some ⟨b, 0, none⟩) len Z.length) (some b) len Z' := ⟨by rw [hl'], hw', by omega, by omega⟩
      refine ⟨some ⟨bi, some b, len, Z'⟩, ⟨f.obj hc h1, _, f.obj hcv hbi, hS, h4⟩, rfl, ?_, rfl, by simp⟩
      intro k
      simp only [inSt, Option.some.injEq, exists_eq_left']

/-- One of the stack's rooms written over. -/
theorem St.over {S : Nat → Prop} {w u : World} {bs : Nat} {st : Option Sk} (h : St w bs st) (f : Fm S w u) {b2 : Nat} {Z Z' : List Nat} (hZ : Wd w b2 Z) (hZ' : Wd u b2 Z') (hl : Z'.length = Z.length)
    (hS : ∀ b, S b → b = b2 ∨ ¬ inSt bs st b) : ∃ st2, St u bs st2 ∧ lenOf st2 = lenOf st ∧ (∀ k, inSt bs st2 k ↔ inSt bs st k) ∧ wbOf st2 = wbOf st ∧ (st2 = none ↔ st = none) := by
  refine h.turn2 f (fun e => ?_) (fun s es e => ?_) (fun b hb Z3 h3 => ?_)
  · rcases hS _ e with h1 | h1
    · subst h1
      cases st with
      | none => exact hZ.cl.ne_T h (by decide) rfl
      | some s => exact hZ.cl.ne_T h.1 (by decide) rfl
    · exact h1 (.inl rfl)
  · subst es
    rcases hS _ e with h1 | h1
    · exact hZ.ne_stI h.2 h1.symm
    · exact h1 (.inr ⟨s, rfl, .inl rfl⟩)
  · rcases Classical.em (b = b2) with e | e
    · subst e
      exact ⟨Z', hZ', by rw [hl, hZ.uniq h3]⟩
    · refine ⟨Z3, h3.fm f (fun h4 => ?_), rfl⟩
      rcases hS _ h4 with h1 | h1
      · exact e h1
      · cases st with
        | none => cases hb
        | some s => exact h1 (.inr ⟨s, rfl, .inr hb⟩)

theorem inSt_cl {w : World} {bs : Nat} {st : Option Sk} (h : St w bs st) {b : Nat} (hb : inSt bs st b) : ∃ cs T, Cl w b cs T ∧ T ≠ 3 := by
  cases st with
  | none =>
    rcases hb with rfl | ⟨s, e, _⟩
    · exact ⟨_, _, h, by decide⟩
    · cases e
  | some s =>
    rcases hb with rfl | ⟨s2, e, hb⟩
    · exact ⟨_, _, h.1, by decide⟩
    · cases e
      obtain ⟨v, hc, hs, _⟩ := h.2
      rcases hb with rfl | hb
      · exact ⟨_, _, hc, by decide⟩
      · rw [hb] at hs
        exact ⟨_, _, hs.2.1.cl, by decide⟩

end Go.Vc
end

section
/- divLarge: the walk. -/
set_option linter.unusedSimpArgs false
set_option linter.unusedVariables false
set_option maxRecDepth 8000
set_option maxHeartbeats 4000000
namespace Go.Vc
open Go.Proofs

theorem divLarge_c {w : World} {bs : Nat} {st : Option Sk} (hst : St w bs st) (hsl : lenOf st ≤ 3800) (hg : Gl w) {z z2 xu xv : Value} {d d2 du dv : Option Nat} {l1 l2 lu lv : List Nat} (hz : Own w z d l1) (hz2 : Own w z2 d2 l2)
    (hu : Own w xu du lu) (hv : Own w xv dv lv) {k : Nat} (hn : lv.length = k + 2) (hk : k ≤ 37) (hln : lv.length ≤ lu.length) (hlu : lu.length ≤ 400) (htop : dg lv (k + 1) ≠ 0)
    (a1 : ∀ b, d = some b → d2 ≠ some b ∧ du ≠ some b ∧ dv ≠ some b) (a2 : ∀ b, d2 = some b → dv ≠ some b) (s1 : ∀ b, inSt bs st b → d ≠ some b ∧ d2 ≠ some b ∧ du ≠ some b ∧ dv ≠ some b) :
    CallX P 115 #[z, .pointer (some ⟨bs, 0, none⟩), z2, xu, xv] w fun v w' =>
      ∃ vq vr dq dr lq lr st', v = .tuple #[vq, vr] ∧ Own w' vq dq lq ∧ Nrm lq ∧ nv lq = nv lu / nv lv ∧ Own w' vr dr lr ∧ Nrm lr ∧ nv lr = nv lu % nv lv ∧ Nd w w' d dq ∧ Nd w w' d2 dr ∧ (∀ b, dq = some b → dr ≠ some b) ∧
        St w' bs st' ∧ (st' = none ∨ lenOf st' = lenOf st) ∧ Fm (fun b => d = some b ∨ d2 = some b ∨ inSt bs st b) w w' ∧ (∀ b, inSt bs st' b → (inSt bs st b ∨ w.heap.size ≤ b) ∧ dq ≠ some b ∧ dr ≠ some b) := by
  obtain ⟨xb, xc, rfl, rfl, rx, hxc, hxc2⟩ := hu.rd (by intro e; rw [e] at hln; simp at hln; rw [hln] at hn; simp at hn)
  obtain ⟨yb, yc, rfl, rfl, ry, hyc, hyc2⟩ := hv.rd (by intro e; rw [e] at hn; simp at hn)
  refine calls_vcd mo fn_115 rfl ok_115 (Nat.le_of_ble_eq_true rfl) nm_115 ?_
  refine ⟨_, _, ln se_54 _ _ _ _ _ _, ?_⟩
  refine ⟨_, _, ln se_54 _ _ _ _ _ _, ?_⟩
  refine ⟨_, nSub lu.length lv.length (by omega) (by omega), ?_⟩
  generalize hm : lu.length - lv.length = m
  refine (save_c hst).mono ?_
  rintro v w' ⟨rfl, rfl⟩
  refine ⟨_, nSub lv.length 1 (by omega) (by omega), ?_⟩
  refine rnA (ia se_54 _ (by omega)) ?_
  refine rnC na_101 (ry.cell (by omega)) ?_
  rw [show lv.length - 1 = k + 1 by omega]
  refine (nlz_c _ (hv.wf.dg _) w).mono ?_
  rintro v w0 ⟨rfl, rfl⟩
  have hs64 := lz_lt htop
  have hT0 := scale_lt (k := k + 1) hn hv.wf htop
  have hT1 : ∀ vs, vs.length = k + 1 + 1 → WF vs → nv vs = nv lv * 2 ^ lz (dg lv (k + 1)) → BW / 2 ≤ dg vs (k + 1) := fun vs a b c => scale_top (k := k + 1) hn hv.wf htop a b c
  generalize lz (dg lv (k + 1)) = s at *
  refine (nat_c hst (n := lv.length) (by omega) (by omega) (by omega)).mono ?_
  rintro v w1 ⟨st1, b2, o2, c2, Z2, hst1, hlen1, hlen2, hnone, hin, hT⟩
  have hvv := hT.v
  subst hvv
  have hTc := hT.c
  have hTz := hT.hz
  refine ⟨_, _, ln se_54 _ _ _ _ _ _, ?_⟩
  refine ⟨_, nAdd lu.length 1 (by omega), ?_⟩
  have nS : ∀ b, inSt bs st b → b ≠ xb ∧ b ≠ yb := fun b h => ⟨fun e => (s1 b h).2.2.1 (by rw [e]), fun e => (s1 b h).2.2.2 (by rw [e])⟩
  have hz2' : Own w1 z2 d2 l2 := hz2.fm hT.fm (fun b e h => (s1 b h).2.1 e)
  have hz' : Own w1 z d l1 := hz.fm hT.fm (fun b e h => (s1 b h).1 e)
  have rx1 : Rd w1 xb 0 lu := rx.fm hT.fm (fun h => (nS _ h).1 rfl)
  have ry1 : Rd w1 yb 0 lv := ry.fm hT.fm (fun h => (nS _ h).2 rfl)
  refine (make_c hz2' (n := lu.length + 1) (by omega) (by omega)).mono ?_
  rintro v w2 ⟨bu, full, hM⟩
  have hv2 := hM.v
  subst hv2
  have hfn := hM.nl
  have hfc := hM.c
  have hz3 : Own w2 z d l1 := hz'.fm hM.fm (fun _ _ h => h)
  have rx2 : Rd w2 xb 0 lu := rx1.fm0 hM.fm
  have ry2 : Rd w2 yb 0 lv := ry1.fm0 hM.fm
  have hZ2 : Wd w2 b2 Z2 := hT.wd.fm hM.fm (fun h => h)
  have b2lt : w.heap.size ≤ b2 ∨ inSt bs st b2 := by
    rcases hT.nd with ⟨h6, _⟩ | h6
    · cases st with
      | none => cases h6
      | some s => exact .inr (.inr ⟨s, rfl, .inr h6⟩)
    · exact .inl h6
  have hb2lt1 : b2 < w1.heap.size := hT.wd.lt
  have hsz1 := hT.fm.size
  have nbu2 : b2 ≠ bu := fun e => by
    subst e
    rcases hM.nd with h | h
    · rcases b2lt with h2 | h2
      · have := hz2.fm (Fm.refl (fun _ => False) w) (fun _ _ h => h)
        subst h
        obtain ⟨fl, _, hw, _⟩ := hz2
        have := hw.lt; omega
      · exact (s1 _ h2).2.1 h
    · omega
  have nby2 : b2 ≠ yb := fun e => by
    subst e
    rcases b2lt with h2 | h2
    · have := ry.lt; omega
    · exact (s1 _ h2).2.2.2 rfl
  have nbuy : bu ≠ yb := fun e => by
    subst e
    rcases hM.nd with h | h
    · exact a2 _ h rfl
    · have := ry1.lt; omega
  (repeat refine vcl_v _ rfl rfl ?_); (refine vcl_end ?_)
  refine vcut (by repeat (first | exact moE _ _ _ | exact moEd _ _ _ | apply moB | apply moL | apply moV)) (List Nat × List Nat) (fun _ => ⟨[(0, z), (1, .pointer (some ⟨bs, 0, none⟩)), (2, .slice (some ⟨bu, 0, none⟩) (lu.length + 1) full.length), (12, .int .i64 (lv.length : Int)), (13, .int .i64 (m : Int)), (14, vw s), (15, .slice (some ⟨b2, o2, none⟩) lv.length c2)], dRest bs (lenOf st)⟩)
    (fun p u => p.1.length = lv.length ∧ p.2.length = lu.length + 1 ∧ Wd u b2 (splice Z2 o2 p.1) ∧ Wd u bu (splice full 0 p.2) ∧ nv p.1 = nv lv * 2 ^ s ∧ nv p.2 = nv lu * 2 ^ s ∧ Fm (fun b => b = b2 ∨ b = bu) w2 u) ?_ ?_
  · have nbx2 : b2 ≠ xb := fun e => by
      subst e
      rcases b2lt with h2 | h2
      · have := rx.lt; omega
      · exact (s1 _ h2).2.2.1 rfl
    rcases Nat.eq_zero_or_pos s with hs0 | hsp
    · subst hs0
      refine ⟨_, bEq rfl, ?_⟩
      refine ⟨fun _ => ?_, fun hc => (by cases hc)⟩
      obtain ⟨w3, e3, hW3, hF3, hs3⟩ := cpy se_54 (oz := o2) (dn := lv.length) (sn := lv.length) (dc := c2) (sc := yc) hZ2 ry2 (by omega) (by omega) _ _ _
      refine ⟨_, w3, e3, ?_⟩
      refine ⟨_, _, ln se_54 _ _ _ _ _ _, ?_⟩
      refine rnA (slHi se_54 _ (by omega)) ?_
      obtain ⟨w4, e4, hW4, hF4, hs4⟩ := cpy se_54 (oz := 0) (dn := lu.length) (sn := lu.length) (dc := full.length) (sc := xc) (hM.wd.fm hF3 (fun e => nbu2 e.symm)) (rx2.fm hF3 (fun e => nbx2 e.symm)) (by omega) (by omega) _ _ _
      refine ⟨_, w4, e4, ?_⟩
      refine ⟨_, _, ln se_54 _ _ _ _ _ _, ?_⟩
      refine rnA (ia se_54 _ (by omega)) ?_
      obtain ⟨w5, e5, hW5, hF5, hs5⟩ := hW4.st (i := 0 + lu.length) (by rw [splice_len (by omega)]; omega) BW_pos
      refine ⟨w5, e5, ?_⟩
      rw [splice_snoc (by omega)] at hW5
      refine ⟨(lv, lu ++ [0]), ⟨⟨rfl, rfl, rfl, rfl, rfl, rfl, rfl, trivial⟩, rfl⟩, rfl, by simp, (hW3.fm hF4 nbu2).fm hF5 nbu2, hW5, ?_, ?_, ?_⟩
      · rw [Nat.pow_zero, Nat.mul_one]
      · show nv (lu ++ [0]) = _
        rw [nv_append, Nat.pow_zero, Nat.mul_one]; simp only [nv, Nat.mul_zero, Nat.add_zero]
      · exact ((hF3.mono (fun _ _ h => .inl h)).trans hF4 (fun _ _ h => .inr h)).trans hF5 (fun _ _ h => .inr h)
    · refine ⟨_, bEqF (by omega), ?_⟩
      refine ⟨fun hc => (by cases hc), fun _ => ?_⟩
      refine (lshVU_c (cz := c2) (cx := yc) hZ2 ry2 hs64 (by omega) (by omega) (fun e => absurd e.symm nby2) (by omega)).mono ?_
      rintro v w3 ⟨z3, c3, rfl, hc3, hz3l, hW3, hv3, hF3, hs3⟩
      refine ⟨_, _, ln se_54 _ _ _ _ _ _, ?_⟩
      refine ⟨_, _, ln se_54 _ _ _ _ _ _, ?_⟩
      refine rnA (slHi se_54 _ (by omega)) ?_
      refine (lshVU_c (cz := full.length) (cx := xc) (hM.wd.fm hF3 (fun e => nbu2 e.symm)) (rx2.fm hF3 (fun e => nbx2 e.symm)) hs64 (by omega) (oz := 0) (by omega) (fun _ => .inl (Nat.le_refl _)) (by omega)).mono ?_
      rintro v w4 ⟨z4, c4, rfl, hc4, hz4l, hW4, hv4, hF4, hs4⟩
      refine rnA (ia se_54 _ (by omega)) ?_
      have hc4B : c4 < BW := Nat.lt_of_lt_of_le hc4 (by rw [BW_two]; exact Nat.pow_le_pow_right (by omega) (by omega))
      obtain ⟨w5, e5, hW5, hF5, hs5⟩ := hW4.st (i := 0 + lu.length) (by rw [splice_len (by omega)]; omega) hc4B
      refine ⟨w5, e5, ?_⟩
      rw [← hz4l, splice_snoc (by omega)] at hW5
      have hc30 : c3 = 0 := by
        rcases Nat.eq_zero_or_pos c3 with e | e
        · exact e
        · exfalso
          have : BW ^ lv.length * 1 ≤ BW ^ lv.length * c3 := Nat.mul_le_mul_left _ e
          rw [hn] at this hv3
          rw [show k + 2 = k + 1 + 1 from rfl] at this hv3
          generalize BW ^ (k + 1 + 1) = N at *
          generalize nv lv * 2 ^ s = X at *
          omega
      rw [hc30, Nat.mul_zero, Nat.add_zero] at hv3
      refine ⟨(z3, z4 ++ [c4]), ⟨⟨rfl, rfl, rfl, rfl, rfl, rfl, rfl, trivial⟩, rfl⟩, hz3l, by simp [hz4l], (hW3.fm hF4 nbu2).fm hF5 nbu2, hW5, hv3, ?_, ?_⟩
      · show nv (z4 ++ [c4]) = _
        rw [nv_append, hz4l]; simp only [nv, Nat.mul_zero, Nat.add_zero]; exact hv4
      · exact ((hF3.mono (fun _ _ h => .inl h)).trans hF4 (fun _ _ h => .inr h)).trans hF5 (fun _ _ h => .inr h)
  rintro ⟨vs, us⟩ u ⟨hvl, hul, hWv, hWu, hvv, huv, hF⟩
  dsimp only at hvl hul hWv hWu hvv huv
  have hsz2 := hM.fm.size
  have nd1 : ∀ b, d = some b → b ≠ b2 ∧ b ≠ bu := fun b e => by
    have hb : b < w.heap.size := by
      subst e
      obtain ⟨fl, _, hw, _⟩ := hz
      exact hw.lt
    constructor
    · rintro rfl
      rcases b2lt with h | h
      · omega
      · exact (s1 _ h).1 e
    · rintro rfl
      rcases hM.nd with h | h
      · exact (a1 _ e).1 h
      · omega
  have hz5 : Own u z d l1 := hz3.fm hF (fun b e h => by
    rcases h with h | h
    · exact (nd1 b e).1 h
    · exact (nd1 b e).2 h)
  have hlW : (splice full 0 us).length = full.length := splice_len (by omega)
  have htake : (splice full 0 us).take (lu.length + 1) = us := by
    have := splice_mid (Z := full) (o := 0) (l := us) (by omega)
    rwa [List.drop_zero, hul] at this
  have hou : Own u (.slice (some ⟨bu, 0, none⟩) (lu.length + 1) full.length) (some bu) us := by
    have := Own.mk' hWu (n := lu.length + 1) (by rw [hlW]; omega) (by rw [hlW]; exact hfc)
    rwa [hlW, htake] at this
  refine (alias_c hz5 hou).mono ?_
  rintro v w4 ⟨rfl, t, rfl, ht1, ht2⟩
  cases t with
  | true => exact absurd rfl (nd1 bu (ht1 rfl)).2
  | false =>
  refine ⟨fun hc => (by cases hc), fun _ => ?_⟩
  refine ⟨_, nAdd m 1 (by omega), ?_⟩
  refine (make_c hz5.drew (n := m + 1) (by omega) (by omega)).mono ?_
  rintro v w5 ⟨bq, fq, hMq⟩
  have hvq := hMq.v
  subst hvq
  have hqn := hMq.nl
  have hqc := hMq.c
  have hFq : Fm (fun _ => False) u w5 := hMq.fm.drew'
  have hszu := hF.size
  have hbulu := hWu.lt
  have hWu5 : Wd w5 bu (splice full 0 us) := hWu.fm hFq (fun h => h)
  have hWv5 : Wd w5 b2 (splice Z2 o2 vs) := hWv.fm hFq (fun h => h)
  have hRv5 : Rd w5 b2 o2 vs := rd_spliced hWv5 (by omega)
  have hbq : ∀ b, b < w5.heap.size → (bq = b → d = some b ∨ u.heap.size ≤ b) := fun b _ e => by
    subst e
    rcases hMq.nd with h | h
    · exact .inl h
    · exact .inr h
  have nqu : bq ≠ bu := fun e => by
    subst e
    rcases hMq.nd with h | h
    · exact (nd1 _ h).2 rfl
    · have : u.heap.size ≤ bq := h
      omega
  have nq2 : bq ≠ b2 := fun e => by
    subst e
    rcases hMq.nd with h | h
    · exact (nd1 _ h).1 rfl
    · have : u.heap.size ≤ bq := h
      have := hWv.lt
      omega
  -- the stack's blocks
  have hlt1 : ∀ b, inSt bs st1 b → b < w1.heap.size := fun b h => by
    obtain ⟨cs, T, hc, _⟩ := inSt_cl hst1 h
    exact lt_of_obj hc
  have nqS : ¬ inSt bs st1 bq := fun e => by
    have hl := hlt1 _ e
    rcases hMq.nd with h | h
    · rcases hin _ e with h2 | h2
      · exact (s1 _ h2).1 h
      · have : bq < w.heap.size := by
          subst h
          obtain ⟨fl, _, hw, _⟩ := hz
          exact hw.lt
        omega
    · have : u.heap.size ≤ bq := h
      omega
  have nuS : ¬ inSt bs st1 bu := fun e => by
    have hl := hlt1 _ e
    rcases hM.nd with h | h
    · rcases hin _ e with h2 | h2
      · exact (s1 _ h2).2.1 h
      · have : bu < w.heap.size := by
          subst h
          obtain ⟨fl, _, hw, _⟩ := hz2
          exact hw.lt
        omega
    · omega
  have hst2 : St w2 bs st1 := hst1.fm hM.fm (fun _ _ h => h)
  obtain ⟨st3, hst3, hl3, hi3, hw3, hn3⟩ := hst2.over hF hZ2 hWv (splice_len (by omega)) (fun b h => by
    rcases h with h | h
    · exact .inl h
    · exact .inr (fun h2 => nuS (by rw [← h]; exact h2)))
  have hst5 : St w5 bs st3 := hst3.fm hFq (fun _ _ h => h)
  have hg2 : Gl w2 := (hg.fmT hT.fm (fun b _ h => inSt_cl hst h)).fm0 hM.fm
  have hg5 : Gl w5 := (hg2.fm hF (fun b _ h => by
    rcases h with h | h
    · rw [h]; exact ⟨_, hZ2⟩
    · rw [h]; exact ⟨_, hM.wd⟩)).fm0 hFq
  refine rnL na_3 hg5.r rfl ?_
  refine ⟨_, bLt (by omega), ?_⟩
  refine ⟨fun _ => ?_, fun hc => (by cases hc)⟩
  have hm2 : us.length = (m + 1) + (k + 2) := by omega
  have cb := divBasic_c (cq := fq.length) (cu := full.length) (cv := c2) hst5 (by omega) hMq.wd hWu5 hRv5 (k := k) (m := m + 1) (by omega) hm2 (by omega) hqn (by omega) (by omega) (by omega) (by omega) (hT1 vs (by omega) hRv5.wf hvv)
    (by rw [hvv]; exact scale_h0 (k := k + 1) (m := m + 1) hn htop rx.wf (by omega) hul huv) nqu (fun e => nq2 e.symm) nbu2 (fun h => nqS ((hi3 _).1 h)) (fun h => nuS ((hi3 _).1 h)) (fun e => by rw [hvl, hl3]; exact hT.up (by rw [← hw3]; exact e))
  rw [hul, hvl] at cb
  refine cb.mono ?_
  rintro v w6 ⟨qs, us', st6, hql, hul', hWq6, hWu6, hval, hlt, hst6, hl6, hF6, hin6⟩
  rw [huv, hvv] at hval
  rw [hvv] at hlt
  obtain ⟨hq1, hr1, hr2⟩ := scale_undo (Nat.pow_pos (by omega)) hval hlt
  have hRq := rd_spliced hWq6 (by omega)
  have cn := norm_c (Sv.of_rd hRq) (c := fq.length) (by omega) (by omega)
  rw [hql] at cn
  refine cn.mono ?_
  rintro v w7 ⟨rfl, mq, rfl, hNq⟩
  (repeat refine vcl_v _ rfl rfl ?_); (refine vcl_end ?_)
  refine vcut (by repeat (first | exact moE _ _ _ | exact moEd _ _ _ | apply moB | apply moL | apply moV)) (List Nat) (fun _ => ⟨[(2, .slice (some ⟨bu, 0, none⟩) (lu.length + 1) full.length), (10, .slice (some ⟨bq, 0, none⟩) mq fq.length)], dRest bs (lenOf st)⟩)
    (fun ur u7 => ur.length = lu.length + 1 ∧ Wd u7 bu (splice full 0 ur) ∧ nv ur = nv lu % nv lv ∧ Fm (· = bu) w6 u7) ?_ ?_
  · rcases Nat.eq_zero_or_pos s with hs0 | hsp
    · refine ⟨_, bNeF (by omega), ?_⟩
      refine ⟨fun hc => (by cases hc), fun _ => ?_⟩
      refine ⟨us', ⟨⟨rfl, rfl, trivial⟩, rfl⟩, by omega, hWu6, ?_, Fm.refl _ _⟩
      rw [hs0, Nat.pow_zero, Nat.mul_one] at hr1
      exact hr1
    · refine ⟨_, bNe (by omega), ?_⟩
      refine ⟨fun _ => ?_, fun hc => (by cases hc)⟩
      have hRu7 := rd_spliced (o := 0) hWu6 (by omega)
      have cr := rshVU_c (cz := full.length) (cx := full.length) hWu6 hRu7 hs64 (by omega) (by rw [splice_len (by omega)]; omega) (fun _ => .inl (Nat.le_refl _)) (by omega)
      rw [show us'.length = lu.length + 1 by omega] at cr
      refine cr.mono ?_
      rintro v w8 ⟨z8, c8, rfl, hz8, hW8, hv8, hF8, hs8⟩
      rw [splice_twice (by omega) (by omega)] at hW8
      exact ⟨z8, ⟨⟨rfl, rfl, trivial⟩, rfl⟩, hz8, hW8, by rw [hv8]; exact hr2, hF8⟩
  rintro ur u7 ⟨hurl, hWu7, hurv, hF7⟩
  have hRu7 := rd_spliced (o := 0) hWu7 (by omega)
  have cn2 := norm_c (Sv.of_rd hRu7) (c := full.length) (by omega) (by omega)
  rw [hurl] at cn2
  refine cn2.mono ?_
  rintro v w8 ⟨rfl, mr, rfl, hNr⟩
  have hlm := hNr.le
  have hlq := hNq.le
  rw [hurl] at hlm
  rw [hql] at hlq
  have nuS6 : ¬ inSt bs st6 bu := fun e => (hin6 _ e).elim (fun h => nuS ((hi3 _).1 h)) (fun h => by have := hWu5.lt; omega)
  have nqS6 : ¬ inSt bs st6 bq := fun e => (hin6 _ e).elim (fun h => nqS ((hi3 _).1 h)) (fun h => by have := hMq.lt; omega)
  have hst7 : St u7 bs st6 := hst6.fm hF7 (fun b h e => nuS6 (by rw [← e]; exact h))
  refine dfr_rest ?_
  refine (restore_d hst7 (k := lenOf st) (by rw [hl3] at hl6; exact hl6.imp id (fun h => by omega))).mono ?_
  rintro w9 ⟨hst9, hF9⟩
  have hWq9 : Wd w9 bq (splice fq 0 qs) := (hWq6.fm hF7 nqu).fm hF9 nqS6
  have hWu9 : Wd w9 bu (splice full 0 ur) := hWu7.fm hF9 nuS6
  have hlfq : (splice fq 0 qs).length = fq.length := splice_len (by omega)
  have hlfu : (splice full 0 ur).length = full.length := splice_len (by omega)
  have oq : Own w9 (.slice (some ⟨bq, 0, none⟩) mq fq.length) (some bq) ((splice fq 0 qs).take mq) := by
    have := Own.mk' hWq9 (n := mq) (by rw [hlfq]; omega) (by rw [hlfq]; exact ⟨hqc.1, by omega⟩)
    rwa [hlfq] at this
  have ou : Own w9 (.slice (some ⟨bu, 0, none⟩) mr full.length) (some bu) ((splice full 0 ur).take mr) := by
    have := Own.mk' hWu9 (n := mr) (by rw [hlfu]; omega) (by rw [hlfu]; exact ⟨hfc.1, by omega⟩)
    rwa [hlfu] at this
  have eq : (splice fq 0 qs).take mq = qs.take mq := by
    have := splice_mid (Z := fq) (o := 0) (l := qs) (by omega)
    rw [List.drop_zero] at this
    have e2 : ((splice fq 0 qs).take qs.length).take mq = (splice fq 0 qs).take mq := by rw [List.take_take, Nat.min_eq_left (by omega)]
    rw [this] at e2; exact e2.symm
  have eu : (splice full 0 ur).take mr = ur.take mr := by
    have := splice_mid (Z := full) (o := 0) (l := ur) (by omega)
    rw [List.drop_zero] at this
    have e2 : ((splice full 0 ur).take ur.length).take mr = (splice full 0 ur).take mr := by rw [List.take_take, Nat.min_eq_left (by omega)]
    rw [this] at e2; exact e2.symm
  rw [eq] at oq
  rw [eu] at ou
  have hsz6 := hF6.size
  have hsz7 := hF7.size
  have hsz9 := hF9.size
  have hszq := hFq.size
  have hFa : Fm (fun b => d = some b ∨ d2 = some b ∨ inSt bs st b) w w2 := (hT.fm.mono (fun _ _ h => .inr (.inr h))).trans hM.fm (fun _ _ h => h.elim)
  have hbu' : ∀ b, b < w.heap.size → b = bu → d2 = some b := fun b h e => by
    subst e
    rcases hM.nd with h2 | h2
    · exact h2
    · omega
  have hbq' : ∀ b, b < w.heap.size → b = bq → d = some b := fun b h e => by
    subst e
    rcases hMq.nd with h2 | h2
    · exact h2
    · have : u.heap.size ≤ b := h2
      omega
  have hFb : Fm (fun b => d = some b ∨ d2 = some b ∨ inSt bs st b) w u := hFa.trans hF (fun b h e => by
    rcases e with e | e
    · rcases b2lt with h2 | h2
      · omega
      · exact .inr (.inr (by rw [e]; exact h2))
    · exact .inr (.inl (hbu' b h e)))
  have hS1 : ∀ b, b < w.heap.size → inSt bs st1 b → inSt bs st b := fun b h e => (hin b e).elim id (fun h2 => by omega)
  have hS6 : ∀ b, b < w.heap.size → inSt bs st6 b → inSt bs st b := fun b h e => (hin6 b e).elim (fun h2 => hS1 b h ((hi3 _).1 h2)) (fun h2 => by omega)
  have hFc : Fm (fun b => d = some b ∨ d2 = some b ∨ inSt bs st b) w w6 := (hFb.trans hFq (fun _ _ h => h.elim)).trans hF6 (fun b h e => by
    rcases e with e | e | e
    · exact .inl (hbq' b h e)
    · exact .inr (.inl (hbu' b h e))
    · exact .inr (.inr (hS1 b h ((hi3 _).1 e))))
  have hFd : Fm (fun b => d = some b ∨ d2 = some b ∨ inSt bs st b) w w9 := (hFc.trans hF7 (fun b h e => .inr (.inl (hbu' b h e)))).trans hF9 (fun b h e => .inr (.inr (hS6 b h e)))
  refine ⟨_, _, some bq, some bu, _, _, _, rfl, oq, hNq.nrm, by rw [hNq.nv, hq1], ou, hNr.nrm, by rw [hNr.nv, hurv], ?_, ?_, fun b e e2 => ?_, hst9, lenOf_atLen, hFd, fun b h => ?_⟩
  · rcases hMq.nd with h | h
    · exact .inr (.inl h.symm)
    · have : u.heap.size ≤ bq := h
      exact .inr (.inr ⟨bq, rfl, by omega, hWq9.lt⟩)
  · rcases hM.nd with h | h
    · exact .inr (.inl h.symm)
    · exact .inr (.inr ⟨bu, rfl, by omega, hWu9.lt⟩)
  · cases e; cases e2; exact nqu rfl
  · have h6 := inSt_atLen.1 h
    refine ⟨?_, fun e => ?_, fun e => ?_⟩
    · rcases hin6 b h6 with h2 | h2
      · exact (hin b ((hi3 _).1 h2)).imp id id
      · exact .inr (by omega)
    · cases e; exact nqS6 h6
    · cases e; exact nuS6 h6

end Go.Vc
end

section
/- nat.div. -/
set_option linter.unusedSimpArgs false
set_option linter.unusedVariables false
set_option maxRecDepth 8000
set_option maxHeartbeats 1000000
namespace Go.Vc
open Go.Proofs

theorem Own.blt {w : World} {v : Value} {b : Nat} {l : List Nat} (h : Own w v (some b) l) : b < w.heap.size := by
  obtain ⟨fl, _, hw, _⟩ := h; exact hw.lt

/-- What a division leaves. -/
structure DR (w w' : World) (d d2 : Option Nat) (vq vr : Value) (nq nr : Nat) : Prop where
  all : ∃ dq dr lq lr, Own w' vq dq lq ∧ Nrm lq ∧ nv lq = nq ∧ Own w' vr dr lr ∧ Nrm lr ∧ nv lr = nr ∧ Nd w w' d dq ∧ Nd w w' d2 dr ∧ (∀ b, dq = some b → dr ≠ some b)

theorem DR.of {w w1 w2 : World} {z z2 vq vr : Value} {d d2 : Option Nat} {l1 l2 : List Nat} {nq nr : Nat} (hz : Own w z d l1) (hz2 : Own w z2 d2 l2) (h1 : Res w w1 d vq nq) (h2 : Res w1 w2 d2 vr nr) (a : ∀ b, d = some b → d2 ≠ some b) :
    DR w w2 d d2 vq vr nq nr ∧ Fm (fun b => d = some b ∨ d2 = some b) w w2 := by
  obtain ⟨dq, lq, oq, nq, eq, ndq, fq⟩ := h1.all
  obtain ⟨dr, lr, or, nr, er, ndr, fr⟩ := h2.all
  have hs1 := fq.size
  have hs2 := fr.size
  have hne : ∀ b, dq = some b → d2 ≠ some b := fun b e e2 => by
    rcases ndq with h | h | ⟨b', h, h3, h4⟩
    · rw [h] at e; cases e
    · rw [h] at e; exact a b e e2
    · rw [h] at e; cases e
      subst e2
      have := hz2.blt; omega
  refine ⟨⟨dq, dr, lq, lr, oq.fm fr hne, nq, eq, or, nr, er, ?_, ?_, fun b e e2 => ?_⟩, (fq.mono (fun _ _ h => .inl h)).trans fr (fun _ _ h => .inr h)⟩
  · rcases ndq with h | h | ⟨b', h, h3, h4⟩
    · exact .inl h
    · exact .inr (.inl h)
    · exact .inr (.inr ⟨b', h, h3, by omega⟩)
  · rcases ndr with h | h | ⟨b', h, h3, h4⟩
    · exact .inl h
    · exact .inr (.inl h)
    · exact .inr (.inr ⟨b', h, by omega, h4⟩)
  · rcases ndr with h | h | ⟨b', h, h3, h4⟩
    · rw [h] at e2; cases e2
    · rw [h] at e2; exact hne b e e2
    · rw [h] at e2; cases e2
      subst e
      have := oq.blt; omega

theorem lt_of_cmp {a b : Nat} : cmpI a b < 0 ↔ a < b := by
  unfold cmpI
  split
  · simp [*]
  · split <;> simp [*] <;> omega

theorem bLtD {k : IntKind} {a b : Int} : binV .lss k k a b = some (.bool (decide (a < b))) := by simp [binV]

theorem one_word {l : List Nat} (h : l.length = 1) : nv l = dg l 0 := by
  match l, h with
  | [x], _ => simp [nv, dg]

/-- The deferred call of free. -/
theorem dfr_free {w : World} {bs : Nat} {nx : World → Prop} (h : CallD P 114 #[.pointer (some ⟨bs, 0, none⟩)] w nx) : dfr P [{ target := .fn (.func 114) #[], args := #[] ++ [Value.pointer (some ⟨bs, 0, none⟩)].toArray }] w nx :=
  ⟨_, #[.pointer (some ⟨bs, 0, none⟩)], rfl, by simp, by kernel_rfl, h⟩

theorem nv_pos {l : List Nat} (h : Nrm l) (h0 : l ≠ []) : 0 < nv l := by
  rcases Nat.eq_zero_or_pos (nv l) with e | e
  · exact absurd (h.zero e) h0
  · exact e

theorem div_n {w : World} (hg : Gl w) {z z2 xu xv : Value} {d d2 du dv : Option Nat} {l1 l2 lu lv : List Nat} (hz : Own w z d l1) (hz2 : Own w z2 d2 l2) (hu : Own w xu du lu) (hv : Own w xv dv lv) (nu : Nrm lu) (nv0 : Nrm lv) (hv0 : lv ≠ []) (hvl : lv.length ≤ 39) (hul : lu.length ≤ 400) (a1 : ∀ b, d = some b → d2 ≠ some b ∧ du ≠ some b ∧ dv ≠ some b) (a2 : ∀ b, d2 = some b → dv ≠ some b) :
    CallX P 97 #[z, .pointer none, z2, xu, xv] w fun v w' => ∃ vq vr, v = .tuple #[vq, vr] ∧ DR w w' d d2 vq vr (nv lu / nv lv) (nv lu % nv lv) ∧ Fm (fun b => d = some b ∨ d2 = some b) w w' := by
  obtain ⟨yb, yc, rfl, rfl, ry, hyc, hyc2⟩ := hv.rd hv0
  have hvp : 0 < lv.length := List.length_pos_iff.2 hv0
  obtain ⟨ax, cx, rfl, hxc, hxc2, hsx⟩ := hu.val
  refine calls_vcd mo fn_97 rfl ok_97 (Nat.le_of_ble_eq_true rfl) nm_97 ?_
  refine ⟨_, _, ln se_54 _ _ _ _ _ _, ?_⟩
  refine ⟨_, bEqF (by omega), ?_⟩
  refine ⟨fun hc => (by cases hc), fun _ => ?_⟩
  refine ⟨_, _, ln se_54 _ _ _ _ _ _, ?_⟩
  rcases Nat.lt_or_ge lv.length 2 with h1 | h1
  · have hl1 : lv.length = 1 := by omega
    refine ⟨_, bEq (by omega), ?_⟩
    refine ⟨fun _ => ?_, fun hc => (by cases hc)⟩
    refine rnA (ia (i := 0) se_54 _ (by omega)) ?_
    refine rnC na_101 (ry.cell (i := 0) (by omega)) ?_
    have hv1 := one_word hl1
    have hd0 : dg lv 0 ≠ 0 := by
      have := nv0.resolve_left hv0
      rwa [hl1] at this
    refine (divW_c hz hu nu hul hd0 (hv.wf.dg 0)).mono ?_
    rintro v w1 ⟨vq, rfl, hq⟩
    have hz2' : Own w1 z2 d2 l2 := by
      obtain ⟨_, _, _, _, _, _, fq⟩ := hq.all
      exact hz2.fm fq (fun b e e2 => (a1 b e2).1 e)
    refine (setWord_c hz2' (Nat.lt_trans (Nat.mod_lt _ (Nat.pos_of_ne_zero hd0)) (hv.wf.dg 0))).mono ?_
    rintro v w2 hr
    obtain ⟨hd, hF⟩ := DR.of hz hz2 hq hr (fun b e => (a1 b e).1)
    exact ⟨_, _, rfl, by rw [hv1]; exact hd, hF⟩
  refine ⟨_, bEqF (by omega), ?_⟩
  refine ⟨fun hc => (by cases hc), fun _ => ?_⟩
  refine (cmp_c hsx (Sv.of_rd ry) (.inr ⟨nu, nv0⟩) (by omega) (by omega)).mono ?_
  rintro v w0 ⟨⟨hF0, hs0⟩, rfl⟩
  refine ⟨_, bLtD, ?_⟩
  have hz0 : Own w0 z d l1 := hz.fm hF0 (fun _ _ h => h)
  have hz20 : Own w0 z2 d2 l2 := hz2.fm hF0 (fun _ _ h => h)
  have hu0 := hu.fm hF0 (fun _ _ h => h)
  have hv0' := hv.fm hF0 (fun _ _ h => h)
  have hF0' : ∀ {w' : World}, Fm (fun b => d = some b ∨ d2 = some b) w0 w' → Fm (fun b => d = some b ∨ d2 = some b) w w' := fun h => (hF0.mono (fun _ _ h => h.elim)).trans h (fun _ _ h => h)
  have hD0 : ∀ {w' : World} {vq vr : Value} {nq nr : Nat}, DR w0 w' d d2 vq vr nq nr → DR w w' d d2 vq vr nq nr := fun h => by
    obtain ⟨dq, dr, lq, lr, x1, x2, x3, x4, x5, x6, x7, x8, x9⟩ := h.all
    refine ⟨dq, dr, lq, lr, x1, x2, x3, x4, x5, x6, ?_, ?_, x9⟩
    · exact x7.imp id (fun h => h.imp id (fun ⟨b, y1, y2, y3⟩ => ⟨b, y1, by omega, y3⟩))
    · exact x8.imp id (fun h => h.imp id (fun ⟨b, y1, y2, y3⟩ => ⟨b, y1, by omega, y3⟩))
  refine ⟨fun hc => ?_, fun hc => ?_⟩
  · have hlt := lt_of_cmp.1 (of_decide_eq_true hc)
    obtain ⟨a, c, n, rfl, hr0⟩ := zero_res hz0
    refine rnA (slHi (hi := 0) se_54 _ (Nat.zero_le _)) ?_
    refine (set_c hz20 hu0 nu (by omega)).mono ?_
    rintro v w1 hr
    obtain ⟨hd, hF⟩ := DR.of hz0 hz20 hr0 hr (fun b e => (a1 b e).1)
    refine ⟨_, _, rfl, ?_, hF0' hF⟩
    rw [Nat.div_eq_of_lt hlt, Nat.mod_eq_of_lt hlt]
    exact hD0 hd
  · have hge : nv lv ≤ nv lu := by
      have := of_decide_eq_false hc
      rw [lt_of_cmp] at this
      omega
    have hlen : lv.length ≤ lu.length := by
      rcases Nat.lt_or_ge lu.length lv.length with h | h
      · have := nv_lt_of_length hu.wf nv0 h; omega
      · exact h
    refine rnA (pEn (by kernel_rfl) none _ _) ?_
    refine ⟨fun _ => ?_, fun hc => (by cases hc)⟩
    refine (getStack_c w0).mono ?_
    rintro v w1 ⟨rfl, hst, hF1, hs1⟩
    obtain ⟨k, hk⟩ : ∃ k, lv.length = k + 2 := ⟨lv.length - 2, by omega⟩
    have htop : dg lv (k + 1) ≠ 0 := by
      have := nv0.resolve_left hv0
      rwa [show lv.length - 1 = k + 1 by omega] at this
    have lt_of : ∀ {v : Value} {dd : Option Nat} {l : List Nat}, Own w0 v dd l → dd ≠ some w0.heap.size := fun h e => by subst e; have := h.blt; omega
    refine (divLarge_c hst (by simp [lenOf]) ((hg.fm0 hF0).fm0 hF1) (hz0.fm hF1 (fun _ _ h => h)) (hz20.fm hF1 (fun _ _ h => h)) (hu0.fm hF1 (fun _ _ h => h)) (hv0'.fm hF1 (fun _ _ h => h)) hk (by omega) hlen hul htop a1 a2 (fun b hb => ?_)).mono ?_
    · rcases hb with rfl | ⟨s, e, _⟩
      · exact ⟨lt_of hz0, lt_of hz20, lt_of hu0, lt_of hv0'⟩
      · cases e
    rintro v w2 ⟨vq, vr, dq, dr, lq, lr, st', rfl, oq, nq, eq, or, nr, er, ndq, ndr, hne, hst2, _, hF2, hS2⟩
    refine dfr_free ?_
    refine (free_d hst2).mono ?_
    intro w3 hF3
    have hsz3 := hF3.size
    have hsz2 := hF2.size
    refine ⟨_, _, rfl, hD0 ⟨dq, dr, lq, lr, oq.fm hF3 (fun b e h => (hS2 b h).2.1 e), nq, eq, or.fm hF3 (fun b e h => (hS2 b h).2.2 e), nr, er, ?_, ?_, hne⟩, hF0' ?_⟩
    · exact ndq.imp id (fun h => h.imp id (fun ⟨b, y1, y2, y3⟩ => ⟨b, y1, by omega, by omega⟩))
    · exact ndr.imp id (fun h => h.imp id (fun ⟨b, y1, y2, y3⟩ => ⟨b, y1, by omega, by omega⟩))
    · refine ((hF1.mono (fun _ _ h => h.elim)).trans hF2 (fun b hb h => ?_)).trans hF3 (fun b hb h => ?_)
      · rcases h with h | h | h
        · exact .inl h
        · exact .inr h
        · rcases h with rfl | ⟨s, e, _⟩
          · omega
          · cases e
      · rcases (hS2 b h).1 with h | h
        · rcases h with rfl | ⟨s, e, _⟩
          · omega
          · cases e
        · omega

theorem div_s {w : World} (hg : Gl w) {bs : Nat} {st : Option Sk} (hst : St w bs st) (hsl : lenOf st ≤ 3800) {z z2 xu xv : Value} {d d2 du dv : Option Nat} {l1 l2 lu lv : List Nat} (hz : Own w z d l1) (hz2 : Own w z2 d2 l2) (hu : Own w xu du lu) (hv : Own w xv dv lv) (nu : Nrm lu) (nv0 : Nrm lv) (hv0 : lv ≠ []) (hvl : lv.length ≤ 39) (hul : lu.length ≤ 400) (a1 : ∀ b, d = some b → d2 ≠ some b ∧ du ≠ some b ∧ dv ≠ some b) (a2 : ∀ b, d2 = some b → dv ≠ some b) {k : Nat} (hk : lv.length = k + 2) (hge : nv lv ≤ nv lu) (s1 : ∀ b, inSt bs st b → d ≠ some b ∧ d2 ≠ some b ∧ du ≠ some b ∧ dv ≠ some b) :
    CallX P 97 #[z, .pointer (some ⟨bs, 0, none⟩), z2, xu, xv] w fun v w' =>
      ∃ vq vr dq dr lq lr st', v = .tuple #[vq, vr] ∧ Own w' vq dq lq ∧ Nrm lq ∧ nv lq = nv lu / nv lv ∧ Own w' vr dr lr ∧ Nrm lr ∧ nv lr = nv lu % nv lv ∧ Nd w w' d dq ∧ Nd w w' d2 dr ∧ (∀ b, dq = some b → dr ≠ some b) ∧
        St w' bs st' ∧ (st' = none ∨ lenOf st' = lenOf st) ∧ Fm (fun b => d = some b ∨ d2 = some b ∨ inSt bs st b) w w' ∧ (∀ b, inSt bs st' b → (inSt bs st b ∨ w.heap.size ≤ b) ∧ dq ≠ some b ∧ dr ≠ some b) := by
  obtain ⟨yb, yc, rfl, rfl, ry, hyc, hyc2⟩ := hv.rd hv0
  have hvp : 0 < lv.length := List.length_pos_iff.2 hv0
  obtain ⟨ax, cx, rfl, hxc, hxc2, hsx⟩ := hu.val
  refine calls_vcd mo fn_97 rfl ok_97 (Nat.le_of_ble_eq_true rfl) nm_97 ?_
  refine ⟨_, _, ln se_54 _ _ _ _ _ _, ?_⟩
  refine ⟨_, bEqF (by omega), ?_⟩
  refine ⟨fun hc => (by cases hc), fun _ => ?_⟩
  refine ⟨_, _, ln se_54 _ _ _ _ _ _, ?_⟩
  refine ⟨_, bEqF (by omega), ?_⟩
  refine ⟨fun hc => (by cases hc), fun _ => ?_⟩
  refine (cmp_c hsx (Sv.of_rd ry) (.inr ⟨nu, nv0⟩) (by omega) (by omega)).mono ?_
  rintro v w0 ⟨⟨hF0, hs0⟩, rfl⟩
  have hlen : lv.length ≤ lu.length := by
    rcases Nat.lt_or_ge lu.length lv.length with h | h
    · have := nv_lt_of_length hu.wf nv0 h; omega
    · exact h
  refine ⟨_, bLtF (fun h => by have := lt_of_cmp.1 h; omega), ?_⟩
  refine ⟨fun hc => (by cases hc), fun _ => ?_⟩
  refine rnA (pEn (by kernel_rfl) (some _) _ _) ?_
  refine ⟨fun hc => (by cases hc), fun _ => ?_⟩
  have htop : dg lv (k + 1) ≠ 0 := by
    have := nv0.resolve_left hv0
    rwa [show lv.length - 1 = k + 1 by omega] at this
  refine (divLarge_c (hst.fm hF0 (fun _ _ h => h)) hsl (hg.fm0 hF0) (hz.fm hF0 (fun _ _ h => h)) (hz2.fm hF0 (fun _ _ h => h)) (hu.fm hF0 (fun _ _ h => h)) (hv.fm hF0 (fun _ _ h => h)) hk (by omega) hlen hul htop a1 a2 s1).mono ?_
  rintro v w2 ⟨vq, vr, dq, dr, lq, lr, st', rfl, oq, nq, eq, or, nr, er, ndq, ndr, hne, hst2, hl2, hF2, hS2⟩
  refine ⟨vq, vr, dq, dr, lq, lr, st', rfl, oq, nq, eq, or, nr, er, ?_, ?_, hne, hst2, hl2, (hF0.mono (fun _ _ h => h.elim)).trans hF2 (fun _ _ h => h), fun b h => ⟨(hS2 b h).1.imp id (fun h => by omega), (hS2 b h).2⟩⟩
  · exact ndq.imp id (fun h => h.imp id (fun ⟨b, y1, y2, y3⟩ => ⟨b, y1, by omega, by omega⟩))
  · exact ndr.imp id (fun h => h.imp id (fun ⟨b, y1, y2, y3⟩ => ⟨b, y1, by omega, by omega⟩))

end Go.Vc
end
