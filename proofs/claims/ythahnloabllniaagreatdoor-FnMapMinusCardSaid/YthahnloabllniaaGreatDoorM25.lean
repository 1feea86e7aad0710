/- The reference's numbers: less, sum, difference, sub, ofBytes, toBytes. -/
import Derived.Test.YthahnloabllniaaGreatDoorM24
import Derived.Laws.BytesString
section
set_option linter.unusedSimpArgs false
set_option linter.unusedVariables false
set_option maxRecDepth 20000
set_option maxHeartbeats 4000000
namespace Go.Vc
open Go.Proofs

theorem tkAg {t n : Nat} (ha : aggOk t = true) (hn : szOf t = some n) {w : World} {b i : Nat} {cs ds : List Value} {T : TypeId} (h : Cl w b cs T) (hd : (cs.drop i).take n = ds) (hl : ds.length = n) {nx : Option (World → Prop) → Value → Prop}
    (k : nx (some fun w' => Cl w' b cs T) (.agg ds.toArray)) : TkS P (Instr.loadAt t (.pointer (some ⟨b, i, none⟩))) w nx := .held _ _ h (fun _ h' => ldAg ha hn h' hd hl) k

abbrev nV (l : List Nat) : Value := .agg (vws l).toArray
abbrev Cn (w : World) (b : Nat) (l : List Nat) : Prop := Cl w b (vws l) 35

theorem ar_N : P.underlying 35 = some (.array 9 33) := by kernel_rfl

theorem ldN {w : World} {b : Nat} {l : List Nat} (h : Cn w b l) (hl : l.length = 9) : (Instr.loadAt 35 (.pointer (some ⟨b, 0, none⟩))).run P w = .ok (nV l) w :=
  ldAg (by kernel_rfl) sz_35 h (by rw [List.drop_zero, List.take_of_length_le (by rw [vws_len, hl]; exact Nat.le_refl 9)]) (by rw [vws_len, hl])

theorem lvN {w : World} {b : Nat} {l : List Nat} (h : Cn w b l) (hl : l.length = 9) : (loadVar 35 ⟨b, 0, none⟩).run P w = .ok (nV l) w :=
  lvAg (by kernel_rfl) sz_35 h (by rw [List.drop_zero, List.take_of_length_le (by rw [vws_len, hl]; exact Nat.le_refl 9)]) (by rw [vws_len, hl])

theorem stN {w : World} {b : Nat} {l0 l : List Nat} (h : Cn w b l0) (h0 : l0.length = 9) (hl : l.length = 9) :
    ∃ w', (Instr.storeAt 35 (.pointer (some ⟨b, 0, none⟩)) (nV l)).run P w = .ok () w' ∧ Cn w' b l ∧ Fm (· = b) w w' ∧ w'.heap.size = w.heap.size :=
  stAg (t := 35) (vs := vws l) (by rw [vws_len, hl]; exact sz_35) h (i := 0) (by rw [vws_len, vws_len]; omega) (by intro v hv; obtain ⟨x, _, rfl⟩ := List.mem_map.1 hv; rfl)
    (by rw [List.take_zero, List.nil_append, List.drop_of_length_le (by rw [vws_len, vws_len]; omega), List.append_nil])

theorem bxN (l : List Nat) (w : World) : ∃ w', (Instr.box 35 (nV l)).run P w = .ok (.pointer (some ⟨w.heap.size, 0, none⟩)) w' ∧ Cn w' w.heap.size l ∧ Fm (fun _ => False) w w' ∧ w'.heap.size = w.heap.size + 1 := bx 35 (v := nV l) (cs := vws l) rfl w

def z9 : List Nat := [0, 0, 0, 0, 0, 0, 0, 0, 0]
theorem alN (w : World) : ∃ w', (Instr.alloc 35 true (.tuple #[])).run P w = .ok (.pointer (some ⟨w.heap.size, 0, none⟩)) w' ∧ Cn w' w.heap.size z9 ∧ Fm (fun _ => False) w w' ∧ w'.heap.size = w.heap.size + 1 :=
  nw (t := 35) (z := nV z9) (by kernel_rfl) (cs := vws z9) rfl w
theorem bldN0 (w : World) : (Instr.build 35 #[]).run P w = .ok (nV z9) w := by kernel_rfl

theorem Cn.st {w : World} {b i : Nat} {l : List Nat} (h : Cn w b l) (hi : i < l.length) (x : Nat) :
    ∃ w', (Instr.storeAt 33 (.pointer (some ⟨b, i, none⟩)) (vw x)).run P w = .ok () w' ∧ Cn w' b (l.set i x) ∧ Fm (· = b) w w' ∧ w'.heap.size = w.heap.size := by
  obtain ⟨w', e, hc, hf, hz⟩ := Vc.st sz_33 h (by rw [vws_len]; exact hi) (v := vw x) rfl
  exact ⟨w', e, by rw [vws_set] at hc; exact hc, hf, hz⟩

theorem Cn.cell {w : World} {b i : Nat} {l : List Nat} (h : Cn w b l) (hi : i < l.length) : w.cell? ⟨b, i, none⟩ = some (vw (dg l i)) := Cl.cell h (vws_get hi)

/-! Plain laws. -/
theorem nv_low {l : List Nat} (i : Nat) (hi : i < l.length) : nv l = nv (l.take i) + BW ^ i * (dg l i + BW * nv (l.drop (i + 1))) := by
  have h1 := nv_split l (i + 1)
  rw [Nat.min_eq_left (by omega), nv_take_succ hi, Nat.pow_succ] at h1
  rw [h1, Nat.mul_add, Nat.mul_assoc]
  omega

theorem nv_topS {a b : List Nat} (ha : WF a) (hl : a.length = b.length) {i : Nat} (hi : i < a.length) (he : ∀ k, i < k → k < a.length → dg a k = dg b k) (hlt : dg a i < dg b i) : nv a < nv b := by
  have h1 := nv_low i hi
  have h2 := nv_low (l := b) i (by omega)
  have hd : a.drop (i + 1) = b.drop (i + 1) := by
    apply list_ext_dg (by rw [List.length_drop, List.length_drop, hl])
    intro k hk
    rw [List.length_drop] at hk
    rw [dg_drop, dg_drop]
    exact he _ (by omega) (by omega)
  rw [hd] at h1
  have h3 := nv_lt (ha.take i)
  rw [List.length_take, Nat.min_eq_left (by omega)] at h3
  have h4 : BW ^ i * (dg a i + BW * nv (b.drop (i + 1)) + 1) ≤ BW ^ i * (dg b i + BW * nv (b.drop (i + 1))) := Nat.mul_le_mul_left _ (by omega)
  rw [Nat.mul_add _ _ 1, Nat.mul_one] at h4
  omega

theorem nv_set {l : List Nat} {i x : Nat} (hi : i < l.length) : nv (l.set i x) + BW ^ i * dg l i = nv l + BW ^ i * x := by
  have h1 := nv_low i hi
  have h2 := nv_low (l := l.set i x) i (by rw [List.length_set]; exact hi)
  rw [dg_set_eq hi, List.take_set_of_le (Nat.le_refl _), List.drop_set_of_lt (by omega)] at h2
  rw [h1, h2, Nat.mul_add, Nat.mul_add]
  omega

theorem dg_val {l : List Nat} (hw : WF l) {i : Nat} (hi : i < l.length) : dg l i = nv l / BW ^ i % BW := by
  have h1 := nv_low i hi
  have h3 := nv_lt (hw.take i)
  rw [List.length_take, Nat.min_eq_left (by omega)] at h3
  rw [h1, Nat.add_mul_div_left _ _ (Nat.pow_pos BW_pos), Nat.div_eq_of_lt h3, Nat.zero_add, Nat.add_mul_mod_self_left, Nat.mod_eq_of_lt (hw.dg i)]

theorem dg_small {l : List Nat} {i m : Nat} (hi : i < l.length) (h : nv l < BW ^ i * m) : dg l i < m := by
  have h1 := nv_low i hi
  have h2 : BW ^ i * dg l i ≤ nv l := by rw [h1, Nat.mul_add]; omega
  exact Nat.lt_of_mul_lt_mul_left (Nat.lt_of_le_of_lt h2 h)

theorem eq_of_nv {a b : List Nat} (ha : WF a) (hb : WF b) (hl : a.length = b.length) (h : nv a = nv b) : a = b := by
  apply list_ext_dg hl
  intro i hi
  rw [dg_val ha hi, dg_val hb (by omega), h]

theorem nRem' (a b : Nat) (hb : b ≠ 0) : binV .rem .i64 .i64 (a : Int) (b : Int) = some (.int .i64 ((a % b : Nat) : Int)) := by
  have hb : ¬ ((b : Int) = 0) := by omega
  simp only [binV, ne_eq, not_true, if_false]
  rw [if_neg hb]
  rfl

/-! less -/
theorem less_c {a b : List Nat} (ha : WF a) (hb : WF b) (la : a.length = 9) (lb : b.length = 9) (w : World) : CallX P 12 #[nV a, nV b] w fun v w' => v = .bool (decide (nv a < nv b)) ∧ Fm (fun _ => False) w w' := by
  refine calls_vc mo fn_12 rfl ok_12 (Nat.le_of_ble_eq_true rfl) nm_12 ?_
  (refine vsr ?_)
  obtain ⟨w1, e1, c1, f1, s1⟩ := bxN a w
  refine ⟨_, w1, e1, ?_⟩
  obtain ⟨w2, e2, c2, f2, s2⟩ := bxN b w1
  refine ⟨_, w2, e2, ?_⟩
  (repeat refine vcl_v _ rfl rfl ?_); (refine vcl_end ?_)
  have ca : Cn w2 w.heap.size a := f2.obj c1 (fun h => h)
  have F2 : Fm (fun _ => False) w w2 := f1.trans f2 (fun _ _ h => h)
  refine vcut (by repeat (first | exact moE _ _ _ | exact moEd _ _ _ | apply moB | apply moL | apply moV)) Unit (fun _ => ⟨[], []⟩) (fun _ u => a = b ∧ Fm (fun _ => False) w2 u) ?_ ?_
  · (refine vsr ?_)
    (repeat refine vcl_v _ rfl rfl ?_); (refine vcl_end ?_)
    refine vloop Nat (fun j => ⟨[(2, .pointer (some ⟨w.heap.size, 0, none⟩)), (3, .pointer (some ⟨w1.heap.size, 0, none⟩)), (5, .int .i64 ((j : Int) - 1))], []⟩) (fun j u => j ≤ 9 ∧ (∀ k, j ≤ k → k < 9 → dg a k = dg b k) ∧ Fm (fun _ => False) w2 u) (fun j => j) 9
      ⟨⟨rfl, rfl, rfl, trivial⟩, rfl⟩ ⟨Nat.le_refl _, fun k h1 h2 => by omega, Fm.refl _ _⟩ ?_
    rintro j u ⟨hj, he, hF⟩
    rcases Nat.eq_zero_or_pos j with h0 | h0
    · subst h0
      refine ⟨_, bGeF (by omega), ?_⟩
      refine ⟨fun hc => (by cases hc), fun _ => ?_⟩
      exact ⟨(), ⟨trivial, rfl⟩, list_ext_dg (by omega) (fun i hi => he i (by omega) (by omega)), hF⟩
    · obtain ⟨i, rfl⟩ : ∃ i, j = i + 1 := ⟨j - 1, by omega⟩
      rw [show ((i + 1 : Nat) : Int) - 1 = (i : Int) by omega]
      refine ⟨_, bGe (by omega), ?_⟩
      refine ⟨fun _ => ?_, fun hc => (by cases hc)⟩
      (refine sqn ?_)
      refine vsb ?_
      have cau : Cn u.drew w.heap.size a := hF.dr.obj ca (fun h => h)
      have cbu : Cn u.drew w1.heap.size b := hF.dr.obj c2 (fun h => h)
      refine ⟨.take 0 (.take 1 (.take 2 (.take 3 (.take 4 (.take 5 (.take 6 (.done))))))), by kernel_rfl, ?_⟩
      refine tkA (ixA ar_N sz_33 _ (by omega)) ?_
      refine tkC na_33 (cau.cell (by omega)) ?_
      refine tkA (ixA ar_N sz_33 _ (by omega)) ?_
      refine tkC na_33 (cbu.cell (by omega)) ?_
      rw [Nat.zero_add]
      rcases Classical.em (dg a i = dg b i) with hd | hd
      · refine ⟨_, bNeF (by rw [hd]), ?_⟩
        refine ⟨fun hc => (by cases hc), fun _ => ?_⟩
        refine ⟨_, bSub (a := (i : Int)) (b := 1) (by omega), ?_⟩
        refine ⟨i, ⟨⟨rfl, rfl, rfl, trivial⟩, rfl⟩, ⟨by omega, fun k h1 h2 => ?_, hF.dr⟩, by show i < i + 1; omega⟩
        rcases Nat.eq_or_lt_of_le h1 with e | e
        · subst e; exact hd
        · exact he k e h2
      · refine ⟨_, bNe (by omega), ?_⟩
        refine ⟨fun _ => ?_, fun hc => (by cases hc)⟩
        refine ⟨.take 0 (.take 1 (.take 2 (.take 3 (.take 4 (.take 5 (.take 6 (.take 7 (.done)))))))), by kernel_rfl, ?_⟩
        refine tkA (ixA ar_N sz_33 _ (by omega)) ?_
        refine tkC na_33 (Cn.cell (w := u.drew.drew) cau (by omega)) ?_
        refine tkA (ixA ar_N sz_33 _ (by omega)) ?_
        refine tkC na_33 (Cn.cell (w := u.drew.drew) cbu (by omega)) ?_
        rw [Nat.zero_add]
        rcases Nat.lt_or_ge (dg a i) (dg b i) with hlt | hge
        · refine ⟨_, bLt (by omega), ?_⟩
          have := nv_topS ha (by omega) (i := i) (by omega) (fun k h1 h2 => he k (by omega) (by omega)) hlt
          rw [decide_eq_true this]
          exact ⟨rfl, rfl, F2.trans hF.dr.dr (fun _ _ h => h)⟩
        · refine ⟨_, bLtF (by omega), ?_⟩
          have := nv_topS hb (by omega) (i := i) (by omega) (fun k h1 h2 => (he k (by omega) (by omega)).symm) (by omega)
          rw [decide_eq_false (by omega)]
          exact ⟨rfl, rfl, F2.trans hF.dr.dr (fun _ _ h => h)⟩
  rintro _ u ⟨rfl, hF⟩
  rw [decide_eq_false (Nat.lt_irrefl _)]
  exact ⟨rfl, rfl, F2.trans hF (fun _ _ h => h)⟩

end Go.Vc
end

section
/- The reference's numbers: sum, difference, sub. -/
set_option linter.unusedSimpArgs false
set_option linter.unusedVariables false
set_option maxRecDepth 20000
set_option maxHeartbeats 4000000
namespace Go.Vc
open Go.Proofs

theorem sum_step {l a b : List Nat} {j c x c' : Nat} (hl : j < l.length) (ha : j < a.length) (hb : j < b.length) (h : nv (l.take j) + BW ^ j * c = nv (a.take j) + nv (b.take j)) (hx : x + BW * c' = dg a j + dg b j + c) :
    nv ((l.set j x).take (j + 1)) + BW ^ (j + 1) * c' = nv (a.take (j + 1)) + nv (b.take (j + 1)) := by
  rw [nv_take_succ (by rw [List.length_set]; exact hl), nv_take_succ ha, nv_take_succ hb, dg_set_eq hl, List.take_set_of_le (Nat.le_refl _), Nat.pow_succ]
  have := congrArg (BW ^ j * ·) hx
  simp only [Nat.mul_add, ← Nat.mul_assoc] at this
  omega

theorem diff_step {l a b : List Nat} {j c x c' : Nat} (hl : j < l.length) (ha : j < a.length) (hb : j < b.length) (h : nv (l.take j) + nv (b.take j) = nv (a.take j) + BW ^ j * c) (hx : x + dg b j + c = dg a j + BW * c') :
    nv ((l.set j x).take (j + 1)) + nv (b.take (j + 1)) = nv (a.take (j + 1)) + BW ^ (j + 1) * c' := by
  rw [nv_take_succ (by rw [List.length_set]; exact hl), nv_take_succ ha, nv_take_succ hb, dg_set_eq hl, List.take_set_of_le (Nat.le_refl _), Nat.pow_succ]
  have := congrArg (BW ^ j * ·) hx
  simp only [Nat.mul_add, ← Nat.mul_assoc] at this
  omega

theorem wf_z9 : WF z9 := by intro x hx; simp [z9] at hx; subst hx; exact BW_pos
theorem nv_z9 : nv z9 = 0 := nv_replicate_zero 9


theorem ix9 {b : Nat} (i : Nat) (hi : i < 9) (w : World) : (Instr.indexAt 35 (.pointer (some ⟨b, 0, none⟩)) (.int .i64 (i : Int))).run P w = .ok (.pointer (some ⟨b, i, none⟩)) w := by
  have := ixA (b := b) (o := 0) ar_N sz_33 .i64 hi w
  rwa [Nat.zero_add] at this

/-! sum -/
theorem sum_c {a b : List Nat} (ha : WF a) (hb : WF b) (la : a.length = 9) (lb : b.length = 9) (w : World) : CallX P 32 #[nV a, nV b] w fun v w' => ∃ l, v = nV l ∧ l.length = 9 ∧ WF l ∧ nv l = (nv a + nv b) % BW ^ 9 ∧ Fm (fun _ => False) w w' := by
  refine calls_vc mo fn_32 rfl ok_32 (Nat.le_of_ble_eq_true rfl) nm_32 ?_
  (refine vsr ?_)
  obtain ⟨w1, e1, c1, f1, s1⟩ := bxN a w
  refine ⟨_, w1, e1, ?_⟩
  obtain ⟨w2, e2, c2, f2, s2⟩ := bxN b w1
  refine ⟨_, w2, e2, ?_⟩
  obtain ⟨w3, e3, c3, f3, s3⟩ := alN w2
  refine ⟨_, w3, e3, ?_⟩
  (repeat refine vcl_v _ rfl rfl ?_); (refine vcl_end ?_)
  (refine vsr ?_)
  refine rnR (bldN0 _) ?_
  obtain ⟨w4, e4, c4, f4, s4⟩ := alN w3
  refine ⟨_, w4, e4, ?_⟩
  obtain ⟨w5, e5, c5, f5, s5⟩ := stN (l := z9) c4 rfl rfl
  refine ⟨w5, e5, ?_⟩
  (repeat refine vcl_v _ rfl rfl ?_); (refine vcl_end ?_)
  have hw0 : w.heap.size < w1.heap.size := by omega
  have ca : Cn w5 w.heap.size a := f5.obj (f4.obj (f3.obj (f2.obj c1 (fun h => h)) (fun h => h)) (fun h => h)) (by omega)
  have cb : Cn w5 w1.heap.size b := f5.obj (f4.obj (f3.obj c2 (fun h => h)) (fun h => h)) (by omega)
  have cr : Cn w5 w2.heap.size z9 := f5.obj (f4.obj c3 (fun h => h)) (by omega)
  have F5 : Fm (fun _ => False) w w5 := ((((f1.trans f2 (fun _ _ h => h)).trans f3 (fun _ _ h => h)).trans f4 (fun _ _ h => h)).trans f5 (fun b hb h => by omega))
  (refine vsr ?_)
  (repeat refine vcl_v _ rfl rfl ?_); (refine vcl_end ?_)
  refine vcut (by repeat (first | exact moE _ _ _ | exact moEd _ _ _ | apply moB | apply moL | apply moV)) (List Nat) (fun _ => ⟨[(4, .pointer (some ⟨w2.heap.size, 0, none⟩)), (5, .pointer (some ⟨w3.heap.size, 0, none⟩))], []⟩) (fun l u => l.length = 9 ∧ WF l ∧ nv l = (nv a + nv b) % BW ^ 9 ∧ Cn u w3.heap.size l ∧ Fm (· = w3.heap.size) w5 u) ?_ ?_
  · (refine vsr ?_)
    (repeat refine vcl_v _ rfl rfl ?_); (refine vcl_end ?_)
    refine vloop (Nat × Nat × List Nat) (fun s => ⟨[(2, .pointer (some ⟨w.heap.size, 0, none⟩)), (3, .pointer (some ⟨w1.heap.size, 0, none⟩)), (4, .pointer (some ⟨w2.heap.size, 0, none⟩)), (5, .pointer (some ⟨w3.heap.size, 0, none⟩)), (6, vw s.2.1), (7, .int .i64 (s.1 : Int))], []⟩)
      (fun s u => s.1 ≤ 9 ∧ s.2.1 ≤ 1 ∧ s.2.2.length = 9 ∧ WF s.2.2 ∧ nv (s.2.2.take s.1) + BW ^ s.1 * s.2.1 = nv (a.take s.1) + nv (b.take s.1) ∧ Cn u w3.heap.size s.2.2 ∧ Fm (· = w3.heap.size) w5 u) (fun s => 9 - s.1) (0, 0, z9)
      ⟨⟨rfl, rfl, rfl, rfl, rfl, rfl, trivial⟩, rfl⟩ ⟨Nat.zero_le _, Nat.zero_le _, rfl, wf_z9, rfl, c5, Fm.refl _ _⟩ ?_
    rintro ⟨j, c, l⟩ u ⟨hj, hc1, hl, hw, he, hcu, hF⟩
    replace hj : j ≤ 9 := hj
    replace hc1 : c ≤ 1 := hc1
    replace hl : l.length = 9 := hl
    replace hcu : Cn u w3.heap.size l := hcu
    replace hw : WF l := hw
    replace he : nv (l.take j) + BW ^ j * c = nv (a.take j) + nv (b.take j) := he
    rcases Nat.lt_or_ge j 9 with h9 | h9
    · refine ⟨_, bLt (by show (j : Int) < 9; omega), ?_⟩
      refine ⟨fun _ => ?_, fun hc => (by cases hc)⟩
      (refine sqn ?_)
      refine vsb ?_
      have cau : Cn u.drew w.heap.size a := hF.dr.obj ca (by omega)
      have cbu : Cn u.drew w1.heap.size b := hF.dr.obj cb (by omega)
      refine ⟨.take 0 (.take 1 (.take 2 (.take 3 (.take 4 (.take 5 (.take 6 (.one 7 [] (.take 8 (.take 9 (.take 10 (.take 11 (.take 12 (.done))))))))))))), by kernel_rfl, ?_⟩
      refine tkA (ix9 j h9) ?_
      refine tkC na_33 (cau.cell (i := j) (by omega)) ?_
      refine tkA (ix9 j h9) ?_
      refine tkC na_33 (cbu.cell (i := j) (by omega)) ?_
      refine (add64_c (dg a j) (dg b j) c hc1 u.drew).mono ?_
      rintro _ _ ⟨rfl, rfl⟩
      refine ⟨trivial, ?_⟩
      refine rnA (ix9 j h9) ?_
      obtain ⟨u2, e2, c2, f2, s2⟩ := Cn.st (show Cn u.drew w3.heap.size l from hcu) (show j < l.length by omega) ((dg a j + dg b j + c) % 18446744073709551616)
      refine ⟨u2, e2, ?_⟩
      (refine sqn ?_)
      refine ⟨_, bAdd (a := (j : Int)) (b := 1) (by omega), ?_⟩
      have da := ha.dg j
      have db := hb.dg j
      refine ⟨(j + 1, (dg a j + dg b j + c) / 18446744073709551616, l.set j ((dg a j + dg b j + c) % 18446744073709551616)), ⟨⟨rfl, rfl, rfl, rfl, rfl, rfl, trivial⟩, rfl⟩, ⟨by show j + 1 ≤ 9; omega, ?_, ?_, ?_, ?_, c2, ?_⟩, by show 9 - (j + 1) < 9 - j; omega⟩
      · show (dg a j + dg b j + c) / 18446744073709551616 ≤ 1
        have := BW_eq
        omega
      · show (l.set j _).length = 9
        rw [List.length_set]; exact hl
      · exact hw.set j (by rw [BW_eq]; omega)
      · exact sum_step (by omega) (by omega) (by omega) he (by rw [BW_eq]; exact Nat.mod_add_div _ _)
      · exact hF.dr.trans f2 (fun b _ h => h)
    · refine ⟨_, bLtF (by show ¬ (j : Int) < 9; omega), ?_⟩
      refine ⟨fun hc => (by cases hc), fun _ => ?_⟩
      obtain rfl : j = 9 := by omega
      refine ⟨l, ⟨⟨rfl, rfl, trivial⟩, rfl⟩, hl, hw, ?_, hcu, hF⟩
      rw [List.take_of_length_le (by omega), List.take_of_length_le (by omega), List.take_of_length_le (by omega)] at he
      have hlt := nv_lt hw
      rw [hl] at hlt
      rw [← he, Nat.add_mul_mod_self_left, Nat.mod_eq_of_lt hlt]
  rintro l u ⟨hl, hw, he, hcu, hF⟩
  refine rnR (ldN hcu hl) ?_
  obtain ⟨u2, e2, c2, f2, s2⟩ := stN (hF.obj cr (by omega)) rfl hl
  refine ⟨u2, e2, ?_⟩
  refine ⟨rfl, _, lvN c2 hl, l, rfl, hl, hw, he, (F5.trans hF (fun b hb h => by omega)).trans f2 (fun b hb h => by omega)⟩

theorem sub_dig {x y c : Nat} (hx : x < 18446744073709551616) (hy : y < 18446744073709551616) (hc : c ≤ 1) : (x + 18446744073709551616 - y - c) % 18446744073709551616 + y + c = x + 18446744073709551616 * (if x < y + c then 1 else 0) := by
  split <;> omega

/-! difference -/
theorem difference_c {a b : List Nat} (ha : WF a) (hb : WF b) (la : a.length = 9) (lb : b.length = 9) (hle : nv b ≤ nv a) (w : World) : CallX P 31 #[nV a, nV b] w fun v w' => ∃ l, v = nV l ∧ l.length = 9 ∧ WF l ∧ nv l = nv a - nv b ∧ Fm (fun _ => False) w w' := by
  refine calls_vc mo fn_31 rfl ok_31 (Nat.le_of_ble_eq_true rfl) nm_31 ?_
  (refine vsr ?_)
  obtain ⟨w1, e1, c1, f1, s1⟩ := bxN a w
  refine ⟨_, w1, e1, ?_⟩
  obtain ⟨w2, e2, c2, f2, s2⟩ := bxN b w1
  refine ⟨_, w2, e2, ?_⟩
  obtain ⟨w3, e3, c3, f3, s3⟩ := alN w2
  refine ⟨_, w3, e3, ?_⟩
  (repeat refine vcl_v _ rfl rfl ?_); (refine vcl_end ?_)
  (refine vsr ?_)
  refine rnR (bldN0 _) ?_
  obtain ⟨w4, e4, c4, f4, s4⟩ := alN w3
  refine ⟨_, w4, e4, ?_⟩
  obtain ⟨w5, e5, c5, f5, s5⟩ := stN (l := z9) c4 rfl rfl
  refine ⟨w5, e5, ?_⟩
  (repeat refine vcl_v _ rfl rfl ?_); (refine vcl_end ?_)
  have hw0 : w.heap.size < w1.heap.size := by omega
  have ca : Cn w5 w.heap.size a := f5.obj (f4.obj (f3.obj (f2.obj c1 (fun h => h)) (fun h => h)) (fun h => h)) (by omega)
  have cb : Cn w5 w1.heap.size b := f5.obj (f4.obj (f3.obj c2 (fun h => h)) (fun h => h)) (by omega)
  have cr : Cn w5 w2.heap.size z9 := f5.obj (f4.obj c3 (fun h => h)) (by omega)
  have F5 : Fm (fun _ => False) w w5 := ((((f1.trans f2 (fun _ _ h => h)).trans f3 (fun _ _ h => h)).trans f4 (fun _ _ h => h)).trans f5 (fun b hb h => by omega))
  (refine vsr ?_)
  (repeat refine vcl_v _ rfl rfl ?_); (refine vcl_end ?_)
  refine vcut (by repeat (first | exact moE _ _ _ | exact moEd _ _ _ | apply moB | apply moL | apply moV)) (List Nat) (fun _ => ⟨[(4, .pointer (some ⟨w2.heap.size, 0, none⟩)), (5, .pointer (some ⟨w3.heap.size, 0, none⟩))], []⟩) (fun l u => l.length = 9 ∧ WF l ∧ nv l = nv a - nv b ∧ Cn u w3.heap.size l ∧ Fm (· = w3.heap.size) w5 u) ?_ ?_
  · (refine vsr ?_)
    (repeat refine vcl_v _ rfl rfl ?_); (refine vcl_end ?_)
    refine vloop (Nat × Nat × List Nat) (fun s => ⟨[(2, .pointer (some ⟨w.heap.size, 0, none⟩)), (3, .pointer (some ⟨w1.heap.size, 0, none⟩)), (4, .pointer (some ⟨w2.heap.size, 0, none⟩)), (5, .pointer (some ⟨w3.heap.size, 0, none⟩)), (6, vw s.2.1), (7, .int .i64 (s.1 : Int))], []⟩)
      (fun s u => s.1 ≤ 9 ∧ s.2.1 ≤ 1 ∧ s.2.2.length = 9 ∧ WF s.2.2 ∧ nv (s.2.2.take s.1) + nv (b.take s.1) = nv (a.take s.1) + BW ^ s.1 * s.2.1 ∧ Cn u w3.heap.size s.2.2 ∧ Fm (· = w3.heap.size) w5 u) (fun s => 9 - s.1) (0, 0, z9)
      ⟨⟨rfl, rfl, rfl, rfl, rfl, rfl, trivial⟩, rfl⟩ ⟨Nat.zero_le _, Nat.zero_le _, rfl, wf_z9, rfl, c5, Fm.refl _ _⟩ ?_
    rintro ⟨j, c, l⟩ u ⟨hj, hc1, hl, hw, he, hcu, hF⟩
    replace hj : j ≤ 9 := hj
    replace hc1 : c ≤ 1 := hc1
    replace hl : l.length = 9 := hl
    replace hcu : Cn u w3.heap.size l := hcu
    replace hw : WF l := hw
    replace he : nv (l.take j) + nv (b.take j) = nv (a.take j) + BW ^ j * c := he
    rcases Nat.lt_or_ge j 9 with h9 | h9
    · refine ⟨_, bLt (by show (j : Int) < 9; omega), ?_⟩
      refine ⟨fun _ => ?_, fun hc => (by cases hc)⟩
      (refine sqn ?_)
      refine vsb ?_
      have cau : Cn u.drew w.heap.size a := hF.dr.obj ca (by omega)
      have cbu : Cn u.drew w1.heap.size b := hF.dr.obj cb (by omega)
      refine ⟨.take 0 (.take 1 (.take 2 (.take 3 (.take 4 (.take 5 (.take 6 (.one 7 [] (.take 8 (.take 9 (.take 10 (.take 11 (.take 12 (.done))))))))))))), by kernel_rfl, ?_⟩
      refine tkA (ix9 j h9) ?_
      refine tkC na_33 (cau.cell (i := j) (by omega)) ?_
      refine tkA (ix9 j h9) ?_
      refine tkC na_33 (cbu.cell (i := j) (by omega)) ?_
      refine (sub64_c (dg a j) (dg b j) c hc1 u.drew).mono ?_
      rintro _ _ ⟨rfl, rfl⟩
      refine ⟨trivial, ?_⟩
      refine rnA (ix9 j h9) ?_
      obtain ⟨u2, e2, c2, f2, s2⟩ := Cn.st (show Cn u.drew w3.heap.size l from hcu) (show j < l.length by omega) ((dg a j + 18446744073709551616 - dg b j - c) % 18446744073709551616)
      refine ⟨u2, e2, ?_⟩
      (refine sqn ?_)
      refine ⟨_, bAdd (a := (j : Int)) (b := 1) (by omega), ?_⟩
      have da := ha.dg j
      have db := hb.dg j
      refine ⟨(j + 1, (if dg a j < dg b j + c then 1 else 0), l.set j ((dg a j + 18446744073709551616 - dg b j - c) % 18446744073709551616)), ⟨⟨rfl, rfl, rfl, rfl, rfl, rfl, trivial⟩, rfl⟩, ⟨by show j + 1 ≤ 9; omega, ?_, ?_, ?_, ?_, c2, ?_⟩, by show 9 - (j + 1) < 9 - j; omega⟩
      · show (if dg a j < dg b j + c then 1 else 0) ≤ 1
        split <;> omega
      · show (l.set j _).length = 9
        rw [List.length_set]; exact hl
      · exact hw.set j (by rw [BW_eq]; omega)
      · exact diff_step (by omega) (by omega) (by omega) he (by rw [BW_eq] at da db ⊢; exact sub_dig da db hc1)
      · exact hF.dr.trans f2 (fun b _ h => h)
    · refine ⟨_, bLtF (by show ¬ (j : Int) < 9; omega), ?_⟩
      refine ⟨fun hc => (by cases hc), fun _ => ?_⟩
      obtain rfl : j = 9 := by omega
      refine ⟨l, ⟨⟨rfl, rfl, trivial⟩, rfl⟩, hl, hw, ?_, hcu, hF⟩
      rw [List.take_of_length_le (by omega), List.take_of_length_le (by omega), List.take_of_length_le (by omega)] at he
      have hlt := nv_lt hw
      rw [hl] at hlt
      rcases (show c = 0 ∨ c = 1 by omega) with rfl | rfl
      · omega
      · rw [Nat.mul_one] at he; omega
  rintro l u ⟨hl, hw, he, hcu, hF⟩
  refine rnR (ldN hcu hl) ?_
  obtain ⟨u2, e2, c2, f2, s2⟩ := stN (hF.obj cr (by omega)) rfl hl
  refine ⟨u2, e2, ?_⟩
  refine ⟨rfl, _, lvN c2 hl, l, rfl, hl, hw, he, (F5.trans hF (fun b hb h => by omega)).trans f2 (fun b hb h => by omega)⟩

/-! sub: what is opposite -/
theorem subN_c {b m : List Nat} (hb : WF b) (hm : WF m) (lb : b.length = 9) (lm : m.length = 9) (b0 : 0 < nv b) (bm : nv b ≤ nv m) (w : World) : CallX P 20 #[nV z9, nV b, nV m] w fun v w' => ∃ l, v = nV l ∧ l.length = 9 ∧ WF l ∧ nv l = nv m - nv b ∧ Fm (fun _ => False) w w' := by
  refine calls_vc mo fn_20 rfl ok_20 (Nat.le_of_ble_eq_true rfl) nm_20 ?_
  (refine vsr ?_)
  obtain ⟨w1, e1, c1, f1, s1⟩ := bxN z9 w
  refine ⟨_, w1, e1, ?_⟩
  obtain ⟨w2, e2, c2, f2, s2⟩ := bxN b w1
  refine ⟨_, w2, e2, ?_⟩
  obtain ⟨w3, e3, c3, f3, s3⟩ := bxN m w2
  refine ⟨_, w3, e3, ?_⟩
  obtain ⟨w4, e4, c4, f4, s4⟩ := alN w3
  refine ⟨_, w4, e4, ?_⟩
  (repeat refine vcl_v _ rfl rfl ?_); (refine vcl_end ?_)
  have ca : Cn w4 w.heap.size z9 := f4.obj (f3.obj (f2.obj c1 (fun h => h)) (fun h => h)) (fun h => h)
  have cb : Cn w4 w1.heap.size b := f4.obj (f3.obj c2 (fun h => h)) (fun h => h)
  have cm : Cn w4 w2.heap.size m := f4.obj c3 (fun h => h)
  have F4 : Fm (fun _ => False) w w4 := (((f1.trans f2 (fun _ _ h => h)).trans f3 (fun _ _ h => h)).trans f4 (fun _ _ h => h))
  refine rnR (ldN ca rfl) ?_
  refine rnR (ldN cb lb) ?_
  refine (less_c wf_z9 hb rfl lb w4).mono ?_
  rintro _ w5 ⟨rfl, f5⟩
  rw [decide_eq_true (by rw [nv_z9]; exact b0)]
  refine ⟨fun _ => ?_, fun hc => (by cases hc)⟩
  refine ⟨.take 0 (.take 1 (.take 3 (.one 2 [3] (.one 4 [] (.one 5 [] (.done)))))), by kernel_rfl, ?_⟩
  have F45 : Fm (fun _ => False) w4 w5.drew := f5.dr
  refine tkAg (by kernel_rfl) sz_35 (F45.obj ca (fun h => h)) (ds := vws z9) rfl rfl ?_
  refine tkAg (by kernel_rfl) sz_35 (F45.obj cm (fun h => h)) (ds := vws m) (by rw [List.drop_zero, List.take_of_length_le (by rw [vws_len, lm]; exact Nat.le_refl 9)]) (by rw [vws_len, lm]) ?_
  refine tkAg (by kernel_rfl) sz_35 (F45.obj cb (fun h => h)) (ds := vws b) (by rw [List.drop_zero, List.take_of_length_le (by rw [vws_len, lb]; exact Nat.le_refl 9)]) (by rw [vws_len, lb]) ?_
  refine (sum_c wf_z9 hm rfl lm w5.drew).mono ?_
  rintro _ w6 ⟨l1, rfl, h1, hw1, hv1, f6⟩
  have F6 : Fm (fun _ => False) w4 w6 := F45.trans f6 (fun _ _ h => h)
  refine ⟨⟨F6.obj cb (fun h => h), trivial⟩, ?_⟩
  have hlm := nv_lt hm
  rw [lm] at hlm
  rw [nv_z9, Nat.zero_add, Nat.mod_eq_of_lt hlm] at hv1
  refine (difference_c hw1 hb h1 lb (by omega) w6).mono ?_
  rintro _ w7 ⟨l2, rfl, h2, hw2, hv2, f7⟩
  refine ⟨trivial, ?_⟩
  have F7 : Fm (fun _ => False) w4 w7 := F6.trans f7 (fun _ _ h => h)
  obtain ⟨w8, e8, c8, f8, s8⟩ := stN (F7.obj c4 (fun h => h)) rfl h2
  refine ⟨w8, e8, ?_⟩
  refine ⟨trivial, ?_⟩
  exact ⟨rfl, _, lvN c8 h2, l2, rfl, h2, hw2, by omega, (F4.trans F7 (fun _ _ h => h)).trans f8 (fun b hb h => by omega)⟩

end Go.Vc
end

section
/- The reference's numbers and bytes: ofBytes, toBytes, bytesOf. -/
set_option linter.unusedSimpArgs false
set_option linter.unusedVariables false
set_option maxRecDepth 20000
set_option maxHeartbeats 4000000
namespace Go.Vc
open Go.Proofs

theorem pow256 (i : Nat) : 256 ^ i = BW ^ (i / 8) * 256 ^ (i % 8) := by
  rw [BW_256, ← Nat.pow_add]; congr 1; omega

theorem ofB_word {l : List Nat} {i x : Nat} (hi : i / 8 < l.length) (h : nv l < 256 ^ i) (hx : x < 256) :
    dg l (i / 8) < 2 ^ (8 * (i % 8)) ∧ dg l (i / 8) + x * 2 ^ (8 * (i % 8)) < 18446744073709551616 ∧ nv (l.set (i / 8) (x * 2 ^ (8 * (i % 8)) + dg l (i / 8))) = x * 256 ^ i + nv l := by
  have h1 : dg l (i / 8) < 256 ^ (i % 8) := dg_small hi (by rw [← pow256]; exact h)
  have hp : (256 : Nat) ^ (i % 8) = 2 ^ (8 * (i % 8)) := by rw [Nat.pow_mul]
  refine ⟨by rw [← hp]; exact h1, ?_, ?_⟩
  · rw [← hp]
    have h2 : (x + 1) * 256 ^ (i % 8) ≤ 256 * 256 ^ (i % 8) := Nat.mul_le_mul_right _ hx
    rw [Nat.add_mul, Nat.one_mul, ← Nat.pow_succ'] at h2
    have h3 : (256 : Nat) ^ (i % 8 + 1) ≤ 256 ^ 8 := Nat.pow_le_pow_right (by omega) (by omega)
    have h4 : (256 : Nat) ^ 8 = 18446744073709551616 := by decide
    omega
  · have h5 := nv_set (l := l) (i := i / 8) (x := x * 2 ^ (8 * (i % 8)) + dg l (i / 8)) hi
    rw [pow256 i, hp]
    rw [Nat.mul_add] at h5
    have : x * (BW ^ (i / 8) * 2 ^ (8 * (i % 8))) = BW ^ (i / 8) * (x * 2 ^ (8 * (i % 8))) := by rw [Nat.mul_left_comm]
    rw [this]
    omega

/-! ofBytes -/
theorem ofBytes_c {w : World} {a : Option Addr} {c : Nat} {buf : List Nat} (hb : Sb w a buf) (hn : buf.length ≤ 72) : CallX P 13 #[.slice a buf.length c] w fun v w' => ∃ l, v = nV l ∧ l.length = 9 ∧ WF l ∧ nv l = bev buf ∧ Fm (fun _ => False) w w' := by
  refine calls_vc mo fn_13 rfl ok_13 (Nat.le_of_ble_eq_true rfl) nm_13 ?_
  (refine vsr ?_)
  obtain ⟨w3, e3, c3, f3, s3⟩ := alN w
  refine ⟨_, w3, e3, ?_⟩
  (repeat refine vcl_v _ rfl rfl ?_); (refine vcl_end ?_)
  (refine vsr ?_)
  refine rnR (bldN0 _) ?_
  obtain ⟨w4, e4, c4, f4, s4⟩ := alN w3
  refine ⟨_, w4, e4, ?_⟩
  obtain ⟨w5, e5, c5, f5, s5⟩ := stN (l := z9) c4 rfl rfl
  refine ⟨w5, e5, ?_⟩
  (repeat refine vcl_v _ rfl rfl ?_); (refine vcl_end ?_)
  have cr : Cn w5 w.heap.size z9 := f5.obj (f4.obj c3 (fun h => h)) (by omega)
  have F5 : Fm (fun _ => False) w w5 := ((f3.trans f4 (fun _ _ h => h)).trans f5 (fun b hb h => by omega))
  refine vcut (by repeat (first | exact moE _ _ _ | exact moEd _ _ _ | apply moB | apply moL | apply moV)) (List Nat) (fun _ => ⟨[(2, .pointer (some ⟨w.heap.size, 0, none⟩)), (3, .pointer (some ⟨w3.heap.size, 0, none⟩))], []⟩) (fun l u => l.length = 9 ∧ WF l ∧ nv l = bev buf ∧ Cn u w3.heap.size l ∧ Fm (· = w3.heap.size) w5 u) ?_ ?_
  · (refine vsr ?_)
    (repeat refine vcl_v _ rfl rfl ?_); (refine vcl_end ?_)
    refine vloop (Nat × List Nat) (fun s => ⟨[(0, .slice a buf.length c), (2, .pointer (some ⟨w.heap.size, 0, none⟩)), (3, .pointer (some ⟨w3.heap.size, 0, none⟩)), (4, .int .i64 (s.1 : Int))], []⟩)
      (fun s u => s.1 ≤ buf.length ∧ s.2.length = 9 ∧ WF s.2 ∧ nv s.2 = bev (buf.drop (buf.length - s.1)) ∧ Cn u w3.heap.size s.2 ∧ Fm (· = w3.heap.size) w5 u) (fun s => buf.length - s.1) (0, z9)
      ⟨⟨rfl, rfl, rfl, rfl, trivial⟩, rfl⟩ ⟨Nat.zero_le _, rfl, wf_z9, by show nv z9 = _; rw [nv_z9, Nat.sub_zero, List.drop_length]; rfl, c5, Fm.refl _ _⟩ ?_
    rintro ⟨i, l⟩ u ⟨hi, hl, hw, he, hcu, hF⟩
    replace hi : i ≤ buf.length := hi
    replace hl : l.length = 9 := hl
    replace hcu : Cn u w3.heap.size l := hcu
    replace hw : WF l := hw
    replace he : nv l = bev (buf.drop (buf.length - i)) := he
    refine ⟨_, _, ln se_22 _ _ _ _ _ _, ?_⟩
    rcases Nat.lt_or_ge i buf.length with h9 | h9
    · refine ⟨_, bLt (by show (i : Int) < (buf.length : Int); omega), ?_⟩
      refine ⟨_, bLt (by show (i : Int) < 72; omega), ?_⟩
      refine ⟨fun _ => ?_, fun hc => (by cases hc)⟩
      (refine sqn ?_)
      refine vsb ?_
      have hne : buf ≠ [] := by intro e; rw [e] at h9; simp at h9
      obtain ⟨b, o, rfl, hr⟩ := hb.rd hne
      have hr5 : Rb w5 b o buf := hr.fm F5 (fun h => h)
      have hbl := hr.lt
      have hru : Rb u b o buf := hr5.fm hF (by have := f3.size; have : w.heap.size < w3.heap.size := by omega
                                               intro e; omega)
      have hx := hru.bf.dg (buf.length - 1 - i)
      have hlt := bev_lt (hru.bf.drop (buf.length - i))
      rw [List.length_drop, show buf.length - (buf.length - i) = i by omega, ← he] at hlt
      have hcons := drop_dg (l := buf) (i := buf.length - 1 - i) (by omega)
      rw [show buf.length - 1 - i + 1 = buf.length - i by omega] at hcons
      have hbv : bev (buf.drop (buf.length - 1 - i)) = dg buf (buf.length - 1 - i) * 256 ^ i + bev (buf.drop (buf.length - i)) := by
        rw [hcons]; simp only [bev]
        rw [List.length_drop, show buf.length - (buf.length - i) = i by omega]
      obtain ⟨q1, q2, q3⟩ := ofB_word (l := l) (i := i) (x := dg buf (buf.length - 1 - i)) (by omega) hlt hx
      refine ⟨.take 0 (.take 1 (.take 2 (.take 3 (.take 4 (.take 5 (.take 6 (.take 7 (.take 8 (.take 9 (.take 10 (.take 11 (.take 12 (.take 13 (.take 14 (.take 15 (.take 16 (.take 17 (.take 18 (.take 19 (.take 20 (.take 21 (.one 22 [] (.done))))))))))))))))))))))), by kernel_rfl, ?_⟩
      refine ⟨_, nQuo i 8 (by omega) (by omega), ?_⟩
      refine ⟨_, nQuo i 8 (by omega) (by omega), ?_⟩
      refine tkA (ix9 (i / 8) (by omega)) ?_
      refine tkC na_33 (Cn.cell (w := u.drew) (i := i / 8) hcu (by omega)) ?_
      refine ⟨_, fun w' => ln se_22 _ _ _ _ _ w', ?_⟩
      refine ⟨_, nSub buf.length 1 (by omega) (by omega), ?_⟩
      refine ⟨_, nSub (buf.length - 1) i (by omega) (by omega), ?_⟩
      refine tkA (ia se_22 _ (by omega)) ?_
      refine tkC na_5 (hru.drew.cell (by omega)) ?_
      generalize dg buf (buf.length - 1 - i) = x at *
      refine tkA (cv cv_5_33 (wrapU_nat (by omega))) ?_
      refine ⟨_, nRem' i 8 (by omega), ?_⟩
      refine tkA (cv cv_3_60 (wrapU_nat (by omega))) ?_
      refine ⟨_, wMul' (x := 8) (y := i % 8) (by omega), ?_⟩
      refine ⟨_, wShl x (8 * (i % 8)) _ (by omega), ?_⟩
      have hm : (x * 2 ^ (8 * (i % 8))) % 18446744073709551616 = x * 2 ^ (8 * (i % 8)) := Nat.mod_eq_of_lt (by omega)
      rw [hm]
      refine ⟨_, wOr _ _ (by omega) (by omega), ?_⟩
      rw [or_add q1]
      refine tkA (ix9 (i / 8) (by omega)) ?_
      obtain ⟨u2, e2, c2, f2, s2⟩ := Cn.st (show Cn u.drew w3.heap.size l from hcu) (show i / 8 < l.length by omega) (x * 2 ^ (8 * (i % 8)) + dg l (i / 8))
      refine ⟨u2, e2, ?_⟩
      refine ⟨trivial, ?_⟩
      refine ⟨_, nAdd i 1 (by omega), ?_⟩
      refine ⟨(i + 1, l.set (i / 8) (x * 2 ^ (8 * (i % 8)) + dg l (i / 8))), ⟨⟨rfl, rfl, rfl, rfl, trivial⟩, rfl⟩, ⟨h9, ?_, ?_, ?_, c2, ?_⟩, by show buf.length - (i + 1) < buf.length - i; omega⟩
      · show (l.set _ _).length = 9
        rw [List.length_set]; exact hl
      · exact hw.set _ (by rw [BW_eq]; omega)
      · show nv (l.set (i / 8) (x * 2 ^ (8 * (i % 8)) + dg l (i / 8))) = bev (buf.drop (buf.length - (i + 1)))
        rw [q3, show buf.length - (i + 1) = buf.length - 1 - i by omega, hbv, he]
      · exact hF.dr.trans f2 (fun b _ h => h)
    · refine ⟨_, bLtF (by show ¬ (i : Int) < (buf.length : Int); omega), ?_⟩
      refine ⟨fun hc => (by cases hc), fun _ => ?_⟩
      refine ⟨l, ⟨⟨rfl, rfl, trivial⟩, rfl⟩, hl, hw, ?_, hcu, hF⟩
      rw [he, show buf.length - i = 0 by omega, List.drop_zero]
  rintro l u ⟨hl, hw, he, hcu, hF⟩
  refine rnR (ldN hcu hl) ?_
  obtain ⟨u2, e2, c2, f2, s2⟩ := stN (hF.obj cr (by omega)) rfl hl
  refine ⟨u2, e2, ?_⟩
  refine ⟨rfl, _, lvN c2 hl, l, rfl, hl, hw, he, (F5.trans hF (fun b hb h => by omega)).trans f2 (fun b hb h => by omega)⟩

/-! toBytes -/
theorem toBytes_c {l : List Nat} (hw : WF l) (hl : l.length = 9) {n : Nat} (hn : n ≤ 72) (w : World) : CallX P 30 #[nV l, .int .i64 (n : Int)] w fun v w' => ∃ b, v = .slice (some ⟨b, 0, none⟩) n n ∧ Bd w' b (beL n (nv l)) ∧ w.heap.size ≤ b ∧ Fm (fun _ => False) w w' := by
  refine calls_vc mo fn_30 rfl ok_30 (Nat.le_of_ble_eq_true rfl) nm_30 ?_
  (refine vsr ?_)
  obtain ⟨w1, e1, c1, f1, s1⟩ := bxN l w
  refine ⟨_, w1, e1, ?_⟩
  (repeat refine vcl_v _ rfl rfl ?_); (refine vcl_end ?_)
  (refine vsr ?_)
  obtain ⟨w2, e2, c2, f2, s2⟩ := mkB n (by omega) w1
  refine ⟨_, w2, e2, ?_⟩
  (repeat refine vcl_v _ rfl rfl ?_); (refine vcl_end ?_)
  have cl : Cn w2 w.heap.size l := f2.obj c1 (fun h => h)
  have F2 : Fm (fun _ => False) w w2 := f1.trans f2 (fun _ _ h => h)
  have hf0 : List.replicate n 0 = fillC n (nv l) 0 := by simp [fillC, beL]
  rw [hf0] at c2
  refine vcut (by repeat (first | exact moE _ _ _ | exact moEd _ _ _ | apply moB | apply moL | apply moV)) Unit (fun _ => ⟨[(5, .slice (some ⟨w1.heap.size, 0, none⟩) n n)], []⟩) (fun _ u => Bd u w1.heap.size (beL n (nv l)) ∧ Fm (· = w1.heap.size) w2 u) ?_ ?_
  · (refine vsr ?_)
    (repeat refine vcl_v _ rfl rfl ?_); (refine vcl_end ?_)
    refine vloop Nat (fun i => ⟨[(1, .int .i64 (n : Int)), (2, .pointer (some ⟨w.heap.size, 0, none⟩)), (5, .slice (some ⟨w1.heap.size, 0, none⟩) n n), (6, .int .i64 (i : Int))], []⟩)
      (fun i u => i ≤ n ∧ Bd u w1.heap.size (fillC n (nv l) i) ∧ Fm (· = w1.heap.size) w2 u) (fun i => n - i) 0
      ⟨⟨rfl, rfl, rfl, rfl, trivial⟩, rfl⟩ ⟨Nat.zero_le _, c2, Fm.refl _ _⟩ ?_
    rintro i u ⟨hi, hB, hF⟩
    rcases Nat.lt_or_ge i n with h9 | h9
    · refine ⟨_, bLt (by show (i : Int) < (n : Int); omega), ?_⟩
      refine ⟨fun _ => ?_, fun hc => (by cases hc)⟩
      have clu : Cn u w.heap.size l := hF.obj cl (by omega)
      have hby := byte_of hw (k := i / 8) (j := i % 8) (by omega) (Nat.mod_lt _ (by omega))
      rw [show 8 * (i / 8) + i % 8 = i by omega] at hby
      have hd := hw.dg (i / 8)
      rw [BW_eq] at hd
      refine ⟨_, nSub n 1 (by omega) (by omega), ?_⟩
      refine ⟨_, nSub (n - 1) i (by omega) (by omega), ?_⟩
      refine ⟨_, nQuo i 8 (by omega) (by omega), ?_⟩
      refine rnA (ix9 (i / 8) (by omega)) ?_
      refine rnC na_33 (Cn.cell (i := i / 8) clu (by omega)) ?_
      refine ⟨_, nRem' i 8 (by omega), ?_⟩
      refine rnA (cv cv_3_60 (wrapU_nat (by omega))) ?_
      refine ⟨_, wMul' (x := 8) (y := i % 8) (by omega), ?_⟩
      refine ⟨_, wShr (dg l (i / 8)) (8 * (i % 8)) _ (by omega), ?_⟩
      have hp : (2 : Nat) ^ (8 * (i % 8)) = 256 ^ (i % 8) := by rw [Nat.pow_mul]
      rw [hp]
      have hcv : IntKind.u8.wrap ((dg l (i / 8) / 256 ^ (i % 8) : Nat) : Int) = ((nv l / 256 ^ i % 256 : Nat) : Int) := by
        rw [← hby, wrapB]
        generalize dg l (i / 8) / 256 ^ (i % 8) = x
        omega
      refine rnA (cv cv_33_5 hcv) ?_
      refine rnA (ia se_22 _ (by omega)) ?_
      rw [Nat.zero_add]
      obtain ⟨u3, e3, hB3, hF3, hs3⟩ := hB.st (i := n - 1 - i) (by rw [fillC_len]; omega) (x := nv l / 256 ^ i % 256) (Nat.mod_lt _ (by omega))
      refine ⟨u3, e3, ?_⟩
      rw [show n - 1 - i = n - i - 1 by omega, fillC_step h9] at hB3
      refine ⟨_, nAdd i 1 (by omega), ?_⟩
      exact ⟨i + 1, ⟨⟨rfl, rfl, rfl, rfl, trivial⟩, rfl⟩, ⟨h9, hB3, hF.trans hF3 (fun _ _ h => h)⟩, by show n - (i + 1) < n - i; omega⟩
    · refine ⟨_, bLtF (by show ¬ (i : Int) < (n : Int); omega), ?_⟩
      refine ⟨fun hc => (by cases hc), fun _ => ?_⟩
      obtain rfl : i = n := by omega
      have he : fillC i (nv l) i = beL i (nv l) := by unfold fillC; simp
      rw [he] at hB
      exact ⟨(), ⟨⟨rfl, trivial⟩, rfl⟩, hB, hF⟩
  rintro _ u ⟨hB, hF⟩
  exact ⟨rfl, w1.heap.size, rfl, hB, by omega, F2.trans hF (fun b hb h => by omega)⟩

end Go.Vc
end
