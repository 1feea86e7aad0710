/- montgomery: the plain laws. No program. -/
import Derived.Test.YthahnloabllniaaGreatDoorM08
section
set_option linter.unusedSimpArgs false
set_option linter.unusedVariables false
namespace Go.Vc

theorem nv_mod {l : List Nat} (h : WF l) : nv l % BW = dg l 0 := by
  cases l with
  | nil => simp [nv, dg]
  | cons x r =>
    simp only [nv]
    rw [Nat.add_mul_mod_self_left, Nat.mod_eq_of_lt h.head]
    simp [dg]

/-- The lowest word goes. -/
theorem mont_zero {A1 A2 M N c3 a0 m0 k t : Nat} (hA : A1 % BW = a0) (hM : M % BW = m0) (ht : t = (a0 * k) % BW) (hk : (m0 * k + 1) % BW = 0) (e : A2 + BW * N * c3 = A1 + M * t) : A2 % BW = 0 := by
  have h1 : A2 % BW = (A1 + M * t) % BW := by
    rw [← e, Nat.mul_assoc, Nat.add_mul_mod_self_left]
  have h2 : (A1 + M * t) % BW = (a0 + m0 * (a0 * k)) % BW := by
    rw [Nat.add_mod, Nat.mul_mod, hA, hM, ht, Nat.mod_mod, Nat.mul_mod_mod, Nat.add_mod_mod]
  have h3 : a0 + m0 * (a0 * k) = a0 * (m0 * k + 1) := by
    rw [Nat.mul_add, Nat.mul_one, Nat.mul_left_comm]; omega
  rw [h1, h2, h3, Nat.mul_mod, hk, Nat.mul_zero, Nat.zero_mod]

theorem mont_carry {c c2 c3 : Nat} (hc : c ≤ 1) (h2 : c2 < 18446744073709551616) (h3 : c3 < 18446744073709551616) :
    ∃ e, e ≤ 1 ∧ (c + c2) % 18446744073709551616 < 18446744073709551616 ∧ ((c + c2) % 18446744073709551616 + c3) % 18446744073709551616 + 18446744073709551616 * e = c + c2 + c3 ∧
      (e = 1 ↔ ((c + c2) % 18446744073709551616 < c2 ∨ ((c + c2) % 18446744073709551616 + c3) % 18446744073709551616 < c3)) := by
  rcases Nat.lt_or_ge (c + c2) 18446744073709551616 with h | h
  · rw [Nat.mod_eq_of_lt h]
    rcases Nat.lt_or_ge (c + c2 + c3) 18446744073709551616 with h4 | h4
    · rw [Nat.mod_eq_of_lt h4]
      exact ⟨0, by omega, by omega, by omega, by omega⟩
    · rw [Nat.mod_eq_sub_mod h4, Nat.mod_eq_of_lt (by omega)]
      exact ⟨1, by omega, by omega, by omega, by omega⟩
  · rw [Nat.mod_eq_sub_mod h, Nat.mod_eq_of_lt (by omega)]
    rw [Nat.mod_eq_of_lt (by omega)]
    exact ⟨1, by omega, by omega, by omega, by omega⟩

/-- One round. -/
theorem mont_step {N c c2 c3 cy e A A1 A2 U' W X d M t : Nat} (e1 : A1 + BW * N * c2 = A + X * d) (e2 : A2 + BW * N * c3 = A1 + M * t) (ec : cy + BW * e = c + c2 + c3) (hW : A2 = BW * W) (hU : U' = W + N * cy + BW * N * e) :
    BW * U' = A + BW * N * c + X * d + M * t := by
  have h1 : BW * U' = A2 + BW * N * (cy + BW * e) := by
    rw [hU, hW, Nat.mul_add, Nat.mul_add, Nat.mul_add]
    rw [← Nat.mul_assoc BW N cy, ← Nat.mul_assoc (BW * N) BW e]
    rw [show BW * (BW * N * e) = BW * N * BW * e by rw [Nat.mul_comm (BW * N) BW, ← Nat.mul_assoc]]
    omega
  rw [h1, ec, Nat.mul_add, Nat.mul_add]
  omega

/-- All rounds. -/
theorem mont_acc {P X Y M Q U U' d t : Nat} (h : P * U = X * Y + M * Q) (e : BW * U' = U + X * d + M * t) : P * BW * U' = X * (Y + P * d) + M * (Q + P * t) := by
  rw [Nat.mul_assoc, e, Nat.mul_add, Nat.mul_add, h, Nat.mul_add, Nat.mul_add, Nat.mul_left_comm P X, Nat.mul_left_comm P M]
  omega

theorem mont_bound {P X Y M Q U : Nat} (h : P * U = X * Y + M * Q) (hX : X < P) (hY : Y < P) (hQ : Q < P) : U < P + M := by
  have h0 : 0 < P := by omega
  have h1 : X * Y ≤ P * Y := Nat.mul_le_mul_right _ (Nat.le_of_lt hX)
  have h2 : P * Y < P * P := Nat.mul_lt_mul_of_pos_left hY h0
  have h3 : M * Q ≤ M * P := Nat.mul_le_mul_left _ (Nat.le_of_lt hQ)
  have h4 : P * U < P * (P + M) := by rw [Nat.mul_add, Nat.mul_comm P M]; omega
  exact Nat.lt_of_mul_lt_mul_left h4

/-- What it comes to. -/
theorem mont_end {P X Y M Q U r : Nat} (h : P * U = X * Y + M * Q) (hr : r = U ∨ r + M = U) : (P * r) % M = (X * Y) % M := by
  rcases hr with rfl | rfl
  · rw [h, Nat.add_mul_mod_self_left]
  · have h1 : (P * (r + M)) % M = (P * r) % M := by
      rw [Nat.mul_add, Nat.add_mul_mod_self_right]
    rw [← h1, h, Nat.add_mul_mod_self_left]

end Go.Vc
end

section
/- montgomery: the walk. -/
set_option linter.unusedSimpArgs false
set_option linter.unusedVariables false
set_option maxRecDepth 8000
set_option maxHeartbeats 2000000
namespace Go.Vc
open Go.Proofs

theorem window_next {F A : List Nat} {i n cy : Nat} (hF : i + n < F.length) (hA : A.length = n) (hn : 0 < n) : (((splice F i A).set (i + n) cy).drop (i + 1)).take n = A.drop 1 ++ [cy] := by
  have e := splice_snoc (Z := F) (o := i) (l := A) (by omega) cy
  rw [hA] at e
  rw [e]
  have h2 := splice_mid (Z := F) (o := i) (l := A ++ [cy]) (by simp; omega)
  rw [List.length_append, hA] at h2
  have h3 : ((A ++ [cy]).drop 1) = A.drop 1 ++ [cy] := by
    cases A with
    | nil => simp at hA; omega
    | cons x r => simp
  have h4 := congrArg (List.drop 1) h2
  rw [List.drop_take, List.drop_drop, h3, List.length_singleton, Nat.add_sub_cancel] at h4
  exact h4

theorem mont0 (N X M : Nat) : BW ^ 0 * (0 + N * 0) = X * nv [] + M * 0 := by simp [nv]

theorem montgomery_c {w : World} {z : Value} {d : Option Nat} {l0 : List Nat} (hz : Own w z d l0) {bx cx by_ cy bm cm n k : Nat} {xs ys ms : List Nat} (hx : Rd w bx 0 xs) (hy : Rd w by_ 0 ys) (hm : Rd w bm 0 ms)
    (lx : xs.length = n) (ly : ys.length = n) (lm : ms.length = n) (hn : 0 < n) (hn2 : n ≤ 100) (hk : (dg ms 0 * k + 1) % BW = 0) (nx : d ≠ some bx) (ny : d ≠ some by_) (nm : d ≠ some bm) :
    CallX P 152 #[z, .slice (some ⟨bx, 0, none⟩) n cx, .slice (some ⟨by_, 0, none⟩) n cy, .slice (some ⟨bm, 0, none⟩) n cm, vw k, .int .i64 (n : Int)] w fun v w' =>
      ∃ zb rs c, v = .slice (some ⟨zb, 0, none⟩) n c ∧ Own w' v (some zb) rs ∧ rs.length = n ∧ (BW ^ n * nv rs) % nv ms = (nv xs * nv ys) % nv ms ∧ (d = some zb ∨ w.heap.size ≤ zb) ∧ Fd d w w' := by
  refine calls_vc mo fn_152 rfl ok_152 (Nat.le_of_ble_eq_true rfl) nm_152 ?_
  refine ⟨_, _, ln se_54 _ _ _ _ _ _, ?_⟩
  refine ⟨_, bNeF rfl, ?_⟩
  refine ⟨_, _, ln se_54 _ _ _ _ _ _, ?_⟩
  refine ⟨_, bNeF rfl, ?_⟩
  refine ⟨_, _, ln se_54 _ _ _ _ _ _, ?_⟩
  refine ⟨_, bNeF rfl, ?_⟩
  refine ⟨fun hc => (by cases hc), fun _ => ?_⟩
  refine ⟨_, nMul n 2 (by omega), ?_⟩
  refine (make_c hz (n := n * 2) (by omega) (by omega)).mono ?_
  rintro v w1 ⟨zb, full, hM⟩
  have hvv := hM.v
  subst hvv
  have hfn := hM.nl
  have hfc := hM.c
  have nbx : zb ≠ bx := fun e => by
    subst e
    rcases hM.nd with h | h
    · exact nx h
    · have := hx.lt; omega
  have nby : zb ≠ by_ := fun e => by
    subst e
    rcases hM.nd with h | h
    · exact ny h
    · have := hy.lt; omega
  have nbm : zb ≠ bm := fun e => by
    subst e
    rcases hM.nd with h | h
    · exact nm h
    · have := hm.lt; omega
  have hx1 := hx.fm0 hM.fm
  have hy1 := hy.fm0 hM.fm
  have hm1 := hm.fm0 hM.fm
  obtain ⟨v, w2, e2, hW2, hF2, hs2⟩ := clr se_54 (by kernel_rfl) hM.wd (oz := 0) (n := n * 2) (c := full.length) (by omega) _ _
  refine ⟨_, w2, e2, ?_⟩
  (repeat refine vcl_v _ rfl rfl ?_); (refine vcl_end ?_)
  (refine vsr ?_)
  (repeat refine vcl_v _ rfl rfl ?_); (refine vcl_end ?_)
  refine vcut (by repeat (first | exact moE _ _ _ | exact moEd _ _ _ | apply moB | apply moL | apply moV)) (List Nat × List Nat × Nat) (fun p => ⟨(13, vw p.2.2) :: [(0, .slice (some ⟨zb, 0, none⟩) (n * 2) full.length), (1, .slice (some ⟨bx, 0, none⟩) n cx), (2, .slice (some ⟨by_, 0, none⟩) n cy), (3, .slice (some ⟨bm, 0, none⟩) n cm), (4, vw k), (5, .int .i64 (n : Int))], []⟩)
    (fun p u => Wd u zb p.1 ∧ p.1.length = full.length ∧ p.2.1.length = n ∧ (p.1.drop n).take n = p.2.1 ∧ p.2.2 ≤ 1 ∧ Fm (· = zb) w1 u ∧ ∃ Q, Q < BW ^ n ∧ BW ^ n * (nv p.2.1 + BW ^ n * p.2.2) = nv xs * nv ys + nv ms * Q) ?_ ?_
  · (refine vsr ?_)
    (repeat refine vcl_v _ rfl rfl ?_); (refine vcl_end ?_)
    have hcell : splice full 0 (List.replicate (n * 2) 0) = splice full 0 (List.replicate n 0 ++ List.replicate n 0) := by rw [List.replicate_append_replicate, Nat.mul_two]
    have hl0 : (splice full 0 (List.replicate (n * 2) 0)).length = full.length := splice_len (by simp; omega)
    have hw0 : ((splice full 0 (List.replicate (n * 2) 0)).drop 0).take n = List.replicate n 0 := by
      have h := splice_mid (Z := full) (o := 0) (l := List.replicate (n * 2) 0) (by simp; omega)
      rw [List.length_replicate] at h
      have h2 := congrArg (List.take n) h
      rw [List.take_take, Nat.min_eq_left (by omega), List.take_replicate, Nat.min_eq_left (by omega)] at h2
      exact h2
    refine vloop (Nat × List Nat × List Nat × Nat) (fun p => ⟨(14, .int .i64 (p.1 : Int)) :: (13, vw p.2.2.2) :: [(0, .slice (some ⟨zb, 0, none⟩) (n * 2) full.length), (1, .slice (some ⟨bx, 0, none⟩) n cx), (2, .slice (some ⟨by_, 0, none⟩) n cy), (3, .slice (some ⟨bm, 0, none⟩) n cm), (4, vw k), (5, .int .i64 (n : Int))], []⟩)
      (fun p u => p.1 ≤ n ∧ Wd u zb p.2.1 ∧ p.2.1.length = full.length ∧ p.2.2.1.length = n ∧ (p.2.1.drop p.1).take n = p.2.2.1 ∧ p.2.2.2 ≤ 1 ∧ Fm (· = zb) w1 u ∧ ∃ Q, Q < BW ^ p.1 ∧ BW ^ p.1 * (nv p.2.2.1 + BW ^ n * p.2.2.2) = nv xs * nv (ys.take p.1) + nv ms * Q) (fun p => n - p.1)
      (0, splice full 0 (List.replicate (n * 2) 0), List.replicate n 0, 0) ⟨⟨rfl, rfl, rfl, rfl, rfl, rfl, rfl, rfl, trivial⟩, rfl⟩ ⟨Nat.zero_le _, hW2, hl0, by simp, hw0, Nat.zero_le _, hF2, 0, by rw [Nat.pow_zero]; omega, by rw [nv_replicate_zero, List.take_zero]; exact mont0 _ _ _⟩ ?_
    rintro ⟨i, F, ws, c⟩ u ⟨hi, hW, hFl, hwl, hwd, hc1, hF, Q, hQ, hval⟩
    dsimp only at hi hW hFl hwl hwd hc1 hQ hval ⊢
    rcases Nat.eq_or_lt_of_le hi with hin | hin
    · refine ⟨_, bLtF (by omega), ?_⟩
      refine ⟨fun hc => (by cases hc), fun _ => ?_⟩
      subst hin
      rw [List.take_of_length_le (by omega)] at hval
      exact ⟨(F, ws, c), ⟨⟨rfl, rfl, rfl, rfl, rfl, rfl, rfl, trivial⟩, rfl⟩, hW, hFl, hwl, hwd, hc1, hF, Q, hQ, hval⟩
    refine ⟨_, bLt (by omega), ?_⟩
    refine ⟨fun _ => ?_, fun hc => (by cases hc)⟩
    (refine sqn ?_)
    (refine vsb ?_)
    (refine vsr ?_)
    have hFx : Rd u bx 0 xs := hx1.fm hF (fun e => nbx e.symm)
    have hFy : Rd u by_ 0 ys := hy1.fm hF (fun e => nby e.symm)
    have hFm : Rd u bm 0 ms := hm1.fm hF (fun e => nbm e.symm)
    refine rnA (ia se_54 _ hin) ?_
    refine rnC na_101 (hFy.cell (by omega)) ?_
    (repeat refine vcl_v _ rfl rfl ?_); (refine vcl_end ?_)
    have hyB := hy.wf.dg i
    have hpn : BW ^ n = BW * BW ^ (n - 1) := by
      rw [Nat.mul_comm, ← Nat.pow_succ]; congr 1; omega
    have hRw : Rd u zb (0 + i) ws := ⟨F, hW, by omega, by rw [Nat.zero_add, hwl]; exact hwd⟩
    have hsucc := nv_take_succ (l := ys) (i := i) (by omega)
    generalize hde : dg ys i = dd at *
    have ca := addMulVVWW_c (cz := full.length - i) (cx := full.length - i) (cy := cx) hW.drew hRw.drew hFx.drew (by omega) hyB BW_pos (oz := 0 + i) (by omega) (fun _ => .inl (Nat.le_refl _)) (fun e => absurd e.symm nbx) (by omega)
    rw [hwl, lx] at ca
    refine ⟨.take 0 (.take 1 (.take 2 (.take 3 (.take 4 (.take 5 (.take 6 (.take 7 (.take 8 (.take 9 (.take 10 (.take 11 (.take 12 (.take 13 (.one 14 [] (.take 15 (.done)))))))))))))))), by kernel_rfl, ?_⟩
    refine ⟨_, nAdd n i (by omega), ?_⟩
    refine tkA (sl se_54 _ _ (by omega) (by omega)) ?_
    refine ⟨_, nAdd n i (by omega), ?_⟩
    refine tkA (sl se_54 _ _ (by omega) (by omega)) ?_
    rw [subA_some (by omega), Nat.add_sub_cancel]
    refine ca.mono ?_
    rintro v u1 ⟨A1, c2, rfl, hc2, hA1, hW1, hv1, hF1, hs1⟩
    refine ⟨trivial, ?_⟩
    have hF1' : Fm (· = zb) u u1 := hF1.drew'
    have hR1 : Rd u1 zb (0 + i) A1 := rd_spliced hW1 (by omega)
    (repeat refine vcp_v _ rfl rfl rfl ?_); (refine vcp_end ?_)
    (refine vsr ?_)
    refine rnA (ia se_54 _ (by omega)) ?_
    refine rnC na_101 (hR1.cell (i := 0) (by omega)) ?_
    refine ⟨_, wMul _ _, ?_⟩
    have htB : (dg A1 0 * k) % 18446744073709551616 < BW := Nat.mod_lt _ (by omega)
    generalize ht : (dg A1 0 * k) % 18446744073709551616 = t at *
    have hFm1 : Rd u1 bm 0 ms := hFm.fm hF1' (fun e => nbm e.symm)
    have lF1 : (splice F (0 + i) A1).length = F.length := splice_len (by omega)
    have cb := addMulVVWW_c (cz := full.length - i) (cx := full.length - i) (cy := cm) hW1.drew hR1.drew hFm1.drew (by omega) htB BW_pos (oz := 0 + i) (by omega) (fun _ => .inl (Nat.le_refl _)) (fun e => absurd e.symm nbm) (by omega)
    rw [hA1, lm] at cb
    (repeat refine vcl_v _ rfl rfl ?_); (refine vcl_end ?_)
    refine ⟨.take 0 (.take 1 (.take 2 (.take 3 (.take 4 (.take 5 (.take 6 (.take 7 (.take 8 (.take 9 (.take 10 (.take 11 (.take 12 (.take 13 (.one 14 [] (.take 15 (.done)))))))))))))))), by kernel_rfl, ?_⟩
    refine ⟨_, nAdd n i (by omega), ?_⟩
    refine tkA (sl se_54 _ _ (by omega) (by omega)) ?_
    refine ⟨_, nAdd n i (by omega), ?_⟩
    refine tkA (sl se_54 _ _ (by omega) (by omega)) ?_
    rw [subA_some (by omega), Nat.add_sub_cancel]
    refine cb.mono ?_
    rintro v u2 ⟨A2, c3, rfl, hc3, hA2, hW2', hv2, hF2', hs2'⟩
    refine ⟨trivial, ?_⟩
    rw [splice_twice (by omega) (by omega)] at hW2'
    have hF2'' : Fm (· = zb) u1 u2 := hF2'.drew'
    (repeat refine vcp_v _ rfl rfl rfl ?_); (refine vcp_end ?_)
    (refine vsr ?_)
    refine ⟨_, wAdd _ _, ?_⟩
    (repeat refine vcl_v _ rfl rfl ?_); (refine vcl_end ?_)
    (refine vsr ?_)
    refine ⟨_, wAdd _ _, ?_⟩
    (repeat refine vcl_v _ rfl rfl ?_); (refine vcl_end ?_)
    (refine vsr ?_)
    refine ⟨_, nAdd n i (by omega), ?_⟩
    refine rnA (ia se_54 _ (by omega)) ?_
    obtain ⟨e, he, hcx, hsum, hiff⟩ := mont_carry hc1 hc2 hc3
    generalize hcxe : (c + c2) % 18446744073709551616 = cx1 at *
    have hcyB : (cx1 + c3) % 18446744073709551616 < BW := Nat.mod_lt _ (by omega)
    generalize hcye : (cx1 + c3) % 18446744073709551616 = cy1 at *
    have lF2 : (splice F (0 + i) A2).length = F.length := splice_len (by omega)
    obtain ⟨u3, e3, hW3, hF3, hs3⟩ := hW2'.st (i := 0 + (n + i)) (by rw [lF2]; omega) hcyB
    refine ⟨u3, e3, ?_⟩
    rw [Nat.zero_add, Nat.zero_add, Nat.add_comm n i] at hW3
    rw [Nat.zero_add] at lF2
    -- the round's sum
    have hR2 : Rd u2 zb (0 + i) A2 := rd_spliced hW2' (by omega)
    have wf2 := hR2.wf
    have wf1 := hR1.wf
    rw [Nat.add_zero, hpn] at hv1 hv2
    have hz2 : nv A2 % BW = 0 := mont_zero (nv_mod wf1) (nv_mod hm.wf) (k := k) ht.symm hk hv2
    have hd2 : nv A2 = BW * nv (A2.drop 1) := by
      rw [nv_mod wf2] at hz2
      have := drop_dg (l := A2) (i := 0) (by omega)
      rw [List.drop_zero, hz2] at this
      conv => lhs; rw [this]
      simp only [nv, Nat.zero_add]
    have hlW : (A2.drop 1 ++ [cy1]).length = n := by rw [List.length_append, List.length_drop]; simp only [List.length_cons, List.length_nil]; omega
    have hvW : nv (A2.drop 1 ++ [cy1]) = nv (A2.drop 1) + BW ^ (n - 1) * cy1 := by
      rw [nv_append, List.length_drop, hA2]; simp only [nv, Nat.mul_zero, Nat.add_zero]
    have hU : BW * (nv (A2.drop 1 ++ [cy1]) + BW ^ n * e) = nv ws + BW ^ n * c + nv xs * dd + nv ms * t := by
      rw [hpn]
      exact mont_step hv1 hv2 hsum hd2 (by rw [hvW])
    have hacc := mont_acc hval hU
    rw [← hsucc, ← Nat.pow_succ] at hacc
    have hQ' : Q + BW ^ i * t < BW ^ (i + 1) := by
      have h1 : BW ^ i * (t + 1) ≤ BW ^ i * BW := Nat.mul_le_mul_left _ htB
      rw [Nat.mul_add, Nat.mul_one] at h1
      rw [Nat.pow_succ]
      exact Nat.lt_of_lt_of_le (by omega) h1
    have hwn := window_next (F := F) (A := A2) (i := i) (n := n) (cy := cy1) (by omega) hA2 hn
    have hlF3 : ((splice F i A2).set (i + n) cy1).length = full.length := by rw [List.length_set, lF2]; exact hFl
    have hFF : Fm (· = zb) w1 u3 := ((hF.trans hF1' (fun _ _ h => h)).trans hF2'' (fun _ _ h => h)).trans hF3 (fun _ _ h => h)
    have fin : ∀ K' w', SubF ⟨(14, .int .i64 ((i + 1 : Nat) : Int)) :: (13, vw e) :: [(0, .slice (some ⟨zb, 0, none⟩) (n * 2) full.length), (1, .slice (some ⟨bx, 0, none⟩) n cx), (2, .slice (some ⟨by_, 0, none⟩) n cy), (3, .slice (some ⟨bm, 0, none⟩) n cm), (4, vw k), (5, .int .i64 (n : Int))], []⟩ K' → w' = u3 → ∃ y : Nat × List Nat × List Nat × Nat, SubF ⟨(14, .int .i64 (y.1 : Int)) :: (13, vw y.2.2.2) :: [(0, .slice (some ⟨zb, 0, none⟩) (n * 2) full.length), (1, .slice (some ⟨bx, 0, none⟩) n cx), (2, .slice (some ⟨by_, 0, none⟩) n cy), (3, .slice (some ⟨bm, 0, none⟩) n cm), (4, vw k), (5, .int .i64 (n : Int))], []⟩ K' ∧ (y.1 ≤ n ∧ Wd w' zb y.2.1 ∧ y.2.1.length = full.length ∧ y.2.2.1.length = n ∧ (y.2.1.drop y.1).take n = y.2.2.1 ∧ y.2.2.2 ≤ 1 ∧ Fm (· = zb) w1 w' ∧ ∃ Q, Q < BW ^ y.1 ∧ BW ^ y.1 * (nv y.2.2.1 + BW ^ n * y.2.2.2) = nv xs * nv (ys.take y.1) + nv ms * Q) ∧ n - y.1 < n - i := by
      rintro K' w' hs rfl
      exact ⟨(i + 1, _, _, e), hs, ⟨hin, hW3, hlF3, hlW, hwn, he, hFF, _, hQ', hacc⟩, by show n - (i + 1) < n - i; omega⟩
    clear hacc hQ' hU hvW hd2 hz2 hv1 hv2 hval hQ hpn hsucc
    rcases Nat.lt_or_ge cx1 c2 with h1 | h1
    · have he1 : e = 1 := hiff.2 (.inl h1)
      refine ⟨_, bLt (by omega), ?_⟩
      refine ⟨fun _ => ?_, fun hc => (by cases hc)⟩
      refine ⟨_, nAdd i 1 (by omega), ?_⟩
      refine fin _ _ ⟨⟨rfl, ?_, rfl, rfl, rfl, rfl, rfl, rfl, trivial⟩, rfl⟩ rfl
      rw [he1]; rfl
    · refine ⟨_, bLtF (by omega), ?_⟩
      rcases Nat.lt_or_ge cy1 c3 with h2 | h2
      · have he1 : e = 1 := hiff.2 (.inr h2)
        refine ⟨_, bLt (by omega), ?_⟩
        refine ⟨fun _ => ?_, fun hc => (by cases hc)⟩
        refine ⟨_, nAdd i 1 (by omega), ?_⟩
        refine fin _ _ ⟨⟨rfl, ?_, rfl, rfl, rfl, rfl, rfl, rfl, trivial⟩, rfl⟩ rfl
        rw [he1]; rfl
      · have he0 : e = 0 := by
          rcases Nat.eq_or_lt_of_le he with h3 | h3
          · have := hiff.1 h3; omega
          · omega
        refine ⟨_, bLtF (by omega), ?_⟩
        refine ⟨fun hc => (by cases hc), fun _ => ?_⟩
        refine ⟨_, nAdd i 1 (by omega), ?_⟩
        refine fin _ _ ⟨⟨rfl, ?_, rfl, rfl, rfl, rfl, rfl, rfl, trivial⟩, rfl⟩ rfl
        rw [he0]; rfl
  rintro ⟨F, ws, c⟩ u ⟨hW, hFl, hwl, hwd, hc1, hF, Q, hQ, hval⟩
  dsimp only at hW hFl hwl hwd hc1 hval ⊢
  have hFm' : Rd u bm 0 ms := hm1.fm hF (fun e => nbm e.symm)
  have hRw : Rd u zb (0 + n) ws := ⟨F, hW, by omega, by rw [Nat.zero_add, hwl]; exact hwd⟩
  have hXB := nv_lt hx.wf
  have hYB := nv_lt hy.wf
  rw [lx] at hXB
  rw [ly] at hYB
  have hbd := mont_bound hval hXB hYB hQ
  have fin : ∀ (rs : List Nat) (u' : World), rs.length = n → Wd u' zb (splice F 0 rs) → Fm (· = zb) u u' → (nv rs = nv ws + BW ^ n * c ∨ nv rs + nv ms = nv ws + BW ^ n * c) →
      ∃ zb_1 rs c, (.slice (some ⟨zb, 0, none⟩) n full.length : Value) = .slice (some ⟨zb_1, 0, none⟩) n c ∧ Own u' (.slice (some ⟨zb, 0, none⟩) n full.length) (some zb_1) rs ∧ rs.length = n ∧ (BW ^ n * nv rs) % nv ms = (nv xs * nv ys) % nv ms ∧ (d = some zb_1 ∨ w.heap.size ≤ zb_1) ∧ Fd d w u' := by
    intro rs u' hl hW' hF' hr
    have hlen : (splice F 0 rs).length = full.length := by rw [splice_len (by omega)]; exact hFl
    have ht : (splice F 0 rs).take n = rs := by
      have := splice_mid (Z := F) (o := 0) (l := rs) (by omega)
      rwa [List.drop_zero, hl] at this
    have ho := Own.mk' hW' (n := n) (by rw [hlen]; omega) (by rw [hlen]; exact ⟨hfc.1, by omega⟩)
    rw [hlen, ht] at ho
    exact ⟨zb, rs, _, rfl, ho, hl, mont_end hval hr, hM.nd, hM.fd (hF.trans hF' (fun _ _ h => h))⟩
  rcases Nat.eq_or_lt_of_le hc1 with h1 | h0
  · subst h1
    refine ⟨_, bNe (by omega), ?_⟩
    refine ⟨fun _ => ?_, fun hc => (by cases hc)⟩
    have ca := subVV_c (cz := full.length) (cx := full.length - n) (cy := cm) hW.drew hRw.drew hFm'.drew (by omega) (oz := 0) (by omega) (fun _ => .inl (by omega)) (fun e => absurd e.symm nbm) (by omega)
    rw [hwl, lm] at ca
    refine ⟨.take 0 (.take 1 (.take 2 (.take 3 (.take 4 (.take 5 (.take 6 (.one 7 [] (.done)))))))), by kernel_rfl, ?_⟩
    refine tkA (slHi se_54 _ (by omega)) ?_
    refine tkA (slLo se_54 _ (by omega)) ?_
    rw [subA_some (by omega), show n * 2 - n = n by omega]
    refine ca.mono ?_
    rintro v u1 ⟨rs, b1, rfl, hb1, hrl, hW1, hv1, hF1, hs1⟩
    refine ⟨trivial, ?_⟩
    refine rnA (slHi se_54 _ (by omega)) ?_
    refine ⟨rfl, fin rs u1 hrl hW1 hF1.drew' (.inr ?_)⟩
    rw [Nat.mul_one] at hbd ⊢
    rcases Nat.eq_or_lt_of_le hb1 with h2 | h2
    · rw [h2, Nat.mul_one] at hv1; exact hv1
    · rw [show b1 = 0 by omega, Nat.mul_zero] at hv1
      omega
  · have hc0 : c = 0 := by omega
    subst hc0
    refine ⟨_, bNeF rfl, ?_⟩
    refine ⟨fun hc => (by cases hc), fun _ => ?_⟩
    refine ⟨.take 0 (.take 1 (.take 2 (.take 3 (.take 4 (.take 5 (.one 6 [] (.done))))))), by kernel_rfl, ?_⟩
    refine tkA (slHi se_54 _ (by omega)) ?_
    refine tkA (slLo se_54 _ (by omega)) ?_
    rw [subA_some (by omega), show n * 2 - n = n by omega]
    obtain ⟨u1, e1, hW1, hF1, hs1⟩ := cpy se_54 (oz := 0) (dn := n) (sn := n) (dc := full.length) (sc := full.length - n) hW.drew hRw.drew (by omega) (by omega) _ _ _
    refine ⟨_, u1, e1, ?_⟩
    refine ⟨trivial, ?_⟩
    refine rnA (slHi se_54 _ (by omega)) ?_
    exact ⟨rfl, fin ws u1 hwl hW1 hF1.drew' (.inl (by rw [Nat.mul_zero, Nat.add_zero]))⟩

end Go.Vc
end

section
/- expNNMontgomery: the plain laws, and arrays. -/
set_option linter.unusedSimpArgs false
set_option linter.unusedVariables false
set_option maxRecDepth 8000
namespace Go.Vc
open Go.Proofs

/-- The address of an array's element. -/
theorem ixA {t e n : Nat} (hu : P.underlying t = some (.array n e)) (hs : szOf e = some 1) {b o i : Nat} (k : IntKind) (hi : i < n) (w : World) :
    (Instr.indexAt t (.pointer (some ⟨b, o, none⟩)) (.int k (i : Int))).run P w = .ok (.pointer (some ⟨b, o + i, none⟩)) w := by
  simp only [Instr.indexAt, asIntOf, Sem.run_bind, run_und hu, pure, Sem.run, Result.andThen_ok, Instr.sureAddr]
  rw [if_pos ⟨by omega, by omega⟩]
  simp [Sem.run_bind, sizeOf_run hs, Sem.run, addr_add]

theorem ar_pow : P.underlying 199 = some (.array 16 54) := by kernel_rfl

/-! ### Numbers in Montgomery's form -/

theorem mod_cancel {R M u v : Nat} (h : Nat.Coprime R M) (e : (R * u) % M = (R * v) % M) : u % M = v % M := by
  have go : ∀ {a b : Nat}, a ≤ b → (R * a) % M = (R * b) % M → a % M = b % M := by
    intro a b hab hh
    have h1 := Nat.sub_mod_eq_zero_of_mod_eq hh.symm
    rw [← Nat.mul_sub] at h1
    have h2 : M ∣ (b - a) := (h.symm).dvd_of_dvd_mul_left (Nat.dvd_of_mod_eq_zero h1)
    obtain ⟨c, hc⟩ := h2
    have : b = a + M * c := by omega
    rw [this, Nat.add_mul_mod_self_left]
  rcases Nat.le_total u v with h1 | h1
  · exact go h1 e
  · exact (go h1 e.symm).symm

/-- a stands for A. -/
def Mf (R M a A : Nat) : Prop := a % M = (A * R) % M

theorem Mf.mul {R M a b A B r : Nat} (hc : Nat.Coprime R M) (ha : Mf R M a A) (hb : Mf R M b B) (h : (R * r) % M = (a * b) % M) : Mf R M r (A * B) := by
  refine mod_cancel hc ?_
  rw [h, Nat.mul_mod, ha, hb, ← Nat.mul_mod]
  congr 1
  rw [Nat.mul_comm R, Nat.mul_mul_mul_comm, ← Nat.mul_assoc]

/-- Into the form, by the square of R. -/
theorem Mf.enter {R M x a s r : Nat} (hc : Nat.Coprime R M) (ha : a % M = x % M) (hs : s % M = (R * R) % M) (h : (R * r) % M = (a * s) % M) : Mf R M r x := by
  refine mod_cancel hc ?_
  rw [h, Nat.mul_mod, ha, hs, ← Nat.mul_mod]
  congr 1
  rw [Nat.mul_comm R (x * R), Nat.mul_assoc]

/-- Out of the form, by one. -/
theorem Mf.leave {R M a A r : Nat} (hc : Nat.Coprime R M) (ha : Mf R M a A) (h : (R * r) % M = (a * 1) % M) : r % M = A % M := by
  refine mod_cancel hc ?_
  rw [h, Nat.mul_one, ha, Nat.mul_comm]

theorem Mf.pow {R M a A x E F : Nat} (h : Mf R M a (x ^ E * x ^ F)) : Mf R M a (x ^ (E + F)) := by rw [Nat.pow_add]; exact h

theorem odd_cop {M : Nat} (h : M % 2 = 1) (n : Nat) : Nat.Coprime (BW ^ n) M := by
  refine Nat.Coprime.pow_left n ?_
  rw [BW_two]
  refine Nat.Coprime.pow_left 64 ?_
  have : Nat.gcd 2 M = 1 := by
    rw [Nat.gcd_rec, h]; rfl
  exact this

end Go.Vc
end

section
/- The inverse of an odd word, by Newton's rounds: the plain laws. -/
set_option linter.unusedSimpArgs false
set_option linter.unusedVariables false
namespace Go.Vc

theorem k_start {t k a : Nat} (h : k + t = 1 + BW * a) : (k * (t + 1) + t * t) % BW = 1 := by
  have e : k * (t + 1) + t * t = 1 + BW * (a + a * t) := by
    have h1 : (k + t) * t = (1 + BW * a) * t := by rw [h]
    rw [Nat.add_mul, Nat.add_mul, Nat.one_mul, Nat.mul_assoc] at h1
    rw [Nat.mul_add, Nat.mul_one, Nat.mul_add]
    omega
  rw [e, Nat.add_mul_mod_self_left]
  rfl

theorem k_round {k m t t' k' : Nat} (h : (k * m + t * t) % BW = 1) (ht : t' = (t * t) % BW) (hk : k' = (k * ((t' + 1) % BW)) % BW) : (k' * m + t' * t') % BW = 1 := by
  have e0 := Nat.div_add_mod (k * m + t * t) BW
  rw [h] at e0
  have e1 := Nat.div_add_mod (t * t) BW
  rw [← ht] at e1
  have e2 : (k * (t' + 1)) * m + t' * t' + BW * ((t * t / BW) * (t' + 1)) = 1 + BW * ((k * m + t * t) / BW * (t' + 1)) := by
    have h1 : (BW * ((k * m + t * t) / BW) + 1) * (t' + 1) = (k * m + (BW * (t * t / BW) + t')) * (t' + 1) := by rw [e0, e1]
    rw [Nat.add_mul, Nat.add_mul (k * m), Nat.add_mul (BW * (t * t / BW)), Nat.mul_assoc, Nat.mul_assoc BW] at h1
    have h2 : k * (t' + 1) * m = k * m * (t' + 1) := by rw [Nat.mul_assoc, Nat.mul_assoc, Nat.mul_comm m]
    have h3 : t' * (t' + 1) = t' * t' + t' := by rw [Nat.mul_add, Nat.mul_one]
    rw [h2]
    rw [h3, Nat.one_mul] at h1
    omega
  have e3 : ((k * (t' + 1)) * m + t' * t') % BW = 1 := by
    have := congrArg (· % BW) e2
    simp only [Nat.add_mul_mod_self_left] at this
    rw [this]; rfl
  rw [← e3, hk, Nat.add_mod, Nat.mul_mod, Nat.mod_mod, Nat.mul_mod k, Nat.mod_mod, ← Nat.mul_mod k, ← Nat.mul_mod, ← Nat.add_mod]

theorem k_end {k m t kf c : Nat} (h : (k * m + t * t) % BW = 1) (ht : t = 0) (hkf : kf + k = BW * c) : (m * kf + 1) % BW = 0 := by
  rw [ht, Nat.mul_zero, Nat.add_zero] at h
  have e0 := Nat.div_add_mod (k * m) BW
  rw [h] at e0
  have h1 : m * (kf + k) = m * (BW * c) := by rw [hkf]
  rw [Nat.mul_add, Nat.mul_comm m k, ← e0, Nat.mul_left_comm] at h1
  have h2 : m * kf + 1 + BW * (k * m / BW) = BW * (m * c) := by omega
  have h3 := congrArg (· % BW) h2
  simp only [Nat.add_mul_mod_self_left, Nat.mul_mod_right] at h3
  exact h3

/-- The powers of two in t. -/
theorem t_two {t e : Nat} (he : e * 2 ≤ 64) (h : 2 ^ e ∣ t) : 2 ^ (e * 2) ∣ (t * t) % BW := by
  obtain ⟨q, rfl⟩ := h
  have h1 : 2 ^ (e * 2) ∣ 2 ^ e * q * (2 ^ e * q) := ⟨q * q, by rw [Nat.mul_mul_mul_comm, ← Nat.pow_add, Nat.mul_two]⟩
  have h2 : 2 ^ (e * 2) ∣ BW := ⟨2 ^ (64 - e * 2), by rw [BW_two, ← Nat.pow_add]; congr 1; omega⟩
  exact (Nat.dvd_mod_iff h2).2 h1

theorem t_done {t : Nat} (h : 2 ^ 64 ∣ t) (hb : t < BW) : t = 0 := by
  rw [← BW_two] at h
  exact Nat.eq_zero_of_dvd_of_lt h hb

end Go.Vc
end

section
/- expNNMontgomery: one multiplication of its loop. -/
set_option linter.unusedSimpArgs false
set_option linter.unusedVariables false
set_option maxRecDepth 8000
set_option maxHeartbeats 1000000
namespace Go.Vc
open Go.Proofs

theorem Own.rd0 {u : World} {v : Value} {zb : Nat} {rs : List Nat} (h : Own u v (some zb) rs) : Rd u zb 0 rs := by
  obtain ⟨full, _, hw, ht, hl, _⟩ := h
  have := hw.rd 0 rs.length (by omega)
  rwa [List.drop_zero, ht] at this

/-- What stays while the loop runs. -/
structure Kc (w : World) (bs : Nat) (st3 st : Option Sk) (d : Option Nat) (bm by_ s4 s5 pb : Nat) (lm ly one : List Nat) (vals : List Value) (E X n : Nat) (u : World) : Prop where
  kst : St u bs st3
  km : Rd u bm 0 lm
  ky : Rd u by_ 0 ly
  ko : Rd u s4 0 one
  kcl : Cl u pb vals 199
  ks4 : s4 < s5
  kpb : s4 ≤ pb ∧ pb < s5
  kpw : ∀ j, j < 16 → ∃ b c rs, vals[j]? = some (.slice (some ⟨b, 0, none⟩) n c) ∧ Rd u b 0 rs ∧ rs.length = n ∧ Mf E (nv lm) (nv rs) (X ^ j) ∧ s4 ≤ b ∧ b < s5
  kfm : Fm (fun b => d = some b ∨ inSt bs st b) w u
  ksz : s5 ≤ u.heap.size

/-- Where may be written. -/
structure OkB (w : World) (bs : Nat) (st3 : Option Sk) (d : Option Nat) (bm by_ s4 s5 : Nat) (b : Nat) : Prop where
  om : b ≠ bm
  oy : b ≠ by_
  op : b < s4 ∨ s5 ≤ b
  ost : ¬ inSt bs st3 b
  od : b < w.heap.size → d = some b

theorem Kc.fm' {w : World} {bs : Nat} {st3 st : Option Sk} {d : Option Nat} {bm by_ s4 s5 pb : Nat} {lm ly one : List Nat} {vals : List Value} {E X n : Nat} {u u' : World} (h : Kc w bs st3 st d bm by_ s4 s5 pb lm ly one vals E X n u) {q : Nat}
    (hq : OkB w bs st3 d bm by_ s4 s5 q) (f : Fm (fun b => b = q) u u') : Kc w bs st3 st d bm by_ s4 s5 pb lm ly one vals E X n u' := by
  have h4 := h.ks4
  have hp := h.kpb
  have hqp := hq.op
  refine ⟨h.kst.fm f (fun b hb e => hq.ost (by rw [← e]; exact hb)), h.km.fm f (fun e => hq.om e.symm), h.ky.fm f (fun e => hq.oy e.symm), h.ko.fm f (fun e => by omega), f.obj h.kcl (fun e => by omega), h.ks4, h.kpb, fun j hj => ?_, h.kfm.trans f (fun b hb e => .inl (by rw [e]; exact hq.od (by omega))), by have := f.size; have := h.ksz; omega⟩
  obtain ⟨b, c, rs, h1, h2, h3, h5, h6, h7⟩ := h.kpw j hj
  exact ⟨b, c, rs, h1, h2.fm f (fun e => by omega), h3, h5, h6, h7⟩

theorem OkB.new {w u : World} {bs : Nat} {st3 : Option Sk} {d : Option Nat} {bm by_ s4 s5 b : Nat} (hm : bm < u.heap.size) (hy : by_ < u.heap.size) (hs : s5 ≤ u.heap.size) (hst : St u bs st3) (hw : w.heap.size ≤ u.heap.size) (hb : u.heap.size ≤ b) : OkB w bs st3 d bm by_ s4 s5 b :=
  ⟨by omega, by omega, .inr (by omega), fun h => by obtain ⟨cs, T, hc, _⟩ := inSt_cl hst h; have := lt_of_obj hc; omega, fun h => by omega⟩

theorem Kc.new {w : World} {bs : Nat} {st3 st : Option Sk} {d : Option Nat} {bm by_ s4 s5 pb : Nat} {lm ly one : List Nat} {vals : List Value} {E X n : Nat} {u : World} (h : Kc w bs st3 st d bm by_ s4 s5 pb lm ly one vals E X n u) {b : Nat} (hb : u.heap.size ≤ b) : OkB w bs st3 d bm by_ s4 s5 b :=
  OkB.new h.km.lt h.ky.lt h.ksz h.kst h.kfm.size hb

/-- z, which stands for a power, and zz, which is to be written. -/
structure Zs (Ok : Nat → Prop) (E M X n : Nat) (u : World) (bz cz : Nat) (vq : Value) (e : Nat) : Prop where
  all : ∃ rz bq lq, Own u (.slice (some ⟨bz, 0, none⟩) n cz) (some bz) rz ∧ rz.length = n ∧ Mf E M (nv rz) (X ^ e) ∧ Ok bz ∧ Own u vq (some bq) lq ∧ Ok bq ∧ bz ≠ bq


theorem mm_any {w : World} {bs : Nat} {st3 st : Option Sk} {d : Option Nat} {bm by_ s4 s5 pb : Nat} {lm ly one : List Nat} {vals : List Value} {X n : Nat} {u : World} (h : Kc w bs st3 st d bm by_ s4 s5 pb lm ly one vals (BW ^ n) X n u) {bz cz e : Nat} {vq : Value} (hz : Zs (OkB w bs st3 d bm by_ s4 s5) (BW ^ n) (nv lm) X n u bz cz vq e) (hml : lm.length = n) (hn0 : 0 < n) (hn1 : n ≤ 100) (hcop : Nat.Coprime (BW ^ n) (nv lm)) {kf cm : Nat} (hk : (dg lm 0 * kf + 1) % BW = 0) {b2 c2 f : Nat} {r2 : List Nat} (hr : Rd u b2 0 r2) (hl2 : r2.length = n) (hf : Mf (BW ^ n) (nv lm) (nv r2) (X ^ f)) (hne : ∀ bq lq, Own u vq (some bq) lq → OkB w bs st3 d bm by_ s4 s5 bq → bz ≠ bq → bq ≠ b2) :
    CallX P 152 #[vq, .slice (some ⟨bz, 0, none⟩) n cz, .slice (some ⟨b2, 0, none⟩) n c2, .slice (some ⟨bm, 0, none⟩) n cm, vw kf, .int .i64 (n : Int)] u fun v u' =>
      ∃ bz' cz', v = .slice (some ⟨bz', 0, none⟩) n cz' ∧ Kc w bs st3 st d bm by_ s4 s5 pb lm ly one vals (BW ^ n) X n u' ∧ Zs (OkB w bs st3 d bm by_ s4 s5) (BW ^ n) (nv lm) X n u' bz' cz' (.slice (some ⟨bz, 0, none⟩) n cz) (e + f) := by
  obtain ⟨rz, bq, lq, oz, lz, fz, kz, oq, kq, hne2⟩ := hz.all
  refine (montgomery_c oq oz.rd0 hr h.km lz hl2 hml hn0 hn1 hk (fun e => hne2 (by cases e; rfl)) (fun e => hne bq lq oq kq hne2 (by cases e; rfl)) (fun e => kq.om (by cases e; rfl))).mono ?_
  rintro v u' ⟨zb, rs, c, rfl, ho, hl, hv, hnd, hF⟩
  have hF' : Fm (fun b => b = bq) u u' := hF.mono (fun b _ e => by cases e; rfl)
  have okz : OkB w bs st3 d bm by_ s4 s5 zb := by
    rcases hnd with e | e
    · cases e; exact kq
    · exact h.new e
  have hzz : zb ≠ bz := fun e2 => by
    rcases hnd with e | e
    · cases e; exact hne2 e2.symm
    · have := oz.blt; omega
  exact ⟨zb, c, rfl, h.fm' kq hF', ⟨rs, bz, rz, ho, hl, Mf.pow (A := 0) (Mf.mul hcop fz hf hv), okz, oz.fm hF' (fun b e e2 => by cases e; exact hne2 e2), kz, hzz⟩⟩

theorem mm_sq {w : World} {bs : Nat} {st3 st : Option Sk} {d : Option Nat} {bm by_ s4 s5 pb : Nat} {lm ly one : List Nat} {vals : List Value} {X n : Nat} {u : World} (h : Kc w bs st3 st d bm by_ s4 s5 pb lm ly one vals (BW ^ n) X n u) {bz cz e : Nat} {vq : Value} (hz : Zs (OkB w bs st3 d bm by_ s4 s5) (BW ^ n) (nv lm) X n u bz cz vq e) (hml : lm.length = n) (hn0 : 0 < n) (hn1 : n ≤ 100) (hcop : Nat.Coprime (BW ^ n) (nv lm)) {kf cm : Nat} (hk : (dg lm 0 * kf + 1) % BW = 0) :
    CallX P 152 #[vq, .slice (some ⟨bz, 0, none⟩) n cz, .slice (some ⟨bz, 0, none⟩) n cz, .slice (some ⟨bm, 0, none⟩) n cm, vw kf, .int .i64 (n : Int)] u fun v u' =>
      ∃ bz' cz', v = .slice (some ⟨bz', 0, none⟩) n cz' ∧ Kc w bs st3 st d bm by_ s4 s5 pb lm ly one vals (BW ^ n) X n u' ∧ Zs (OkB w bs st3 d bm by_ s4 s5) (BW ^ n) (nv lm) X n u' bz' cz' (.slice (some ⟨bz, 0, none⟩) n cz) (e + e) := by
  obtain ⟨rz, bq, lq, oz, lz, fz, kz, oq, kq, hne2⟩ := hz.all
  exact mm_any h hz hml hn0 hn1 hcop hk oz.rd0 lz fz (fun _ _ _ _ h => fun e => h e.symm)

theorem mm_pw {w : World} {bs : Nat} {st3 st : Option Sk} {d : Option Nat} {bm by_ s4 s5 pb : Nat} {lm ly one : List Nat} {vals : List Value} {X n : Nat} {u : World} (h : Kc w bs st3 st d bm by_ s4 s5 pb lm ly one vals (BW ^ n) X n u) {bz cz e : Nat} {vq : Value} (hz : Zs (OkB w bs st3 d bm by_ s4 s5) (BW ^ n) (nv lm) X n u bz cz vq e) (hml : lm.length = n) (hn0 : 0 < n) (hn1 : n ≤ 100) (hcop : Nat.Coprime (BW ^ n) (nv lm)) {kf cm : Nat} (hk : (dg lm 0 * kf + 1) % BW = 0) {b2 c2 f : Nat} {r2 : List Nat} (hr : Rd u b2 0 r2) (hl2 : r2.length = n) (hf : Mf (BW ^ n) (nv lm) (nv r2) (X ^ f)) (h4 : s4 ≤ b2 ∧ b2 < s5) :
    CallX P 152 #[vq, .slice (some ⟨bz, 0, none⟩) n cz, .slice (some ⟨b2, 0, none⟩) n c2, .slice (some ⟨bm, 0, none⟩) n cm, vw kf, .int .i64 (n : Int)] u fun v u' =>
      ∃ bz' cz', v = .slice (some ⟨bz', 0, none⟩) n cz' ∧ Kc w bs st3 st d bm by_ s4 s5 pb lm ly one vals (BW ^ n) X n u' ∧ Zs (OkB w bs st3 d bm by_ s4 s5) (BW ^ n) (nv lm) X n u' bz' cz' (.slice (some ⟨bz, 0, none⟩) n cz) (e + f) :=
  mm_any h hz hml hn0 hn1 hcop hk hr hl2 hf (fun _ _ _ k _ e => by have := k.op; omega)

/-- A window of the exponent. -/
theorem win_step {r j : Nat} (hj : j ≤ 60) (hr : r < 2 ^ (64 - j)) : r * 2 ^ j / 2 ^ 60 < 16 ∧ ∃ r', r' < 2 ^ (64 - (j + 4)) ∧ (r * 2 ^ j * 2 ^ 4) % 18446744073709551616 = r' * 2 ^ (j + 4) ∧ r = r * 2 ^ j / 2 ^ 60 * 2 ^ (60 - j) + r' := by
  have e1 : (2 : Nat) ^ 60 = 2 ^ (60 - j) * 2 ^ j := by rw [← Nat.pow_add]; congr 1; omega
  have hp : 0 < 2 ^ j := Nat.pow_pos (by omega)
  have e2 : r * 2 ^ j / 2 ^ 60 = r / 2 ^ (60 - j) := by rw [e1, Nat.mul_div_mul_right _ _ hp]
  have e3 : (2 : Nat) ^ (64 - j) = 16 * 2 ^ (60 - j) := by
    rw [show 64 - j = 4 + (60 - j) by omega, Nat.pow_add]
  have hq : 0 < 2 ^ (60 - j) := Nat.pow_pos (by omega)
  have e4 := Nat.div_add_mod r (2 ^ (60 - j))
  have e5 := Nat.mod_lt r hq
  have e6 : (18446744073709551616 : Nat) = 2 ^ (60 - j) * 2 ^ (j + 4) := by
    rw [← Nat.pow_add, show 60 - j + (j + 4) = 64 by omega]
  refine ⟨?_, r % 2 ^ (60 - j), ?_, ?_, ?_⟩
  · rw [e2, Nat.div_lt_iff_lt_mul hq]; omega
  · rw [show 64 - (j + 4) = 60 - j by omega]; exact e5
  · rw [Nat.mul_assoc, ← Nat.pow_add, e6, Nat.mul_mod_mul_right]
  · rw [e2, Nat.mul_comm (r / _)]; exact e4.symm

end Go.Vc
end
