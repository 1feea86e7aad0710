/- byteSize, Params, size, IsIdentity, Group, ZZAffine, pointOf. -/
import Derived.Test.YthahnloabllniaaGreatDoorM22
section
set_option linter.unusedSimpArgs false
set_option linter.unusedVariables false
set_option maxRecDepth 20000
set_option maxHeartbeats 4000000
namespace Go.Vc
open Go.Proofs

def nb (bits : Nat) : Nat := (bits + 7) / 8

theorem byteSize_c {w : World} {c qp qb bits : Nat} {oa : Option Addr} {on oc : Nat} (hCu : Cu w c qp qb bits) (hb : bits < 1000) :
    CallX P 211 #[wgV c (.slice oa on oc)] w fun v w' => v = .int .i64 (nb bits : Int) ∧ Fm (fun _ => False) w w' := by
  refine calls_vc mo fn_211 rfl ok_211 (Nat.le_of_ble_eq_true rfl) nm_211 ?_
  (refine vsr ?_)
  obtain ⟨g1, e1, cg1, fg1, sg1⟩ := bx 73 (v := wgV c (.slice oa on oc)) (cs := [cvV c, .slice oa on oc]) rfl w
  refine ⟨_, g1, e1, ?_⟩
  (repeat refine vcl_v _ rfl rfl ?_); (refine vcl_end ?_)
  (refine vsr ?_)
  refine rnA (fa fo_73_0 _ _) ?_
  refine rnL na_71 cg1 rfl ?_
  refine ⟨_, _, mPar _ _, ?_⟩
  refine (params_c c _).mono ?_
  rintro _ _ ⟨rfl, rfl⟩
  obtain ⟨qn, qx, qy, nm, hcl⟩ := (hCu.fm fg1 (fun h => h)).all
  refine rnA (fa fo_94_5 _ _) ?_
  refine rnL na_3 hcl rfl ?_
  refine ⟨_, nAdd bits 7 (by omega), ?_⟩
  refine ⟨_, nQuo (a := bits + 7) (b := 8) (by omega) (by omega), ?_⟩
  exact ⟨rfl, rfl, fg1⟩

theorem bldP (a b c : Nat) (w : World) : (Instr.build 87 [(0, vw a), (1, vw b), (2, vw c)].toArray).run P w = .ok (.agg #[vw a, vw b, vw c]) w := by kernel_rfl
theorem mPG (c : Nat) (o : Value) (w : World) : (method (P.types.size + Made.depth) 73 (wgV c o) "Params").run P w = .ok (205, wgV c o) w := by kernel_rfl
theorem mII (e : Nat) (w : World) : (method (P.types.size + Made.depth) 78 (pC e) "IsIdentity").run P w = .ok (220, pC e) w := by kernel_rfl
theorem mGr (e : Nat) (w : World) : (method (P.types.size + Made.depth) 78 (pC e) "Group").run P w = .ok (218, pC e) w := by kernel_rfl
theorem asE (v : Value) (w : World) : (Instr.typeAssert (.iface 78 v) 45 78 false).run P w = .ok v w := by kernel_rfl

theorem nb_lt {bits : Nat} (hb : bits < 1000) : nb bits < 1000 := by unfold nb; omega

theorem gParams_c {w : World} {c qp qb bits : Nat} {oa : Option Addr} {on oc : Nat} (hCu : Cu w c qp qb bits) (hb : bits < 1000) :
    CallX P 205 #[wgV c (.slice oa on oc)] w fun v w' => ∃ q a b, v = pC q ∧ Cl w' q [vw a, vw b, vw (nb bits)] 87 ∧ Fm (fun _ => False) w w' := by
  have hn := nb_lt hb
  refine calls_vc mo fn_205 rfl ok_205 (Nat.le_of_ble_eq_true rfl) nm_205 ?_
  (refine vsr ?_)
  obtain ⟨g1, e1, cg1, fg1, sg1⟩ := bx 73 (v := wgV c (.slice oa on oc)) (cs := [cvV c, .slice oa on oc]) rfl w
  refine ⟨_, g1, e1, ?_⟩
  (repeat refine vcl_v _ rfl rfl ?_); (refine vcl_end ?_)
  (refine vsr ?_)
  refine rnR (ldAg (by kernel_rfl) sz_73 cg1 rfl rfl) ?_
  refine (byteSize_c (hCu.fm fg1 (fun h => h)) hb).mono ?_
  rintro _ w2 ⟨rfl, f2⟩
  refine rnA (cv cv_3_60 (wrapU_nat (by omega))) ?_
  (repeat refine vcl_v _ rfl rfl ?_); (refine vcl_end ?_)
  (refine vsr ?_)
  refine ⟨_, wMul' (x := 2) (y := nb bits) (by omega), ?_⟩
  refine ⟨_, wAdd' (x := 1) (y := 2 * nb bits) (by omega), ?_⟩
  refine ⟨_, wAdd' (x := 1) (y := nb bits) (by omega), ?_⟩
  refine rnA (bldP _ _ _) ?_
  obtain ⟨g3, e3, cg3, fg3, sg3⟩ := bx 87 (v := .agg #[vw (1 + 2 * nb bits), vw (1 + nb bits), vw (nb bits)]) (cs := [vw (1 + 2 * nb bits), vw (1 + nb bits), vw (nb bits)]) rfl w2
  refine ⟨_, g3, e3, ?_⟩
  exact ⟨rfl, w2.heap.size, _, _, rfl, cg3, (fg1.trans f2 (fun _ _ h => h)).trans fg3 (fun _ _ h => h)⟩

theorem size_c {w : World} {c qp qb bits : Nat} {oa : Option Addr} {on oc : Nat} (hCu : Cu w c qp qb bits) (hb : bits < 1000) :
    CallX P 24 #[.iface 73 (wgV c (.slice oa on oc))] w fun v w' => v = .int .i64 (nb bits : Int) ∧ Fm (fun _ => False) w w' := by
  have hn := nb_lt hb
  refine calls_vc mo fn_24 rfl ok_24 (Nat.le_of_ble_eq_true rfl) nm_24 ?_
  (refine vsr ?_)
  (repeat refine vcl_v _ rfl rfl ?_); (refine vcl_end ?_)
  (refine vsr ?_)
  refine ⟨_, _, mPG _ _ _, ?_⟩
  refine (gParams_c hCu hb).mono ?_
  rintro _ w2 ⟨q, a, b, rfl, cq, f2⟩
  refine rnA (fa fo_87_2 _ _) ?_
  refine rnL na_60 cq rfl ?_
  refine rnA (cv cv_60_3 (wrap64_in (by omega))) ?_
  exact ⟨rfl, rfl, f2⟩

theorem isId_c {w : World} {K : Nat → Prop} {e px py c : Nat} {o : Value} {x y : Int} (R : Rs w w K [px, py] [zi x, zi y]) (ce : Cl w e [pI px, pI py, cvV c, o] 91) (hid : ¬ (x = 0 ∧ y = 0)) :
    CallX P 220 #[pC e] w fun v w' => w = w' ∧ v = .bool false := by
  refine calls_vc mo fn_220 rfl ok_220 (Nat.le_of_ble_eq_true rfl) nm_220 ?_
  (refine vsr ?_)
  (repeat refine vcl_v _ rfl rfl ?_); (refine vcl_end ?_)
  (refine vsr ?_)
  refine rnA (fa fo_91_0 _ _) ?_
  refine rnL na_52 ce rfl ?_
  refine (signR R (i := 0) (a := x) rfl rfl).mono ?_
  rintro _ _ ⟨rfl, rfl⟩
  refine ⟨_, bSgn x, ?_⟩
  rcases Classical.em (x = 0) with h | h
  · have hy : y ≠ 0 := fun e => hid ⟨h, e⟩
    rw [decide_eq_true h]
    refine rnA (fa fo_91_1 _ _) ?_
    refine rnL na_52 ce rfl ?_
    refine (signR R (i := 1) (a := y) rfl rfl).mono ?_
    rintro _ _ ⟨rfl, rfl⟩
    refine ⟨_, bSgn y, ?_⟩
    rw [decide_eq_false hy]
    exact ⟨rfl, rfl, rfl⟩
  · rw [decide_eq_false h]
    exact ⟨rfl, rfl, rfl⟩

theorem group_c {w : World} {e px py c : Nat} {oa : Option Addr} {on oc : Nat} (ce : Cl w e [pI px, pI py, cvV c, .slice oa on oc] 91) :
    CallX P 218 #[pC e] w fun v w' => w = w' ∧ v = .iface 73 (wgV c (.slice oa on oc)) := by
  refine calls_vc mo fn_218 rfl ok_218 (Nat.le_of_ble_eq_true rfl) nm_218 ?_
  (refine vsr ?_)
  (repeat refine vcl_v _ rfl rfl ?_); (refine vcl_end ?_)
  (refine vsr ?_)
  refine rnA (fa fo_91_2 _ _) ?_
  refine rnR (ldAg (by kernel_rfl) sz_73 ce (ds := [cvV c, .slice oa on oc]) rfl rfl) ?_
  refine rnA (mkIG _ _) ?_
  exact ⟨rfl, rfl, rfl⟩

theorem affine_c {w : World} {K : Nat → Prop} {e px py c : Nat} {o : Value} {x y : Int} (R : Rs w w K [px, py] [zi x, zi y]) (ce : Cl w e [pI px, pI py, cvV c, o] 91) (hKe : K e) (bx : x.natAbs < BW ^ 250) (by_ : y.natAbs < BW ^ 250) :
    CallX P 25 #[.iface 78 (pC e)] w fun v w' => ∃ qx qy, v = .tuple #[pI qx, pI qy] ∧ Rs w w' K [qx, qy] [zi x, zi y] := by
  have keep : ∀ {ps vs w'}, Rs w w' K ps vs → w'.cell? ⟨e, 0 + 0, none⟩ = some (pI px) ∧ w'.cell? ⟨e, 0 + 1, none⟩ = some (pI py) := fun R => ⟨(R.cl ce hKe).cell rfl, (R.cl ce hKe).cell rfl⟩
  refine calls_vc mo fn_25 rfl ok_25 (Nat.le_of_ble_eq_true rfl) nm_25 ?_
  (refine vsr ?_)
  (repeat refine vcl_v _ rfl rfl ?_); (refine vcl_end ?_)
  (refine vsr ?_)
  refine rnA (asE _) ?_
  (repeat refine vcl_v _ rfl rfl ?_); (refine vcl_end ?_)
  refine ⟨.take 1 (.take 2 (.take 3 (.take 4 (.take 7 (.take 8 (.take 9 (.take 10 (.two 0 [10, 9, 8, 7, 4, 3, 2, 1] (.two 5 [10, 9, 8, 7] (.one 6 [10, 9, 8, 7] (.one 11 [] (.take 12 (.take 13 (.done))))) 6 [10, 9, 8, 7, 4, 3, 2, 1] (.one 5 [10, 9, 8, 7] (.one 11 [] (.take 12 (.take 13 (.done)))))) 6 [10, 9, 8, 7, 4, 3, 2, 1] (.one 0 [10, 9, 8, 7, 4, 3, 2, 1] (.one 5 [10, 9, 8, 7] (.one 11 [] (.take 12 (.take 13 (.done)))))))))))))), by kernel_rfl, ?_⟩
  refine tkA (fa fo_91_0 _ _) ?_
  refine tkL na_52 ce rfl ?_
  refine tkA (fa fo_91_1 _ _) ?_
  refine tkL na_52 ce rfl ?_
  refine ⟨?_, ?_⟩
  · obtain ⟨q1, w1, e1, R1, -⟩ := alI R.dr
    refine ⟨_, w1, e1, ?_⟩
    replace R1 : Rs w w1 K [px, py, q1] [zi x, zi y, (false, 0)] := R1
    refine ⟨⟨(keep R1).2, (keep R1).1, trivial⟩, ?_⟩
    refine ⟨?_, ?_⟩
    · refine (setR R1 (i := 2) (j := 0) rfl rfl rfl bx).mono ?_
      rintro _ w2 ⟨rfl, R2⟩
      refine ⟨⟨(keep R2).2, trivial⟩, ?_⟩
      obtain ⟨q2, w3, e3, R3, -⟩ := alI R2
      refine ⟨_, w3, e3, ?_⟩
      replace R3 : Rs w w3 K [px, py, q1, q2] [zi x, zi y, zi x, (false, 0)] := R3
      refine ⟨⟨(keep R3).2, trivial⟩, ?_⟩
      refine (setR R3 (i := 3) (j := 1) rfl rfl rfl by_).mono ?_
      rintro _ w4 ⟨rfl, R4⟩
      refine ⟨trivial, ?_⟩
      exact ⟨rfl, q1, q2, rfl, R4.two (i := 2) (j := 3) rfl rfl rfl rfl (by decide)⟩
    · obtain ⟨q2, w2, e2, R2, -⟩ := alI R1
      refine ⟨_, w2, e2, ?_⟩
      replace R2 : Rs w w2 K [px, py, q1, q2] [zi x, zi y, (false, 0), (false, 0)] := R2
      refine ⟨⟨(keep R2).2, (keep R2).1, trivial⟩, ?_⟩
      refine (setR R2 (i := 2) (j := 0) rfl rfl rfl bx).mono ?_
      rintro _ w3 ⟨rfl, R3⟩
      refine ⟨⟨(keep R3).2, trivial⟩, ?_⟩
      refine (setR R3 (i := 3) (j := 1) rfl rfl rfl by_).mono ?_
      rintro _ w4 ⟨rfl, R4⟩
      refine ⟨trivial, ?_⟩
      exact ⟨rfl, q1, q2, rfl, R4.two (i := 2) (j := 3) rfl rfl rfl rfl (by decide)⟩
  · obtain ⟨q2, w1, e1, R1, -⟩ := alI R.dr
    refine ⟨_, w1, e1, ?_⟩
    replace R1 : Rs w w1 K [px, py, q2] [zi x, zi y, (false, 0)] := R1
    refine ⟨⟨(keep R1).2, (keep R1).1, trivial⟩, ?_⟩
    obtain ⟨q1, w2, e2, R2, -⟩ := alI R1
    refine ⟨_, w2, e2, ?_⟩
    replace R2 : Rs w w2 K [px, py, q2, q1] [zi x, zi y, (false, 0), (false, 0)] := R2
    refine ⟨⟨(keep R2).2, (keep R2).1, trivial⟩, ?_⟩
    refine (setR R2 (i := 3) (j := 0) rfl rfl rfl bx).mono ?_
    rintro _ w3 ⟨rfl, R3⟩
    refine ⟨⟨(keep R3).2, trivial⟩, ?_⟩
    refine (setR R3 (i := 2) (j := 1) rfl rfl rfl by_).mono ?_
    rintro _ w4 ⟨rfl, R4⟩
    refine ⟨trivial, ?_⟩
    exact ⟨rfl, q1, q2, rfl, R4.two (i := 3) (j := 2) rfl rfl rfl rfl (by decide)⟩

end Go.Vc
end

section
/- pointOf, Map. -/
set_option linter.unusedSimpArgs false
set_option linter.unusedVariables false
set_option maxRecDepth 20000
set_option maxHeartbeats 4000000
namespace Go.Vc
open Go.Proofs

theorem keep0 {w0 w w' : World} {K : Nat → Prop} {ps : List Nat} {vs : List Zn} (R : Rs w0 w K ps vs) (f : Fm (fun _ => False) w w') :
    ∃ K1 : Nat → Prop, Rs w' w' K1 ps vs ∧ (∀ b, K b → K1 b) ∧ (∀ b, w.heap.size ≤ b → b < w'.heap.size → K1 b) ∧ (∀ b, b < w.heap.size → K1 b → K b) :=
  ⟨_, R.re f, fun b h => .inl h, fun b h1 h2 => .inr ⟨h1, h2⟩, fun b h1 h2 => h2.elim id (fun h => by omega)⟩

theorem lvAg {t n : Nat} (ha : aggOk t = true) (hn : szOf t = some n) {w : World} {b i : Nat} {cs ds : List Value} {T : TypeId} (h : Cl w b cs T) (hd : (cs.drop i).take n = ds) (hl : ds.length = n) :
    (loadVar t ⟨b, i, none⟩).run P w = .ok (.agg ds.toArray) w := by
  have h1 := ldAg ha hn h hd hl
  simp only [Instr.loadAt, Instr.sureAddr, Sem.run_bind, pure, Sem.run, Result.andThen_ok] at h1
  exact h1

theorem vbs_replicate (n : Nat) : List.replicate n (Value.int .u8 0) = vbs (List.replicate n 0) := by simp [vbs]

theorem mkB (n : Nat) (hn : n ≤ 1000000) (w : World) :
    ∃ w', (Instr.makeSlice 22 (.int .i64 (n : Int)) (.int .i64 (n : Int))).run P w = .ok (.slice (some ⟨w.heap.size, 0, none⟩) n n) w' ∧ Bd w' w.heap.size (List.replicate n 0) ∧ Fm (fun _ => False) w w' ∧ w'.heap.size = w.heap.size + 1 := by
  obtain ⟨w', e, hc, hf, hs⟩ := mk_run (t := 22) (e := 5) (z := .int .u8 0) se_22 (by kernel_rfl) (by kernel_rfl) rfl .i64 .i64 (Nat.le_refl n) (by omega) w
  exact ⟨w', e, ⟨by rw [← vbs_replicate]; exact hc, fun y hy => by rw [List.eq_of_mem_replicate hy]; omega⟩, hf, hs⟩

/-- A buffer that is left alone from now on. -/
theorem mkBR {w : World} {K : Nat → Prop} {ps : List Nat} {vs : List Zn} (R : Rs w w K ps vs) (n : Nat) (hn : n ≤ 4000) :
    ∃ b w' K', (Instr.makeSlice 22 (.int .i64 (n : Int)) (.int .i64 (n : Int))).run P w = .ok (.slice (some ⟨b, 0, none⟩) n n) w' ∧ Bd w' b (List.replicate n 0) ∧ K' b ∧ (∀ b, K b → K' b) ∧ Rs w' w' K' ps vs ∧ Fm (fun _ => False) w w' ∧ w.heap.size ≤ b := by
  obtain ⟨w', e, hB, hf, hs⟩ := mkB n (by omega) w
  exact ⟨_, w', _, e, hB, .inr ⟨Nat.le_refl _, by omega⟩, fun b h => .inl h, R.re hf, hf, Nat.le_refl _⟩

theorem fillR {w : World} {K : Nat → Prop} {ps : List Nat} {vs : List Zn} (R : Rs w w K ps vs) {i x : Nat} {a : Int} (hx : ps[i]? = some x) (hv : vs[i]? = some (zi a)) {b n : Nat} (hB : Bd w b (List.replicate n 0)) (hK : K b) (hn : n ≤ 4000) (ha : a.natAbs < 256 ^ n) (ba : a.natAbs < BW ^ 200) :
    CallX P 26 #[pI x, .slice (some ⟨b, 0, none⟩) n n] w fun v w' => v = .slice (some ⟨b, 0, none⟩) n n ∧ Bd w' b (beL n a.natAbs) ∧ Rs w' w' K ps vs ∧ Fm (· = b) w w' := by
  obtain ⟨S, D, h, hr, F⟩ := R.all
  refine (fillBytes_I h (hr.get hx hv) hB hn ha ba hK).mono ?_
  rintro v w1 ⟨rfl, h1, h2, h3⟩
  exact ⟨rfl, h1, ⟨S, D, h2, hr, Fm.refl _ _⟩, h3⟩

abbrev ptV (bx by_ n : Nat) : Value := .agg #[.slice (some ⟨bx, 0, none⟩) n n, .slice (some ⟨by_, 0, none⟩) n n]
theorem bldPt (bx by_ n : Nat) (w : World) : (Instr.build 27 [(0, Value.slice (some ⟨bx, 0, none⟩) n n), (1, .slice (some ⟨by_, 0, none⟩) n n)].toArray).run P w = .ok (ptV bx by_ n) w := by kernel_rfl

/-- A point's bytes, in new blocks. -/
def PtR (w w' : World) (n : Nat) (x y : Int) (v : Value) : Prop := ∃ bx by_, v = ptV bx by_ n ∧ Bd w' bx (beL n x.natAbs) ∧ Bd w' by_ (beL n y.natAbs) ∧ w.heap.size ≤ bx ∧ w.heap.size ≤ by_

theorem pointOf_c {w : World} {K : Nat → Prop} {e px py c qp qb bits : Nat} {oa : Option Addr} {on oc : Nat} {x y : Int} (R : Rs w w K [px, py] [zi x, zi y]) (ce : Cl w e [pI px, pI py, cvV c, .slice oa on oc] 91) (hKe : K e) (hCu : Cu w c qp qb bits) (hKc : K c) (hb : bits < 1000)
    (hid : ¬ (x = 0 ∧ y = 0)) (bx : x.natAbs < BW ^ 200) (by_ : y.natAbs < BW ^ 200) (nx : x.natAbs < 256 ^ nb bits) (ny : y.natAbs < 256 ^ nb bits) :
    CallX P 16 #[.iface 78 (pC e)] w fun v w' => PtR w w' (nb bits) x y v ∧ Fm (fun b => ¬ K b) w w' := by
  have hn := nb_lt hb
  refine calls_vc mo fn_16 rfl ok_16 (Nat.le_of_ble_eq_true rfl) nm_16 ?_
  (refine vsr ?_)
  obtain ⟨g1, e1, cg1, fg1, sg1⟩ := nw (t := 27) (z := .agg #[.slice none 0 0, .slice none 0 0]) (by kernel_rfl) (cs := [.slice none 0 0, .slice none 0 0]) rfl w
  refine ⟨_, g1, e1, ?_⟩
  (repeat refine vcl_v _ rfl rfl ?_); (refine vcl_end ?_)
  obtain ⟨K1, R1, hsub, hnew, hsup⟩ := keep0 R fg1
  have hKg : K1 w.heap.size := hnew _ (Nat.le_refl _) (by omega)
  have ce1 := fg1.obj ce (fun h => h)
  have hCu1 := hCu.fm fg1 (fun h => h)
  refine ⟨_, _, mII e _, ?_⟩
  refine (isId_c R1 ce1 hid).mono ?_
  rintro _ _ ⟨rfl, rfl⟩
  refine ⟨fun hc => (by cases hc), fun _ => ?_⟩
  (refine sqn ?_)
  (refine vsr ?_)
  refine (affine_c R1 ce1 (hsub e hKe) (lt_pow bx (by omega)) (lt_pow by_ (by omega))).mono ?_
  rintro _ w2 ⟨qx, qy, rfl, R2⟩
  have F2 := R2.fm
  have ce2 := R2.cl ce1 (hsub e hKe)
  have hCu2 := hCu1.fm F2 (fun h => h (hsub c hKc))
  have cg2 := R2.cl cg1 hKg
  (repeat refine vcl_v _ rfl rfl ?_); (refine vcl_end ?_)
  (refine vsr ?_)
  refine ⟨_, _, mGr e _, ?_⟩
  refine (group_c ce2).mono ?_
  rintro _ _ ⟨rfl, rfl⟩
  refine (size_c hCu2 hb).mono ?_
  rintro _ w3 ⟨rfl, f3⟩
  have cg3 := f3.obj cg2 (fun h => h)
  have R3 : Rs w3.drew w3.drew K1 [qx, qy] [zi x, zi y] := by
    obtain ⟨S, D, h, hr, F⟩ := R2.all
    exact ⟨S, D, (h.fm f3 (fun _ h => h.elim)).drew, hr, Fm.refl _ _⟩
  have FF : Fm (fun b => ¬ K b) w w3.drew := (((fg1.mono (fun _ _ h => h.elim)).trans F2 (fun b hb h hk => h (hsub b hk))).trans f3 (fun _ _ h => h.elim)).dr
  have hsz : w.heap.size ≤ w3.drew.heap.size := FF.size
  have hgl : w.heap.size < w3.drew.heap.size := by have h1 := F2.size; have h2 := f3.size; show w.heap.size < w3.heap.size; omega
  clear R1 R2 F2 f3 ce1 ce2 hCu1 hCu2 cg1 cg2
  (repeat refine vcl_v _ rfl rfl ?_); (refine vcl_end ?_)
  -- the end, from both buffers on
  have fin : ∀ {u : World} {b1 b2 : Nat}, Bd u b1 (beL (nb bits) x.natAbs) → Bd u b2 (beL (nb bits) y.natAbs) → w.heap.size ≤ b1 → w.heap.size ≤ b2 → Cl u w.heap.size [.slice none 0 0, .slice none 0 0] 27 → Fm (fun b => ¬ K b) w u →
      ∃ u2, (Instr.storeAt 27 (.pointer (some ⟨w.heap.size, 0, none⟩)) (ptV b1 b2 (nb bits))).run P u = .ok () u2 ∧ (loadVar 27 ⟨w.heap.size, 0, none⟩).run P u2 = .ok (ptV b1 b2 (nb bits)) u2 ∧ PtR w u2 (nb bits) x y (ptV b1 b2 (nb bits)) ∧ Fm (fun b => ¬ K b) w u2 := by
    intro u b1 b2 h1 h2 g1 g2 hc hF
    obtain ⟨u2, e2, c2, f2, s2⟩ := stAg (t := 27) (vs := [.slice (some ⟨b1, 0, none⟩) (nb bits) (nb bits), .slice (some ⟨b2, 0, none⟩) (nb bits) (nb bits)]) sz_27 hc (i := 0) (by simp) (by intro v hv; simp at hv; rcases hv with rfl | rfl <;> rfl) (cs' := [.slice (some ⟨b1, 0, none⟩) (nb bits) (nb bits), .slice (some ⟨b2, 0, none⟩) (nb bits) (nb bits)]) rfl
    have ne : ∀ {b : Nat} {l : List Nat}, Bd u b l → ¬ b = w.heap.size := fun h e => by
      have := h.cl
      rw [e] at this
      have := this.symm.trans hc
      simp at this
    exact ⟨u2, e2, lvAg (by kernel_rfl) sz_27 c2 rfl rfl, ⟨b1, b2, rfl, h1.fm f2 (ne h1), h2.fm f2 (ne h2), g1, g2⟩, hF.trans f2 (fun b hb e => by omega)⟩
  refine vcut (by repeat (first | exact moE _ _ _ | exact moEd _ _ _ | apply moB | apply moL | apply moV)) (Nat × Nat) (fun p => ⟨[(2, .pointer (some ⟨w.heap.size, 0, none⟩))], []⟩) (fun p u => (loadVar 27 ⟨w.heap.size, 0, none⟩).run P u = .ok (ptV p.1 p.2 (nb bits)) u ∧ PtR w u (nb bits) x y (ptV p.1 p.2 (nb bits)) ∧ Fm (fun b => ¬ K b) w u) ?_ ?_
  · refine ⟨.take 0 (.take 1 (.take 4 (.take 5 (.two 2 [5, 4, 0] (.two 3 [5, 4] (.one 6 [4] (.one 7 [] (.take 8 (.one 9 [] (.done))))) 6 [4, 0] (.one 3 [4] (.one 7 [] (.take 8 (.one 9 [] (.done)))))) 6 [4, 1, 0] (.one 2 [4, 0] (.one 3 [4] (.one 7 [] (.take 8 (.one 9 [] (.done)))))))))), by kernel_rfl, ?_⟩
    refine ⟨?_, ?_⟩
    · obtain ⟨b1, w4, K4, e4, hB4, hK4, hs4, R4, f4, l4⟩ := mkBR R3 (nb bits) (by omega)
      refine ⟨_, w4, e4, ?_⟩
      refine ⟨trivial, ?_⟩
      have c4 := f4.obj cg3 (fun h => h)
      refine ⟨?_, ?_⟩
      · refine (fillR R4 (i := 0) (a := x) rfl rfl hB4 hK4 (by omega) nx bx).mono ?_
        rintro _ w5 ⟨rfl, hB5, R5, f5⟩
        refine ⟨trivial, ?_⟩
        obtain ⟨b2, w6, K6, e6, hB6, hK6, hs6, R6, f6, l6⟩ := mkBR R5 (nb bits) (by omega)
        refine ⟨_, w6, e6, ?_⟩
        refine ⟨trivial, ?_⟩
        refine (fillR R6 (i := 1) (a := y) rfl rfl hB6 hK6 (by omega) ny by_).mono ?_
        rintro _ w7 ⟨rfl, hB7, R7, f7⟩
        refine ⟨trivial, ?_⟩
        refine tkA (bldPt _ _ _) ?_
        have s4 := f4.size
        have s5 := f5.size
        have s6 := f6.size
        have hb1 : b1 < w4.heap.size := hB4.lt
        obtain ⟨u2, h1, h2, h3, h4⟩ := fin ((hB5.fm f6 (fun h => h)).fm f7 (by omega)) hB7 (by omega) (by omega) (f7.obj (f6.obj (f5.obj c4 (by omega)) (fun h => h)) (by omega)) ((((FF.trans f4 (fun _ _ h => h.elim)).trans f5 (fun b hb e => by omega)).trans f6 (fun _ _ h => h.elim)).trans f7 (fun b hb e => by omega))
        refine ⟨u2, h1, ?_⟩
        refine ⟨trivial, ?_⟩
        exact ⟨(b1, b2), ⟨⟨rfl, trivial⟩, rfl⟩, h2, h3, h4⟩
      · obtain ⟨b2, w5, K5, e5, hB5, hK5, hs5, R5, f5, l5⟩ := mkBR R4 (nb bits) (by omega)
        refine ⟨_, w5, e5, ?_⟩
        refine ⟨trivial, ?_⟩
        have s4 := f4.size
        have s5 := f5.size
        have hb1 : b1 < w4.heap.size := hB4.lt
        have hb2 : b2 < w5.heap.size := hB5.lt
        refine (fillR R5 (i := 0) (a := x) rfl rfl (hB4.fm f5 (fun h => h)) (hs5 _ hK4) (by omega) nx bx).mono ?_
        rintro _ w6 ⟨rfl, hB6, R6, f6⟩
        refine ⟨trivial, ?_⟩
        refine (fillR R6 (i := 1) (a := y) rfl rfl (hB5.fm f6 (by omega)) hK5 (by omega) ny by_).mono ?_
        rintro _ w7 ⟨rfl, hB7, R7, f7⟩
        refine ⟨trivial, ?_⟩
        refine tkA (bldPt _ _ _) ?_
        have s6 := f6.size
        obtain ⟨u2, h1, h2, h3, h4⟩ := fin (hB6.fm f7 (by omega)) hB7 (by omega) (by omega) (f7.obj (f6.obj (f5.obj c4 (fun h => h)) (by omega)) (by omega)) ((((FF.trans f4 (fun _ _ h => h.elim)).trans f5 (fun _ _ h => h.elim)).trans f6 (fun b hb e => by omega)).trans f7 (fun b hb e => by omega))
        refine ⟨u2, h1, ?_⟩
        refine ⟨trivial, ?_⟩
        exact ⟨(b1, b2), ⟨⟨rfl, trivial⟩, rfl⟩, h2, h3, h4⟩
    · obtain ⟨b2, w4, K4, e4, hB4, hK4, hs4, R4, f4, l4⟩ := mkBR R3 (nb bits) (by omega)
      refine ⟨_, w4, e4, ?_⟩
      refine ⟨trivial, ?_⟩
      have c4 := f4.obj cg3 (fun h => h)
      obtain ⟨b1, w5, K5, e5, hB5, hK5, hs5, R5, f5, l5⟩ := mkBR R4 (nb bits) (by omega)
      refine ⟨_, w5, e5, ?_⟩
      refine ⟨trivial, ?_⟩
      have s4 := f4.size
      have s5 := f5.size
      have hb1 : b2 < w4.heap.size := hB4.lt
      have hb2 : b1 < w5.heap.size := hB5.lt
      refine (fillR R5 (i := 0) (a := x) rfl rfl hB5 hK5 (by omega) nx bx).mono ?_
      rintro _ w6 ⟨rfl, hB6, R6, f6⟩
      refine ⟨trivial, ?_⟩
      refine (fillR R6 (i := 1) (a := y) rfl rfl ((hB4.fm f5 (fun h => h)).fm f6 (by omega)) (hs5 _ hK4) (by omega) ny by_).mono ?_
      rintro _ w7 ⟨rfl, hB7, R7, f7⟩
      refine ⟨trivial, ?_⟩
      refine tkA (bldPt _ _ _) ?_
      have s6 := f6.size
      obtain ⟨u2, h1, h2, h3, h4⟩ := fin (hB6.fm f7 (by omega)) hB7 (by omega) (by omega) (f7.obj (f6.obj (f5.obj c4 (fun h => h)) (by omega)) (by omega)) ((((FF.trans f4 (fun _ _ h => h.elim)).trans f5 (fun _ _ h => h.elim)).trans f6 (fun b hb e => by omega)).trans f7 (fun b hb e => by omega))
      refine ⟨u2, h1, ?_⟩
      refine ⟨trivial, ?_⟩
      exact ⟨(b1, b2), ⟨⟨rfl, trivial⟩, rfl⟩, h2, h3, h4⟩
  rintro ⟨b1, b2⟩ u ⟨h1, h2, h3⟩
  exact ⟨rfl, _, h1, h2, h3⟩

end Go.Vc
end

section
/- impl.Map. -/
set_option linter.unusedSimpArgs false
set_option linter.unusedVariables false
set_option maxRecDepth 20000
set_option maxHeartbeats 4000000
namespace Go.Vc
open Go.Proofs

theorem Rs.base {w0 w : World} {K : Nat → Prop} {ps : List Nat} {vs : List Zn} (R : Rs w0 w K ps vs) : Rs w w K ps vs := by
  obtain ⟨S, D, h, hr, F⟩ := R.all
  exact ⟨S, D, h, hr, Fm.refl _ _⟩

theorem Env.base {w0 w : World} {K : Nat → Prop} {be : Addr} (E : Env w0 K be) (F : Fm (fun b => ¬ K b) w0 w) : Env w K be :=
  ⟨fun g => E.gl (F.trans g (fun _ _ h => h)), fun g => E.eo (F.trans g (fun _ _ h => h))⟩

/-- The globals of a world. -/
structure Gb (w : World) (be : Addr) : Prop where
  gl : Gl w
  eo : Cl w 0 [eofV be] 64

theorem Gb.fm {w w' : World} {be : Addr} {A : Nat → Prop} (h : Gb w be) (f : Fm A w w') (hA : ∀ b, b < w.heap.size → ¬ A b) : Gb w' be := by
  have go : ∀ {g : Nat} {cs : List Value} {T : TypeId}, Cl w g cs T → Cl w' g cs T := fun hc => f.obj hc (hA _ (lt_of_obj hc))
  exact ⟨⟨go h.gl.k, go h.gl.s, go h.gl.q, go h.gl.r⟩, go h.eo⟩

theorem Gb.env {w : World} {be : Addr} (h : Gb w be) : Env w (fun b => b < w.heap.size) be :=
  ⟨fun f => (h.fm f (fun b hb hn => hn hb)).gl, fun f => (h.fm f (fun b hb hn => hn hb)).eo⟩

/-- No Ints yet. -/
theorem Rs.nil (w : World) : Rs w w (fun b => b < w.heap.size) [] [] :=
  ⟨fun _ => none, fun _ => none, ⟨fun p x e => (by cases e), fun p q b hp => absurd rfl hp, fun p hp => absurd rfl hp, fun p b hp => absurd rfl hp, fun b hb => hb⟩, ⟨List.nodup_nil, rfl, fun {i z v} h => by simp at h⟩, Fm.refl _ _⟩

theorem setBytesR {w0 w : World} {K : Nat → Prop} {ps : List Nat} {vs : List Zn} (R : Rs w0 w K ps vs) {i z : Nat} (hz : ps[i]? = some z) {a : Option Addr} {c : Nat} {buf : List Nat} (hb : Sb w a buf) (hc : buf.length ≤ c) (hl : buf.length ≤ 4000) (hc2 : c < 9223372036854775808) :
    CallX P 18 #[pI z, .slice a buf.length c] w fun v w' => v = pI z ∧ Rs w0 w' K ps (vs.set i (zi (bev buf : Int))) := by
  obtain ⟨S, D, h, hr, F⟩ := R.all
  have hi : i < vs.length := by rw [← hr.len]; exact (List.getElem?_eq_some_iff.1 hz).1
  refine (setBytes_I h (hr.get hz (List.getElem?_eq_getElem hi)) hb hc hl hc2).mono ?_
  rintro v w1 ⟨rfl, hI⟩
  rw [← zi_nat] at hI
  exact ⟨rfl, Rs.up hr F i hz hI⟩

theorem cv_bits {bits : Nat} {f : Int → Sp} (h : Cv bits f) : bits < 1000 ∧ (f 0).p ≤ 256 ^ nb bits := by
  rcases h with ⟨rfl, rfl⟩ | ⟨rfl, rfl⟩ | ⟨rfl, rfl⟩
  · exact ⟨by omega, Nat.le_of_ble_eq_true (by kernel_rfl)⟩
  · exact ⟨by omega, Nat.le_of_ble_eq_true (by kernel_rfl)⟩
  · exact ⟨by omega, Nat.le_of_ble_eq_true (by kernel_rfl)⟩

/-- A curve's number. -/
def Kcv (k bits : Nat) (f : Int → Sp) : Prop := (k = 0 ∧ bits = 256 ∧ f = sp256) ∨ (k = 1 ∧ bits = 384 ∧ f = sp384) ∨ (k = 2 ∧ bits = 521 ∧ f = sp521)
theorem Kcv.cv {k bits : Nat} {f : Int → Sp} (h : Kcv k bits f) : Cv bits f := by
  rcases h with ⟨_, h1, h2⟩ | ⟨_, h1, h2⟩ | ⟨_, h1, h2⟩
  · exact .inl ⟨h1, h2⟩
  · exact .inr (.inl ⟨h1, h2⟩)
  · exact .inr (.inr ⟨h1, h2⟩)

theorem map_c {w : World} {be : Addr} {k bits bu o c : Nat} {f : Int → Sp} {buf : List Nat} (hG : Gb w be) (hk : Kcv k bits f) (hu : Rb w bu o buf) (hc : buf.length ≤ c) (hl : buf.length ≤ 4000) (hc2 : c < 9223372036854775808) (h0 : 0 < bev buf) (h1 : bev buf < (f 0).p) :
    CallX P 8 #[.int .i64 (k : Int), .slice (some ⟨bu, o, none⟩) buf.length c] w fun v w' => ∃ X : Int, PtR w w' (nb bits) ((f (bev buf)).xn * X % (f (bev buf)).p) (f (bev buf)).y v ∧ Cg (f (bev buf)).p ((f (bev buf)).xd * X) 1 ∧ Fm (fun _ => False) w w' := by
  have hcv := hk.cv
  obtain ⟨hb, hp⟩ := cv_bits hcv
  have hok : (f (bev buf)).Ok := sp_ok hcv (by omega) (by omega)
  have hbd := sp_b hcv (bev buf : Int)
  obtain ⟨sp, _⟩ := sp_same hcv (bev buf : Int)
  refine calls_vc mo fn_8 rfl ok_8 (Nat.le_of_ble_eq_true rfl) nm_8 ?_
  (refine vsr ?_)
  obtain ⟨g1, e1, cg1, fg1, sg1⟩ := nw (t := 27) (z := .agg #[.slice none 0 0, .slice none 0 0]) (by kernel_rfl) (cs := [.slice none 0 0, .slice none 0 0]) rfl w
  refine ⟨_, g1, e1, ?_⟩
  (repeat refine vcl_v _ rfl rfl ?_); (refine vcl_end ?_)
  have hG1 := hG.fm fg1 (fun b _ h => h)
  have E1 := hG1.env
  have R1 := Rs.nil g1
  have hu1 := hu.fm fg1 (fun h => h)
  refine vcut (by repeat (first | exact moE _ _ _ | exact moEd _ _ _ | apply moB | apply moL | apply moV)) Value (fun v => ⟨[(4, .pointer (some ⟨w.heap.size, 0, none⟩))], []⟩) (fun v u => (loadVar 27 ⟨w.heap.size, 0, none⟩).run P u = .ok v u ∧ ∃ X : Int, PtR w u (nb bits) ((f (bev buf)).xn * X % (f (bev buf)).p) (f (bev buf)).y v ∧ Cg (f (bev buf)).p ((f (bev buf)).xd * X) 1 ∧ Fm (fun _ => False) w u) ?_ ?_
  · refine (groupOf_c E1 R1 hk).mono ?_
    rintro _ w2 ⟨cc, qp, qb, oa, on, oc, K2, rfl, hCu2, hKc2, hs2, E2, R2, F2⟩
    obtain ⟨q0, w3, e3, R3, -⟩ := alI R2
    refine ⟨_, w3, e3, ?_⟩
    have F3 : Fm (fun b => ¬ (b < g1.heap.size)) g1 w3 := F2.trans R3.fm (fun b _ h hk => h (hs2 b hk))
    have hu3 := hu1.fm F3 (fun h => h hu1.lt)
    refine (setBytesR R3 (i := 2) rfl (Sb.of_rb hu3) hc hl hc2).mono ?_
    rintro _ w4 ⟨rfl, R4⟩
    replace R4 : Rs w2 w4 K2 [qp, qb, q0] [(false, (f 0).p), zi (f 0).B, zi (bev buf : Int)] := R4
    refine (zzMap_c (E2.base R4.fm) R4.base (hCu2.fm R4.fm (fun h => h hKc2)) hKc2 hcv (by omega) (by omega)).mono ?_
    rintro _ w5 ⟨e, X, rfl, ⟨px, py, qp', qb', K5, ce, hKe, hKc5, hs5, E5, R5, hCu5, F5⟩, hX⟩
    have x0 := hok.ge ((f (bev buf)).xn * X)
    have x1 := hok.lt ((f (bev buf)).xn * X)
    have y0 := hok.y0
    have hn9 := hbd.p9
    refine (pointOf_c R5 ce hKe hCu5 hKc5 hb (hok.not0 hX (Cg.md _ _)) (lt_pow (a := 9) (by omega) (by omega)) (lt_pow (a := 9) (by omega) (by omega)) (by omega) (by omega)).mono ?_
    rintro v w6 ⟨⟨bx, by_, rfl, hB1, hB2, l1, l2⟩, F6⟩
    have FA : Fm (fun b => ¬ (b < g1.heap.size)) g1 w6 := ((F2.trans R4.fm (fun b _ h hk => h (hs2 b hk))).trans F5 (fun b _ h hk => h (hs2 b hk))).trans F6 (fun b _ h hk => h (hs5 b (hs2 b hk)))
    have cg6 := FA.obj cg1 (fun h => h (by omega))
    have hsz5 : g1.heap.size ≤ w5.heap.size := ((F2.trans R4.fm (fun b _ h hk => h (hs2 b hk))).trans F5 (fun b _ h hk => h (hs2 b hk))).size
    obtain ⟨u2, e2, c2, f2, s2⟩ := stAg (t := 27) (vs := [.slice (some ⟨bx, 0, none⟩) (nb bits) (nb bits), .slice (some ⟨by_, 0, none⟩) (nb bits) (nb bits)]) sz_27 cg6 (i := 0) (by simp) (by intro v hv; simp at hv; rcases hv with rfl | rfl <;> rfl) (cs' := [.slice (some ⟨bx, 0, none⟩) (nb bits) (nb bits), .slice (some ⟨by_, 0, none⟩) (nb bits) (nb bits)]) rfl
    refine ⟨u2, e2, ?_⟩
    refine ⟨ptV bx by_ (nb bits), ⟨⟨rfl, trivial⟩, rfl⟩, lvAg (by kernel_rfl) sz_27 c2 rfl rfl, X, ⟨bx, by_, rfl, hB1.fm f2 (by omega), hB2.fm f2 (by omega), by omega, by omega⟩, hX, (fg1.trans FA (fun b hb h => h (by omega))).trans f2 (fun b hb h => by omega)⟩
  rintro v u ⟨h1, h2⟩
  exact ⟨rfl, v, h1, h2⟩

end Go.Vc
end
