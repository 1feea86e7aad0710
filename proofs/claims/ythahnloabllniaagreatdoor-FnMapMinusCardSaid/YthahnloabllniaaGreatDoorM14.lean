/- NewInt, SetInt64, SetBytes. -/
import Derived.Test.YthahnloabllniaaGreatDoorM13
section
set_option linter.unusedSimpArgs false
set_option linter.unusedVariables false
set_option maxRecDepth 8000
set_option maxHeartbeats 1000000
namespace Go.Vc
open Go.Proofs

/-- A new Int that holds something. -/
theorem Sto.newWith {w w' : World} {K : Nat → Prop} {S : Nat → Option Zn} {D : Nat → Option Nat} (h : Sto w K S D) {q : Nat} {v : Value} {d : Option Nat} {l : List Nat} {s : Bool} (f : Fm (fun _ => False) w w') (hc : Cl w' q [.bool s, v] 56) (ho : Own w' v d l) (hn : Nrm l)
    (hq : w.heap.size ≤ q) (hd : ∀ b, d = some b → w.heap.size ≤ b) : ∃ D', Sto w' K (upd S q (s, nv l)) D' := by
  have h1 := h.fm f (fun _ h => h.elim)
  have hs := f.size
  have hfr : S q = none := h.fresh hq
  have hn' : ∀ p, upd S q (s, nv l) p ≠ none → p = q ∨ (p ≠ q ∧ S p ≠ none) := fun p e => by
    rcases Classical.em (p = q) with h2 | h2
    · exact .inl h2
    · rw [upd_ne h2] at e; exact .inr ⟨h2, e⟩
  have lt : ∀ p b, S p ≠ none → D p = some b → b < w.heap.size := fun p b hp e => by
    cases hsp : S p with
    | none => exact absurd hsp hp
    | some x => have := h.int p x hsp; rw [e] at this; exact this.dlt
  refine ⟨fun p => if p = q then d else D p, ⟨fun p x e => ?_, fun p q' b hp hq' e1 e2 => ?_, fun p hp hk => ?_, fun p b hp e => ?_, h1.kl⟩⟩
  · rcases Classical.em (p = q) with h2 | h2
    · subst h2
      rw [upd_self] at e; cases e
      simp only [if_true]
      exact ⟨_, l, hc, ho, hn, rfl⟩
    · rw [upd_ne h2] at e
      simp only [if_neg h2]
      exact h1.int p x e
  · rcases hn' p hp with h2 | ⟨h2, h3⟩
    · rcases hn' q' hq' with h4 | ⟨h4, h5⟩
      · rw [h2, h4]
      · simp only [if_pos h2] at e1
        simp only [if_neg h4] at e2
        have := hd b e1; have := lt q' b h5 e2; omega
    · rcases hn' q' hq' with h4 | ⟨h4, h5⟩
      · simp only [if_neg h2] at e1
        simp only [if_pos h4] at e2
        have := hd b e2; have := lt p b h3 e1; omega
      · simp only [if_neg h2] at e1
        simp only [if_neg h4] at e2
        exact h1.inj p q' b h3 h5 e1 e2
  · rcases hn' p hp with h2 | ⟨h2, h3⟩
    · have := h.kl p hk; omega
    · exact h1.kp p h3 hk
  · rcases hn' p hp with h2 | ⟨h2, h3⟩
    · simp only [if_pos h2] at e
      intro hk
      have := hd b e; have := h.kl b hk; omega
    · simp only [if_neg h2] at e; exact h1.kd p b h3 e

theorem bs1 (x : Nat) (w : World) : ∃ w', (Instr.buildSlice 53 1 [(0, vw x)].toArray).run P w = .ok (.slice (some ⟨w.heap.size, 0, none⟩) 1 1) w' ∧ Cl w' w.heap.size [vw x] 101 ∧ Fm (fun _ => False) w w' ∧ w'.heap.size = w.heap.size + 1 := by
  refine ⟨w.alloc (.cells [vw x].toArray 101), ?_, alloc_new _ _, alloc_fm w _, by simp⟩
  have hz : (zeroValue 101).run P w = .ok (vw 0) w := zeroValue_run (by kernel_rfl) w
  simp only [Instr.buildSlice, Sem.run_bind, run_und (slElem_spec se_53).1, Result.andThen_ok, sizeOf_run (slElem_spec se_53).2]
  rw [if_neg (by decide), if_neg (by decide)]
  simp only [Sem.run_bind, hz, Result.andThen_ok]
  have hf : Instr.fill (fun i => some (i * 1, 1)) ((Array.range (1 * 1)).map fun i => ((vw 0).cells)[i % (vw 0).cells.size]!) [(0, vw x)] = some #[vw x] := by
    simp [Instr.fill, Value.cells, vw]
    apply Array.ext
    · simp
    · intro i h1 h2
      have : i = 0 := by simp at h2; omega
      subst this
      simp
  show ((pure (vw 0).cells : Sem (Array Value)).run P w).andThen _ = _
  simp only [pure, Sem.run, Result.andThen_ok]
  rw [hf]
  rfl

theorem bldI (s : Bool) (a : Option Addr) (n c : Nat) (w : World) : (Instr.build 56 [(0, Value.bool s), (1, .slice a n c)].toArray).run P w = .ok (.agg #[.bool s, .slice a n c]) w := by kernel_rfl

theorem newInt_c {w : World} {K : Nat → Prop} {S : Nat → Option Zn} {D : Nat → Option Nat} (h : Sto w K S D) {x : Int} (hx : -4611686018427387904 ≤ x ∧ x ≤ 4611686018427387904) :
    CallX P 55 #[.int .i64 x] w fun v w' => ∃ q D', w.heap.size ≤ q ∧ v = pI q ∧ Sto w' K (upd S q (zi x)) D' ∧ Fm (fun _ => False) w w' := by
  refine calls_vc mo fn_55 rfl ok_55 (Nat.le_of_ble_eq_true rfl) nm_55 ?_
  (refine vsr ?_)
  (repeat refine vcl_v _ rfl rfl ?_); (refine vcl_end ?_)
  (refine vsr ?_)
  refine rnA (cv cv_2_33 (wrapU x)) ?_
  (repeat refine vcl_v _ rfl rfl ?_); (refine vcl_end ?_)
  refine vcut (by repeat (first | exact moE _ _ _ | exact moEd _ _ _ | apply moB | apply moL | apply moV)) Unit (fun _ => ⟨[(0, .int .i64 x), (3, vw x.natAbs)], []⟩) (fun _ u => u = w) ?_ ?_
  · (refine vsr ?_)
    rcases Int.lt_or_le x 0 with h1 | h1
    · refine ⟨_, bLt h1, ?_⟩
      refine ⟨fun _ => ?_, fun hc => (by cases hc)⟩
      rw [show x % 18446744073709551616 = ((18446744073709551616 - x.natAbs : Nat) : Int) by omega]
      refine rnA (uNeg (by omega)) ?_
      rw [show (18446744073709551616 - (18446744073709551616 - x.natAbs)) % 18446744073709551616 = x.natAbs by omega]
      exact ⟨(), ⟨⟨rfl, rfl, trivial⟩, rfl⟩, rfl⟩
    · refine ⟨_, bLtF (by omega), ?_⟩
      refine ⟨fun hc => (by cases hc), fun _ => ?_⟩
      rw [show x % 18446744073709551616 = ((x.natAbs : Nat) : Int) by omega]
      exact ⟨(), ⟨⟨rfl, rfl, trivial⟩, rfl⟩, rfl⟩
  rintro _ u rfl
  (refine vsr ?_)
  (repeat refine vcl_v _ rfl rfl ?_); (refine vcl_end ?_)
  refine vcut (by repeat (first | exact moE _ _ _ | exact moEd _ _ _ | apply moB | apply moL | apply moV)) Value (fun v => ⟨[(0, .int .i64 x), (4, v)], []⟩) (fun v u' => ∃ d l, Own u' v d l ∧ Nrm l ∧ nv l = x.natAbs ∧ (∀ b, d = some b → u.heap.size ≤ b) ∧ Fm (fun _ => False) u u') ?_ ?_
  · (refine vsr ?_)
    rcases Classical.em (x = 0) with h0 | h0
    · refine ⟨_, bEq h0, ?_⟩
      refine ⟨fun _ => ?_, fun hc => (by cases hc)⟩
      refine ⟨_, ⟨⟨rfl, rfl, trivial⟩, rfl⟩, none, [], Own.nil _, nrm_nil, by rw [h0]; rfl, fun b e => (by cases e), Fm.refl _ _⟩
    · refine ⟨_, bEqF h0, ?_⟩
      refine ⟨fun hc => (by cases hc), fun _ => ?_⟩
      (refine vsr ?_)
      refine ⟨fun hc => (by cases hc), fun _ => ?_⟩
      obtain ⟨u2, e2, c2, f2, s2⟩ := bs1 x.natAbs u
      refine ⟨_, u2, e2, ?_⟩
      have hxB : x.natAbs < BW := by unfold BW; omega
      have hW : Wd u2 u.heap.size [x.natAbs] := ⟨c2, fun y hy => by rw [List.mem_singleton.1 hy]; exact hxB⟩
      have ho : Own u2 (.slice (some ⟨u.heap.size, 0, none⟩) 1 1) (some u.heap.size) [x.natAbs] := Own.mk' hW (n := 1) (by simp) (by simp)
      exact ⟨_, ⟨⟨rfl, rfl, trivial⟩, rfl⟩, some u.heap.size, [x.natAbs], ho, .inr (by simp [dg]; omega), by simp [nv], fun b e => by cases e; omega, f2⟩
  rintro v u2 ⟨d, l, ho, hn, hv, hd, hf⟩
  obtain ⟨a1, k1, rfl, _⟩ := ho.val
  refine ⟨_, bLtD, ?_⟩
  refine rnA (bldI _ _ _ _) ?_
  obtain ⟨u3, e3, c3, f3, s3⟩ := bx 56 (v := .agg #[.bool (decide (x < 0)), .slice a1 l.length k1]) (cs := [.bool (decide (x < 0)), .slice a1 l.length k1]) rfl u2
  refine ⟨_, u3, e3, ?_⟩
  have hs := hf.size
  have hF : Fm (fun _ => False) u u3 := hf.trans f3 (fun _ _ h => h)
  obtain ⟨D', h'⟩ := h.newWith hF c3 (ho.fm f3 (fun _ _ h => h)) hn (by omega) hd
  refine ⟨rfl, u2.heap.size, D', by omega, rfl, ?_, hF⟩
  rw [hv] at h'
  exact h'

end Go.Vc
end

section
/- Int.SetInt64, SetBytes, FillBytes, Rsh, Bit. -/
set_option linter.unusedSimpArgs false
set_option linter.unusedVariables false
set_option maxRecDepth 8000
set_option maxHeartbeats 1000000
namespace Go.Vc
open Go.Proofs

theorem uNegL {x : Int} (h : -4611686018427387904 ≤ x ∧ x ≤ 4611686018427387904) (w : World) : (Op.unary .neg (.int .i64 x)).run P w = .ok (.int .i64 (-x)) w := by
  have e : IntKind.i64.wrap (0 - x) = -x := by rw [wrap64_in (by omega)]; omega
  simp only [Op.unary, Op.intArith, pure, Sem.run, e]

theorem setInt64_I {w : World} {K : Nat → Prop} {S : Nat → Option Zn} {D : Nat → Option Nat} (h : Sto w K S D) {z : Nat} {z0 : Zn} (hz : S z = some z0) {x : Int} (hx : -4611686018427387904 ≤ x ∧ x ≤ 4611686018427387904) :
    CallX P 40 #[pI z, .int .i64 x] w fun v w' => v = pI z ∧ IR w K S z (zi x) w' := by
  obtain ⟨vz, lz, cz, oz, nz, ez⟩ := (h.int z z0 hz).all
  refine calls_vc mo fn_40 rfl ok_40 (Nat.le_of_ble_eq_true rfl) nm_40 ?_
  (refine vsr ?_)
  (repeat refine vcl_v _ rfl rfl ?_); (refine vcl_end ?_)
  (refine vsr ?_)
  (repeat refine vcl_v _ rfl rfl ?_); (refine vcl_end ?_)
  refine vcut (by repeat (first | exact moE _ _ _ | exact moEd _ _ _ | apply moB | apply moL | apply moV)) Unit (fun _ => ⟨[(0, pI z), (1, .int .i64 (x.natAbs : Int)), (5, .bool (decide (x < 0)))], []⟩) (fun _ u => u = w) ?_ ?_
  · (refine vsr ?_)
    rcases Int.lt_or_le x 0 with h1 | h1
    · refine ⟨_, bLt h1, ?_⟩
      refine ⟨fun _ => ?_, fun hc => (by cases hc)⟩
      refine rnA (uNegL hx) ?_
      rw [show -x = (x.natAbs : Int) by omega]
      exact ⟨(), ⟨⟨rfl, rfl, by rw [decide_eq_true h1]; rfl, trivial⟩, rfl⟩, rfl⟩
    · refine ⟨_, bLtF (by omega), ?_⟩
      refine ⟨fun hc => (by cases hc), fun _ => ?_⟩
      refine ⟨(), ⟨⟨rfl, ?_, ?_, trivial⟩, rfl⟩, rfl⟩
      · show some (Value.int .i64 x) = some (Value.int .i64 (x.natAbs : Int))
        rw [show x = (x.natAbs : Int) by omega]; rfl
      · rw [decide_eq_false (by omega)]; rfl
  rintro _ u rfl
  refine rnA (fa fo_56_1 _ _) ?_
  refine rnL na_54 cz rfl ?_
  refine rnA (cv cv_2_33 (wrapU_nat (by omega))) ?_
  refine (setUint64_c oz (x := x.natAbs) (by unfold BW; omega)).mono ?_
  rintro v w1 hr
  refine rnA (fa fo_56_1 _ _) ?_
  obtain ⟨w2, e2, D2, h2, f2⟩ := h.stAbs hz hr
  refine ⟨w2, e2, ?_⟩
  refine rnA (fa fo_56_0 _ _) ?_
  obtain ⟨w3, e3, r3⟩ := h2.stNeg upd_self (decide (x < 0))
  refine ⟨w3, e3, ?_⟩
  exact ⟨rfl, rfl, IR.trans f2 r3⟩

theorem setBytes_I {w : World} {K : Nat → Prop} {S : Nat → Option Zn} {D : Nat → Option Nat} (h : Sto w K S D) {z : Nat} {z0 : Zn} (hz : S z = some z0) {a : Option Addr} {c : Nat} {buf : List Nat} (hb : Sb w a buf) (hc : buf.length ≤ c) (hl : buf.length ≤ 4000) (hc2 : c < 9223372036854775808) :
    CallX P 18 #[pI z, .slice a buf.length c] w fun v w' => v = pI z ∧ IR w K S z (false, bev buf) w' := by
  obtain ⟨vz, lz, cz, oz, nz, ez⟩ := (h.int z z0 hz).all
  refine calls_vc mo fn_18 rfl ok_18 (Nat.le_of_ble_eq_true rfl) nm_18 ?_
  refine rnA (fa fo_56_1 _ _) ?_
  refine rnL na_54 cz rfl ?_
  refine (setBytes_c oz hb hc hl hc2).mono ?_
  rintro v w1 hr
  refine rnA (fa fo_56_1 _ _) ?_
  obtain ⟨w2, e2, D2, h2, f2⟩ := h.stAbs hz hr
  refine ⟨w2, e2, ?_⟩
  refine rnA (fa fo_56_0 _ _) ?_
  obtain ⟨w3, e3, r3⟩ := h2.stNeg upd_self false
  refine ⟨w3, e3, ?_⟩
  exact ⟨rfl, rfl, IR.trans f2 r3⟩

theorem set_rep0 (m i : Nat) : (List.replicate m 0).set i 0 = List.replicate m 0 := by
  apply list_ext_dg (by simp)
  intro j hj
  rcases Classical.em (i = j) with e | e
  · subst e
    rw [dg_set_eq (by simpa using hj), dg_replicate _ _ _ (by simpa using hj)]
  · rw [dg_set_ne e]

theorem Bd.zeros {b m : Nat} : ∀ {n o : Nat} {w : World}, Bd w b (List.replicate m 0) → o + n ≤ m → Bd (w.setCells b o (List.replicate n (vb 0))) b (List.replicate m 0)
  | 0, _, _, h, _ => h
  | n + 1, o, w, h, hn => by
    have h1 : Bd (w.setCell ⟨b, o, none⟩ (vb 0)) b (List.replicate m 0) := by
      refine ⟨?_, h.bf⟩
      have := setCell_row (i := o) h.cl (vb 0)
      rwa [vbs_set, set_rep0] at this
    exact Bd.zeros (n := n) (o := o + 1) h1 (by omega)

theorem clrB {w : World} {b n c : Nat} (h : Bd w b (List.replicate n 0)) (ty : TypeId) (cs : Array Bool) :
    ∃ v w', (builtin .clear #[22] ty cs #[.slice (some ⟨b, 0, none⟩) n c]).run P w = .ok (.value v) w' ∧ Bd w' b (List.replicate n 0) ∧ Fm (· = b) w w' := by
  rcases Nat.eq_zero_or_pos n with rfl | hn
  · exact ⟨_, w, clr0 se_22 (by kernel_rfl : zeroOf 5 = some (vb 0)) ty cs w, h, Fm.refl _ _⟩
  · obtain ⟨hu, hs⟩ := slElem_info se_22
    have := Lib.run_clear_slice (P := P) w 22 5 ty (vb 0) hu (fun w => zeroValue_run (by kernel_rfl : zeroOf 5 = some (vb 0)) w) rfl rfl b 0 n c hn (by
      intro j hj
      rw [Nat.zero_add, h.cell (by simpa using hj)]; rfl) (fun j _ => h.cl.free)
    refine ⟨.tuple #[], _, ?_, h.zeros (n := n) (o := 0) (by omega), setCells_fm _ _ _ _⟩
    simp only [builtin, Sem.run_bind, this, Result.andThen_ok]
    rfl

theorem fillBytes_I {w : World} {K : Nat → Prop} {S : Nat → Option Zn} {D : Nat → Option Nat} (h : Sto w K S D) {x : Nat} {a : Zn} (hx : S x = some a) {bb n cb : Nat} (hB : Bd w bb (List.replicate n 0)) (hn : n ≤ 4000) (hV : a.2 < 256 ^ n) (ha : a.2 < BW ^ 200) (hK : K bb) :
    CallX P 26 #[pI x, .slice (some ⟨bb, 0, none⟩) n cb] w fun v w' => v = .slice (some ⟨bb, 0, none⟩) n cb ∧ Bd w' bb (beL n a.2) ∧ Sto w' K S D ∧ Fm (· = bb) w w' := by
  refine calls_vc mo fn_26 rfl ok_26 (Nat.le_of_ble_eq_true rfl) nm_26 ?_
  obtain ⟨v, w1, e1, hB1, f1⟩ := clrB (c := cb) hB _ _
  refine ⟨_, w1, e1, ?_⟩
  have h1 := h.fm f1 (fun b e => .inl (by rw [e]; exact hK))
  obtain ⟨vx, lx, cx, ox, nx, ex⟩ := (h1.int x a hx).all
  obtain ⟨ax, kx, rfl, _, _, sx⟩ := ox.val
  refine rnA (fa fo_56_1 _ _) ?_
  refine rnL na_54 cx rfl ?_
  have hlx := nv_len nx (by rw [ex]; exact ha)
  refine (bytes_c (cb := cb) sx (by omega) hB1 hn (by rw [ex]; exact hV)).mono ?_
  rintro v w2 ⟨hB2, f2⟩
  rw [ex] at hB2
  exact ⟨rfl, rfl, hB2, h1.fm f2 (fun b e => .inl (by rw [e]; exact hK)), f1.trans f2 (fun _ _ h => h)⟩

theorem rsh_I {w : World} {K : Nat → Prop} {S : Nat → Option Zn} {D : Nat → Option Nat} (h : Sto w K S D) {z x : Nat} {z0 a : Zn} (hz : S z = some z0) (hx : S x = some a) (hs : a.1 = false) (ha : a.2 < BW ^ 200) {s : Nat} (h0 : 0 < s) (h64 : s < 64) :
    CallX P 57 #[pI z, pI x, vw s] w fun v w' => v = pI z ∧ IR w K S z (false, a.2 / 2 ^ s) w' := by
  obtain ⟨vz, lz, cz, oz, nz, ez⟩ := (h.int z z0 hz).all
  obtain ⟨vx, lx, cx, ox, nx, ex⟩ := (h.int x a hx).all
  obtain ⟨sa, na⟩ := a
  dsimp only at *
  subst hs
  have hlx := nv_len nx (by rw [ex]; exact ha)
  refine calls_vc mo fn_57 rfl ok_57 (Nat.le_of_ble_eq_true rfl) nm_57 ?_
  refine rnA (fa fo_56_0 _ _) ?_
  refine rnL na_4 cx rfl ?_
  refine ⟨fun hc => (by cases hc), fun _ => ?_⟩
  refine ⟨.take 0 (.take 1 (.take 2 (.take 3 (.take 4 (.take 5 (.take 6 (.take 7 (.take 8 (.take 9 (.one 10 [0] (.take 11 (.take 12 (.one 13 [] (.done)))))))))))))), by kernel_rfl, ?_⟩
  refine tkA (fa fo_56_1 _ _) ?_
  refine tkL na_54 cz rfl ?_
  refine tkA (fa fo_56_1 _ _) ?_
  refine tkL na_54 cx rfl ?_
  refine (rsh_c oz.drew ox.drew (by omega) h0 h64).mono ?_
  rintro v w1 hr
  refine ⟨trivial, ?_⟩
  refine tkA (fa fo_56_1 _ _) ?_
  obtain ⟨w2, e2, D2, h2, f2⟩ := h.stAbs hz hr.undrew
  refine ⟨w2, e2, ?_⟩
  refine ⟨trivial, ?_⟩
  refine rnA (fa fo_56_0 _ _) ?_
  obtain ⟨w3, e3, r3⟩ := h2.stNeg upd_self false
  refine ⟨w3, e3, ?_⟩
  refine ⟨rfl, rfl, ?_⟩
  rw [ex] at r3
  exact IR.trans f2 r3

theorem bit0_I {w : World} {K : Nat → Prop} {S : Nat → Option Zn} {D : Nat → Option Nat} (h : Sto w K S D) {x : Nat} {a : Zn} (hx : S x = some a) :
    CallX P 67 #[pI x, .int .i64 0] w fun v w' => w = w' ∧ v = vw (a.2 % 2) := by
  obtain ⟨vx, lx, cx, ox, nx, ex⟩ := (h.int x a hx).all
  refine calls_vc mo fn_67 rfl ok_67 (Nat.le_of_ble_eq_true rfl) nm_67 ?_
  refine ⟨_, bEq rfl, ?_⟩
  refine ⟨fun _ => ?_, fun hc => (by cases hc)⟩
  refine rnA (fa fo_56_1 _ _) ?_
  obtain ⟨ax, kx, rfl, _, _, sx⟩ := ox.val
  refine rnL na_54 cx rfl ?_
  refine ⟨_, _, ln se_54 _ _ _ _ _ _, ?_⟩
  rcases Classical.em (lx = []) with e0 | e0
  · subst e0
    refine ⟨_, bGtF (by simp), ?_⟩
    refine ⟨fun hc => (by cases hc), fun _ => ?_⟩
    refine ⟨rfl, rfl, ?_⟩
    show vw 0 = _
    rw [← ex]; rfl
  · have hlp : 0 < lx.length := List.length_pos_iff.2 e0
    obtain ⟨b1, c1, _, e1, hr, _, _⟩ := ox.rd e0
    cases e1
    refine ⟨_, bGt (by omega), ?_⟩
    refine ⟨fun _ => ?_, fun hc => (by cases hc)⟩
    refine rnA (fa fo_56_1 _ _) ?_
    refine rnL na_54 cx rfl ?_
    refine rnA (ia (i := 0) se_54 _ hlp) ?_
    refine rnC na_101 (hr.cell (i := 0) hlp) ?_
    refine ⟨_, wAnd _ 1 (hr.wf.dg 0) (by omega), ?_⟩
    refine ⟨rfl, rfl, ?_⟩
    have : dg lx 0 &&& 1 = a.2 % 2 := by
      rw [Nat.and_one_is_mod, ← nv_mod hr.wf, ex, BW_eq]; omega
    show vw (dg lx 0 &&& 1) = _
    rw [this]

end Go.Vc
end

section
/- Int.Exp. -/
set_option linter.unusedSimpArgs false
set_option linter.unusedVariables false
set_option maxRecDepth 8000
set_option maxHeartbeats 1000000
namespace Go.Vc
open Go.Proofs

theorem exp_I {w : World} {K : Nat → Prop} {S : Nat → Option Zn} {D : Nat → Option Nat} (hg : Gl w) (h : Sto w K S D) {z x y m : Nat} {z0 a b c : Zn} (hz : S z = some z0) (hx : S x = some a) (hy : S y = some b) (hm : S m = some c) (nzx : z ≠ x) (nzy : z ≠ y) (nzm : z ≠ m) (nxm : x ≠ m) (sa : a.1 = false) (sb : b.1 = false) (ba : a.2 < BW ^ 200) (bb : b.2 < BW ^ 100) (bb2 : BW ≤ b.2) (bc : c.2 < BW ^ 39) (bc2 : BW ≤ c.2) (odd : c.2 % 2 = 1) :
    CallX P 85 #[pI z, pI x, pI y, pI m, .bool false] w fun v w' => v = pI z ∧ IR w K S z (false, a.2 ^ b.2 % c.2) w' := by
  obtain ⟨vz, lz, cz, oz, nz, ez⟩ := (h.int z z0 hz).all
  obtain ⟨vx, lx, cx, ox, nx, ex⟩ := (h.int x a hx).all
  obtain ⟨vy, ly, cy, oy, ny, ey⟩ := (h.int y b hy).all
  obtain ⟨vm, lm, cm, om, nm, em⟩ := (h.int m c hm).all
  obtain ⟨sa', na⟩ := a
  obtain ⟨sb', nb⟩ := b
  obtain ⟨sc', nc⟩ := c
  dsimp only at *
  subst sa; subst sb
  have two : ∀ {l : List Nat}, WF l → BW ≤ nv l → 1 < l.length := fun {l} hw h => by
    rcases Nat.lt_or_ge 1 l.length with h1 | h1
    · exact h1
    · have h2 := nv_lt hw
      have h3 : BW ^ l.length ≤ BW ^ 1 := pow_le_pow h1
      rw [Nat.pow_one] at h3
      omega
  have hlx := nv_len nx (by rw [ex]; exact ba)
  have hly := nv_len ny (by rw [ey]; exact bb)
  have hlm := nv_len nm (by rw [em]; exact bc)
  have hly2 := two oy.wf (by rw [ey]; exact bb2)
  have hlm2 := two om.wf (by rw [em]; exact bc2)
  obtain ⟨yb, yc, edy, rfl, ry, _, _⟩ := oy.rd (by intro e; rw [e] at hly2; simp at hly2)
  obtain ⟨mb, mc, edm, rfl, rm, _, _⟩ := om.rd (by intro e; rw [e] at hlm2; simp at hlm2)
  have zn : S z ≠ none := by rw [hz]; simp
  have xn : S x ≠ none := by rw [hx]; simp
  have yn : S y ≠ none := by rw [hy]; simp
  have mn : S m ≠ none := by rw [hm]; simp
  refine calls_vc mo fn_85 rfl ok_85 (Nat.le_of_ble_eq_true rfl) nm_85 ?_
  refine rnA (fa fo_56_1 _ _) ?_
  refine rnL na_54 cx rfl ?_
  refine rnA (fa fo_56_0 _ _) ?_
  refine rnL na_4 cy rfl ?_
  refine ⟨fun hc => (by cases hc), fun _ => ?_⟩
  refine rnA (fa fo_56_1 _ _) ?_
  refine rnL na_54 cy rfl ?_
  (repeat refine vcl_v _ rfl rfl ?_); (refine vcl_end ?_)
  (refine vsr ?_)
  (repeat refine vcl_v _ rfl rfl ?_); (refine vcl_end ?_)
  have hF1 : Fm (fun _ => False) w w.drew.drew := (Fm.drew _ _).dr
  refine vcut (by repeat (first | exact moE _ _ _ | exact moEd _ _ _ | apply moB | apply moL | apply moV)) Unit (fun _ => ⟨[(0, pI z), (1, pI x), (4, .bool false), (11, vx), (13, .slice (some ⟨yb, 0, none⟩) ly.length yc), (14, .slice (some ⟨mb, 0, none⟩) lm.length mc)], []⟩) (fun _ u => u = w.drew.drew) ?_ ?_
  · (refine vsr ?_)
    refine rnA (pNn (by kernel_rfl) (some _) _ _) ?_
    refine ⟨fun _ => ?_, fun hc => (by cases hc)⟩
    refine ⟨.take 0 (.take 1 (.take 2 (.take 3 (.take 4 (.take 5 (.take 6 (.take 7 (.take 8 (.take 9 (.take 10 (.take 11 (.one 12 [] (.take 13 (.done)))))))))))))), by kernel_rfl, ?_⟩
    refine .held _ (fun u => Live u z ∧ Live u m) ⟨cz.live, cm.live⟩ (fun u h => pE (by kernel_rfl) h.1 h.2 _ _) ?_
    rw [show (decide ((⟨z, 0, none⟩ : Addr) = ⟨m, 0, none⟩)) = false by simp [nzm]]
    refine tkA (fa fo_56_1 _ _) ?_
    refine tkL na_54 cz rfl ?_
    refine tkA (fa fo_56_1 _ _) ?_
    refine tkL na_54 cm rfl ?_
    refine (alias_c oz.drew om.drew).mono ?_
    rintro v w1 ⟨rfl, t, rfl, ht1, ht2⟩
    refine ⟨trivial, ?_⟩
    cases t with
    | true =>
      exfalso
      have e := ht1 rfl
      exact nzm (h.inj z m mb zn mn (by rw [e]; exact edm) edm)
    | false =>
      refine ⟨fun hc => (by cases hc), fun _ => ?_⟩
      refine rnA (fa fo_56_1 _ _) ?_
      refine rnL na_54 (hF1.obj cm (fun h => h)) rfl ?_
      exact ⟨(), ⟨⟨rfl, rfl, rfl, rfl, rfl, rfl, trivial⟩, rfl⟩, rfl⟩
  rintro _ u rfl
  have h1 := h.fm hF1 (fun _ h => h.elim)
  have cz1 := hF1.obj cz (fun h => h)
  refine rnA (fa fo_56_1 _ _) ?_
  refine rnL na_54 cz1 rfl ?_
  have ox1 := ox.fm hF1 (fun _ _ h => h)
  have oy1 := oy.fm hF1 (fun _ _ h => h)
  have om1 := om.fm hF1 (fun _ _ h => h)
  have oz1 := oz.fm hF1 (fun _ _ h => h)
  rw [edy] at oy1
  rw [edm] at om1
  refine (expNN_c (hg.fm0 hF1) ox1 nx (by omega) oy1 om1 nm rfl (k := lm.length - 2) (by omega) hlm (by rw [em]; exact odd) ny hly2 hly (fun e => nxm (h.inj x m mb xn mn e edm)) oz1 (fun b e => ⟨fun e2 => nzx (h.inj z x b zn xn e e2), fun e2 => by subst e2; exact nzy (h.inj z y b zn yn e edy), fun e2 => by subst e2; exact nzm (h.inj z m b zn mn e edm)⟩)).mono ?_
  rintro v w2 hr
  rw [ex, ey, em] at hr
  refine rnA (fa fo_56_1 _ _) ?_
  obtain ⟨w3, e3, D3, h3, f3⟩ := h1.stAbs hz hr
  refine ⟨w3, e3, ?_⟩
  have hz3 : upd S z (z0.1, na ^ nb % nc) z = some (z0.1, na ^ nb % nc) := upd_self
  obtain ⟨vz3, lz3, cz3, oz3, nz3, ez3⟩ := (h3.int z _ hz3).all
  obtain ⟨az3, kz3, rfl, _⟩ := oz3.val
  obtain ⟨vx3, lx3, cx3, _⟩ := (h3.int x (false, na) (by rw [upd_ne (fun e => nzx e.symm)]; exact hx)).all
  have hF3 : Fm (fun b => ¬ K b) w w3 := (hF1.mono (fun _ _ h => h.elim)).trans f3 (fun _ _ h => h)
  (repeat refine vcl_v _ rfl rfl ?_); (refine vcl_end ?_)
  refine vcut (by repeat (first | exact moE _ _ _ | exact moEd _ _ _ | apply moB | apply moL | apply moV)) Unit (fun _ => ⟨[(0, pI z), (14, .slice (some ⟨mb, 0, none⟩) lm.length mc)], []⟩) (fun _ u => IR w K S z (false, na ^ nb % nc) u) ?_ ?_
  · refine rnA (fa fo_56_1 _ _) ?_
    refine rnL na_54 cz3 rfl ?_
    refine ⟨_, _, ln se_54 _ _ _ _ _ _, ?_⟩
    rcases Nat.eq_zero_or_pos lz3.length with e0 | e0
    · refine ⟨_, bGtF (by omega), ?_⟩
      refine rnA (fa fo_56_0 _ _) ?_
      obtain ⟨w4, e4, r4⟩ := h3.stNeg hz3 false
      refine ⟨w4, e4, ?_⟩
      exact ⟨(), ⟨⟨rfl, rfl, trivial⟩, rfl⟩, IR.trans hF3 r4⟩
    · refine ⟨_, bGt (by omega), ?_⟩
      refine rnA (fa fo_56_0 _ _) ?_
      refine rnL na_4 cx3 rfl ?_
      refine rnA (fa fo_56_0 _ _) ?_
      obtain ⟨w4, e4, r4⟩ := h3.stNeg hz3 false
      refine ⟨w4, e4, ?_⟩
      exact ⟨(), ⟨⟨rfl, rfl, trivial⟩, rfl⟩, IR.trans hF3 r4⟩
  rintro _ u4 ⟨D4, h4, f4⟩
  obtain ⟨vz4, lz4, cz4, _⟩ := (h4.int z _ upd_self).all
  refine rnA (fa fo_56_0 _ _) ?_
  refine rnL na_4 cz4 rfl ?_
  refine ⟨fun hc => (by cases hc), fun _ => ?_⟩
  exact ⟨rfl, rfl, D4, h4, f4⟩

theorem Exp_I {w : World} {K : Nat → Prop} {S : Nat → Option Zn} {D : Nat → Option Nat} (hg : Gl w) (h : Sto w K S D) {z x y m : Nat} {z0 a b c : Zn} (hz : S z = some z0) (hx : S x = some a) (hy : S y = some b) (hm : S m = some c) (nzx : z ≠ x) (nzy : z ≠ y) (nzm : z ≠ m) (nxm : x ≠ m) (sa : a.1 = false) (sb : b.1 = false) (ba : a.2 < BW ^ 200) (bb : b.2 < BW ^ 100) (bb2 : BW ≤ b.2) (bc : c.2 < BW ^ 39) (bc2 : BW ≤ c.2) (odd : c.2 % 2 = 1) :
    CallX P 65 #[pI z, pI x, pI y, pI m] w fun v w' => v = pI z ∧ IR w K S z (false, a.2 ^ b.2 % c.2) w' := by
  refine calls_vc mo fn_65 rfl ok_65 (Nat.le_of_ble_eq_true rfl) nm_65 ?_
  refine (exp_I hg h hz hx hy hm nzx nzy nzm nxm sa sb ba bb bb2 bc bc2 odd).mono ?_
  rintro v w1 ⟨rfl, hr⟩
  exact ⟨rfl, rfl, hr⟩

end Go.Vc
end

section
/- Int.Abs, mulW, lehmerUpdate, euclidUpdate. -/
set_option linter.unusedSimpArgs false
set_option linter.unusedVariables false
set_option maxRecDepth 8000
set_option maxHeartbeats 1000000
namespace Go.Vc
open Go.Proofs

def sg (e : Bool) : Int := if e then -1 else 1

theorem iv_sg {s e : Bool} {n k : Nat} : iv (s != e, n * k) = sg e * (iv (s, n) * (k : Int)) := by
  cases s <;> cases e <;> simp [iv, sg, Int.neg_mul, Int.mul_neg]

theorem abs_I {w : World} {K : Nat → Prop} {S : Nat → Option Zn} {D : Nat → Option Nat} (h : Sto w K S D) {z x : Nat} {z0 a : Zn} (hz : S z = some z0) (hx : S x = some a) (hb : a.2 < BW ^ 250) :
    CallX P 131 #[pI z, pI x] w fun v w' => v = pI z ∧ IR w K S z (false, a.2) w' := by
  refine calls_vc mo fn_131 rfl ok_131 (Nat.le_of_ble_eq_true rfl) nm_131 ?_
  refine (set_I h hz hx hb).mono ?_
  rintro v w1 ⟨rfl, D1, h1, f1⟩
  refine rnA (fa fo_56_0 _ _) ?_
  obtain ⟨w2, e2, r2⟩ := h1.stNeg (z := z) upd_self false
  refine ⟨w2, e2, ?_⟩
  exact ⟨rfl, rfl, IR.trans f1 r2⟩

theorem mulW_I {w : World} {K : Nat → Prop} {S : Nat → Option Zn} {D : Nat → Option Nat} (h : Sto w K S D) {z x : Nat} {z0 a : Zn} (hz : S z = some z0) (hx : S x = some a) (hb : a.2 < BW ^ 200) {e : Bool} {k : Nat} (hk : k < BW) :
    CallX P 135 #[pI z, pI x, .bool e, vw k] w fun v w' => IR w K S z (a.1 != e, a.2 * k) w' := by
  obtain ⟨vz, lz, cz, oz, nz, ez⟩ := (h.int z z0 hz).all
  obtain ⟨vx, lx, cx, ox, nx, ex⟩ := (h.int x a hx).all
  obtain ⟨sa, na⟩ := a
  dsimp only at *
  have hlx := nv_len nx (by rw [ex]; exact hb)
  refine calls_vc mo fn_135 rfl ok_135 (Nat.le_of_ble_eq_true rfl) nm_135 ?_
  refine ⟨.take 0 (.take 1 (.take 2 (.take 3 (.take 4 (.take 5 (.take 6 (.take 7 (.take 8 (.take 9 (.one 10 [0] (.take 11 (.take 12 (.one 13 [] (.done)))))))))))))), by kernel_rfl, ?_⟩
  refine tkA (fa fo_56_1 _ _) ?_
  refine tkL na_54 cz rfl ?_
  refine tkA (fa fo_56_1 _ _) ?_
  refine tkL na_54 cx rfl ?_
  refine (mulAddWW_c oz.drew ox.drew (by omega) hk BW_pos).mono ?_
  rintro v w1 hr
  refine ⟨trivial, ?_⟩
  rw [ex, Nat.add_zero] at hr
  refine tkA (fa fo_56_1 _ _) ?_
  obtain ⟨w2, e2, D2, h2, f2⟩ := h.stAbs hz hr.undrew
  refine ⟨w2, e2, ?_⟩
  refine ⟨trivial, ?_⟩
  have hx2 : ∃ n, upd S z (z0.1, na * k) x = some (sa, n) := by
    rcases Classical.em (x = z) with e | e
    · subst e; rw [hz] at hx; cases hx; exact ⟨_, upd_self⟩
    · exact ⟨na, by rw [upd_ne e]; exact hx⟩
  obtain ⟨n2, hx2⟩ := hx2
  obtain ⟨vx2, lx2, cx2, _⟩ := (h2.int x _ hx2).all
  refine rnA (fa fo_56_0 _ _) ?_
  refine rnL na_4 cx2 rfl ?_
  refine rnA (bNB sa e _ _) ?_
  refine rnA (fa fo_56_0 _ _) ?_
  obtain ⟨w3, e3, r3⟩ := h2.stNeg upd_self (sa != e)
  refine ⟨w3, e3, ?_⟩
  exact ⟨rfl, IR.trans f2 r3⟩

theorem lehmerUpdate_I {w : World} {K : Nat → Prop} {S : Nat → Option Zn} {D : Nat → Option Nat} (h : Sto w K S D) {A B q r : Nat} {a b zq zr : Zn} (hA : S A = some a) (hB : S B = some b) (hq : S q = some zq) (hr : S r = some zr)
    (nAB : A ≠ B) (nAq : A ≠ q) (nAr : A ≠ r) (nBq : B ≠ q) (nBr : B ≠ r) (nqr : q ≠ r) (ba : a.2 < BW ^ 100) (bb : b.2 < BW ^ 100) {u0 u1 v0 v1 : Nat} (h0 : u0 < BW) (h1 : u1 < BW) (h2 : v0 < BW) (h3 : v1 < BW) {e : Bool} :
    CallX P 133 #[pI A, pI B, pI q, pI r, vw u0, vw u1, vw v0, vw v1, .bool e] w fun v w' => ∃ S' D', Sto w' K S' D' ∧ Fm (fun b => ¬ K b) w w' ∧
      S' A = some (zi (sg (!e) * (iv a * (u0 : Int)) + sg e * (iv b * (v0 : Int)))) ∧ S' B = some (zi (sg (!e) * (iv b * (v1 : Int)) + sg e * (iv a * (u1 : Int)))) ∧ S' q ≠ none ∧ S' r ≠ none ∧ ∀ p, p ≠ A → p ≠ B → p ≠ q → p ≠ r → S' p = S p := by
  obtain ⟨sa, na⟩ := a
  obtain ⟨sb, nb⟩ := b
  dsimp only at *
  have lt2 : ∀ {x k : Nat}, x < BW ^ 100 → k < BW → x * k < BW ^ 200 := fun {x k} hx hk => by
    have h5 : x * k < BW ^ 100 * BW := by
      rcases Nat.eq_zero_or_pos k with e0 | e0
      · subst e0; rw [Nat.mul_zero]; exact Nat.mul_pos (Nat.pow_pos BW_pos) BW_pos
      · exact Nat.lt_of_lt_of_le (Nat.mul_lt_mul_of_pos_right hx e0) (Nat.mul_le_mul_left _ (Nat.le_of_lt hk))
    rw [← Nat.pow_succ] at h5
    exact lt_pow h5 (by omega)
  refine calls_vc mo fn_133 rfl ok_133 (Nat.le_of_ble_eq_true rfl) nm_133 ?_
  refine (mulW_I h hq hB (lt_pow bb (by omega)) h2).mono ?_
  rintro _ w1 ⟨D1, s1, f1⟩
  have A1 : upd S q (sb != e, nb * v0) A = some (sa, na) := by rw [upd_ne nAq]; exact hA
  have B1 : upd S q (sb != e, nb * v0) B = some (sb, nb) := by rw [upd_ne nBq]; exact hB
  have r1 : upd S q (sb != e, nb * v0) r = some zr := by rw [upd_ne (fun e => nqr e.symm)]; exact hr
  have q1 : upd S q (sb != e, nb * v0) q = some (sb != e, nb * v0) := upd_self
  have o1 : ∀ p, p ≠ A → p ≠ B → p ≠ q → p ≠ r → upd S q (sb != e, nb * v0) p = S p := fun p _ _ h3 _ => upd_ne h3
  generalize upd S q (sb != e, nb * v0) = S1 at *
  refine (mulW_I s1 r1 A1 (lt_pow ba (by omega)) h1).mono ?_
  rintro _ w2 ⟨D2, s2, f2⟩
  have A2 : upd S1 r (sa != e, na * u1) A = some (sa, na) := by rw [upd_ne nAr]; exact A1
  have B2 : upd S1 r (sa != e, na * u1) B = some (sb, nb) := by rw [upd_ne nBr]; exact B1
  have q2 : upd S1 r (sa != e, na * u1) q = some (sb != e, nb * v0) := by rw [upd_ne nqr]; exact q1
  have r2 : upd S1 r (sa != e, na * u1) r = some (sa != e, na * u1) := upd_self
  have o2 : ∀ p, p ≠ A → p ≠ B → p ≠ q → p ≠ r → upd S1 r (sa != e, na * u1) p = S p := fun p a1 a2 a3 a4 => by rw [upd_ne a4]; exact o1 p a1 a2 a3 a4
  generalize upd S1 r (sa != e, na * u1) = S2 at *
  refine (mulW_I s2 A2 A2 (lt_pow ba (by omega)) h0).mono ?_
  rintro _ w3 ⟨D3, s3, f3⟩
  have A3 : upd S2 A (sa != !e, na * u0) A = some (sa != !e, na * u0) := upd_self
  have B3 : upd S2 A (sa != !e, na * u0) B = some (sb, nb) := by rw [upd_ne (fun e => nAB e.symm)]; exact B2
  have q3 : upd S2 A (sa != !e, na * u0) q = some (sb != e, nb * v0) := by rw [upd_ne (fun e => nAq e.symm)]; exact q2
  have r3 : upd S2 A (sa != !e, na * u0) r = some (sa != e, na * u1) := by rw [upd_ne (fun e => nAr e.symm)]; exact r2
  have o3 : ∀ p, p ≠ A → p ≠ B → p ≠ q → p ≠ r → upd S2 A (sa != !e, na * u0) p = S p := fun p a1 a2 a3 a4 => by rw [upd_ne a1]; exact o2 p a1 a2 a3 a4
  generalize upd S2 A (sa != !e, na * u0) = S3 at *
  refine (mulW_I s3 B3 B3 (lt_pow bb (by omega)) h3).mono ?_
  rintro _ w4 ⟨D4, s4, f4⟩
  have A4 : upd S3 B (sb != !e, nb * v1) A = some (sa != !e, na * u0) := by rw [upd_ne nAB]; exact A3
  have B4 : upd S3 B (sb != !e, nb * v1) B = some (sb != !e, nb * v1) := upd_self
  have q4 : upd S3 B (sb != !e, nb * v1) q = some (sb != e, nb * v0) := by rw [upd_ne (fun e => nBq e.symm)]; exact q3
  have r4 : upd S3 B (sb != !e, nb * v1) r = some (sa != e, na * u1) := by rw [upd_ne (fun e => nBr e.symm)]; exact r3
  have o4 : ∀ p, p ≠ A → p ≠ B → p ≠ q → p ≠ r → upd S3 B (sb != !e, nb * v1) p = S p := fun p a1 a2 a3 a4 => by rw [upd_ne a2]; exact o3 p a1 a2 a3 a4
  generalize upd S3 B (sb != !e, nb * v1) = S4 at *
  refine (add_I s4 A4 A4 q4 (lt2 ba h0) (lt2 bb h2)).mono ?_
  rintro _ w5 ⟨_, D5, s5, f5⟩
  rw [iv_sg, iv_sg] at s5
  have B5 : upd S4 A (zi (sg (!e) * (iv (sa, na) * (u0 : Int)) + sg e * (iv (sb, nb) * (v0 : Int)))) B = some (sb != !e, nb * v1) := by rw [upd_ne (fun e => nAB e.symm)]; exact B4
  have r5 : upd S4 A (zi (sg (!e) * (iv (sa, na) * (u0 : Int)) + sg e * (iv (sb, nb) * (v0 : Int)))) r = some (sa != e, na * u1) := by rw [upd_ne (fun e => nAr e.symm)]; exact r4
  refine (add_I s5 B5 B5 r5 (lt2 bb h3) (lt2 ba h1)).mono ?_
  rintro _ w6 ⟨_, D6, s6, f6⟩
  rw [iv_sg, iv_sg] at s6
  refine ⟨rfl, _, D6, s6, ((((f1.trans f2 (fun _ _ h => h)).trans f3 (fun _ _ h => h)).trans f4 (fun _ _ h => h)).trans f5 (fun _ _ h => h)).trans f6 (fun _ _ h => h), ?_, upd_self, ?_, ?_, fun p a1 a2 a3 a4 => ?_⟩
  · rw [upd_ne nAB, upd_self]
  · rw [upd_ne (fun e => nBq e.symm), upd_ne (fun e => nAq e.symm), q4]; simp
  · rw [upd_ne (fun e => nBr e.symm), upd_ne (fun e => nAr e.symm), r4]; simp
  · rw [upd_ne a2, upd_ne a1]; exact o4 p a1 a2 a3 a4

theorem zi_abs (x : Int) : (zi x).2 = x.natAbs := rfl

theorem euclidUpdate_I {w : World} {K : Nat → Prop} {S : Nat → Option Zn} {D : Nat → Option Nat} (hg : Gl w) (hgk : ∀ {w' : World}, Fm (fun b => ¬ K b) w w' → Gl w') (h : Sto w K S D) {A B C E q r na nb : Nat} {ua ub zq zr : Zn} (hA : S A = some (false, na)) (hB : S B = some (false, nb)) (hC : S C = some ua) (hE : S E = some ub) (hq : S q = some zq) (hr : S r = some zr)
    (nd : [A, B, C, E, q, r].Nodup) (ba : na < BW ^ 11) (bb : nb < BW ^ 11) (b0 : nb ≠ 0) (bu : ua.2 < BW ^ 200) (bv : ub.2 < BW ^ 11) :
    CallX P 134 #[pI A, pI B, pI C, pI E, pI q, pI r, .bool true] w fun v w' => v = .tuple #[pI B, pI r, pI A, pI E, pI C] ∧ ∃ S' D', Sto w' K S' D' ∧ Fm (fun b => ¬ K b) w w' ∧
      S' A = some (false, na) ∧ S' B = some (false, nb) ∧ S' r = some (false, na % nb) ∧ S' E = some ub ∧ S' C = some (zi (iv ua - ((na / nb : Nat) : Int) * iv ub)) ∧ S' q ≠ none ∧ ∀ p, p ≠ C → p ≠ q → p ≠ r → S' p = S p := by
  simp only [List.nodup_cons, List.mem_cons, List.not_mem_nil, or_false, not_or, List.nodup_nil, and_true, not_false_eq_true] at nd
  obtain ⟨⟨nAB, nAC, nAE, nAq, nAr⟩, ⟨nBC, nBE, nBq, nBr⟩, ⟨nCE, nCq, nCr⟩, ⟨nEq, nEr⟩, nqr⟩ := nd
  refine calls_vc mo fn_134 rfl ok_134 (Nat.le_of_ble_eq_true rfl) nm_134 ?_
  refine (quoRem_I hg h hq hr hA hB nqr (fun e => nAq e.symm) (fun e => nBq e.symm) (fun e => nBr e.symm) (lt_pow ba (by omega)) (lt_pow bb (by omega)) b0).mono ?_
  rintro v w1 ⟨rfl, D1, s1, f1⟩
  dsimp only at s1
  rw [show (decide (0 < na / nb) && (false != false)) = false by simp, show (decide (0 < na % nb) && false) = false by simp] at s1
  have g1 := hgk f1
  have o1 : ∀ p, p ≠ q → p ≠ r → upd (upd S q (false, na / nb)) r (false, na % nb) p = S p := fun p a1 a2 => by rw [upd_ne a2, upd_ne a1]
  have q1 : upd (upd S q (false, na / nb)) r (false, na % nb) q = some (false, na / nb) := by rw [upd_ne nqr, upd_self]
  have r1 : upd (upd S q (false, na / nb)) r (false, na % nb) r = some (false, na % nb) := upd_self
  generalize upd (upd S q (false, na / nb)) r (false, na % nb) = S1 at *
  have E1 : S1 E = some ub := by rw [o1 E nEq nEr]; exact hE
  have C1 : S1 C = some ua := by rw [o1 C nCq nCr]; exact hC
  have hqb : na / nb < BW ^ 11 := Nat.lt_of_le_of_lt (Nat.div_le_self _ _) ba
  refine ⟨fun _ => ?_, fun hc => (by cases hc)⟩
  refine (Mul_I g1 s1 q1 q1 E1 hqb bv).mono ?_
  rintro v w2 ⟨rfl, D2, s2, f2⟩
  have o2 : ∀ p, p ≠ q → upd S1 q (zi (iv (false, na / nb) * iv ub)) p = S1 p := fun p a1 => upd_ne a1
  have q2 : upd S1 q (zi (iv (false, na / nb) * iv ub)) q = some (zi (iv (false, na / nb) * iv ub)) := upd_self
  have hsz : (zi (iv (false, na / nb) * iv ub)).2 < BW ^ 200 := by
    rw [zi_abs, Int.natAbs_mul]
    have e1 : (iv (false, na / nb)).natAbs = na / nb := by
      show ((na / nb : Nat) : Int).natAbs = na / nb
      exact Int.natAbs_natCast _
    have e2 : (iv ub).natAbs = ub.2 := by
      obtain ⟨s, n⟩ := ub
      cases s <;> simp [iv]
    rw [e1, e2]
    have h5 : na / nb * ub.2 < BW ^ 11 * BW ^ 11 := Nat.mul_lt_mul_of_lt_of_le hqb (Nat.le_of_lt bv) (Nat.pow_pos BW_pos)
    rw [← Nat.pow_add] at h5
    exact lt_pow h5 (by omega)
  generalize upd S1 q (zi (iv (false, na / nb) * iv ub)) = S2 at *
  have C2 : S2 C = some ua := by rw [o2 C nCq]; exact C1
  refine (sub_I s2 C2 C2 q2 bu hsz).mono ?_
  rintro v w3 ⟨rfl, D3, s3, f3⟩
  rw [iv_zi] at s3
  refine ⟨rfl, rfl, _, D3, s3, (f1.trans f2 (fun _ _ h => h)).trans f3 (fun _ _ h => h), ?_, ?_, ?_, ?_, ?_, ?_, fun p a1 a2 a3 => ?_⟩
  · rw [upd_ne nAC, o2 A nAq, o1 A nAq nAr]; exact hA
  · rw [upd_ne nBC, o2 B nBq, o1 B nBq nBr]; exact hB
  · rw [upd_ne (fun e => nCr e.symm), o2 r (fun e => nqr e.symm)]; exact r1
  · rw [upd_ne (fun e => nCE e.symm), o2 E nEq]; exact E1
  · rw [upd_self]; rfl
  · rw [upd_ne (fun e => nCq e.symm), q2]; simp
  · rw [upd_ne a1, o2 p a2, o1 p a2 a3]

end Go.Vc
end
