/- Int.scan, setFromScanner, SetString, bigFromDecimal, bigFromHex. -/
import Derived.Test.YthahnloabllniaaGreatDoorM17
section
set_option linter.unusedSimpArgs false
set_option linter.unusedVariables false
set_option maxRecDepth 8000
set_option maxHeartbeats 1000000
namespace Go.Vc
open Go.Proofs

theorem Sto.put' {w w1 w3 : World} {K : Nat → Prop} {S : Nat → Option Zn} {D : Nat → Option Nat} (h : Sto w K S D) {z : Nat} {x0 : Zn} (hz : S z = some x0) {v : Value} {n : Nat} {s : Bool} {A : Nat → Prop} (hA : ∀ b, A b → K b) {d' : Option Nat} {l : List Nat} (ho : Own w1 v d' l) (hn : Nrm l) (hv : nv l = n) (hnd : Nd w w1 (D z) d') (hf : Fm (fun b => D z = some b ∨ A b) w w1)
    (hc : Cl w3 z [.bool s, v] 56) (hF : Fm (fun b => b = z) w1 w3) : ∃ D', Sto w3 K (upd S z (s, n)) D' ∧ Fm (fun b => ¬ K b ∨ A b) w w3 := by
  have hS : ∀ p x, upd S z (s, n) p = some x → (p = z ∧ x = (s, n)) ∨ (p ≠ z ∧ S p = some x) := fun p x e => by
    rcases Classical.em (p = z) with h1 | h1
    · subst h1; rw [upd_self] at e; cases e; exact .inl ⟨rfl, rfl⟩
    · rw [upd_ne h1] at e; exact .inr ⟨h1, e⟩
  have hsz1 := hf.size
  have hsz3 := hF.size
  obtain ⟨v0, l0, hc0, ho0, _, _⟩ := (h.int z x0 hz).all
  have hzd : D z ≠ some z := fun e => by
    rw [e] at ho0
    obtain ⟨fl, _, hw, _⟩ := ho0
    exact hc0.ne_word hw rfl
  have hzn : S z ≠ none := by rw [hz]; simp
  have hc1 : Cl w1 z [.bool x0.1, v0] 56 := hf.obj hc0 (fun e => e.elim hzd (fun h2 => h.kp z hzn (hA z h2)))
  have hSn : ∀ p, upd S z (s, n) p ≠ none → S p ≠ none := fun p e => by
    rcases Classical.em (p = z) with h1 | h1
    · rw [h1]; exact hzn
    · rwa [upd_ne h1] at e
  have hd' : ∀ b, d' = some b → (D z = some b ∨ w.heap.size ≤ b) := fun b e => by
    rcases hnd with h1 | h1 | ⟨b', h1, h2, _⟩
    · rw [h1] at e; cases e
    · rw [h1] at e; exact .inl e
    · rw [h1] at e; cases e; exact .inr h2
  refine ⟨fun p => if p = z then d' else D p, ⟨fun p x e => ?_, fun p q b hp hq e1 e2 => ?_, fun p hp => h.kp p (hSn p hp), fun p b hp e => ?_, fun b hb => by have := h.kl b hb; omega⟩, ?_⟩
  · rcases hS p x e with ⟨rfl, rfl⟩ | ⟨h1, h2⟩
    · simp only [if_true]
      refine ⟨v, l, hc, ho.fm hF (fun b e e2 => ?_), hn, hv⟩
      subst e; subst e2
      obtain ⟨fl, _, hw, _⟩ := ho
      exact hc1.ne_word hw rfl
    · simp only [if_neg h1]
      obtain ⟨v2, l2, g1, g2, g3, g4⟩ := (h.int p x h2).all
      have hne : S p ≠ none := by rw [h2]; simp
      refine ⟨v2, l2, hF.obj (hf.obj g1 (fun e => e.elim (fun e => ?_) (fun h2 => h.kp p hne (hA p h2)))) h1, (g2.fm hf (fun b e1 e2 => e2.elim (fun e2 => h1 (h.inj p z b hne hzn e1 e2)) (fun h2 => h.kd p b hne e1 (hA b h2)))).fm hF (fun b e1 e2 => ?_), g3, g4⟩
      · rw [e] at ho0
        obtain ⟨fl, _, hw, _⟩ := ho0
        exact g1.ne_word hw rfl
      · rw [e1, e2] at g2
        obtain ⟨fl, _, hw, _⟩ := g2
        exact hc0.ne_word hw rfl
  · have h1 := hSn p hp
    have h2 := hSn q hq
    have lt : ∀ q, S q ≠ none → D q = some b → b < w.heap.size := fun q hq e => by
      cases hsq : S q with
      | none => exact absurd hsq hq
      | some x => have := h.int q x hsq; rw [e] at this; exact this.dlt
    rcases Classical.em (p = z) with hpz | hpz
    · rcases Classical.em (q = z) with hqz | hqz
      · rw [hpz, hqz]
      · simp only [if_pos hpz] at e1
        simp only [if_neg hqz] at e2
        rcases hd' b e1 with h3 | h3
        · rw [hpz]; exact h.inj z q b hzn h2 h3 e2
        · have := lt q h2 e2; omega
    · rcases Classical.em (q = z) with hqz | hqz
      · simp only [if_neg hpz] at e1
        simp only [if_pos hqz] at e2
        rcases hd' b e2 with h3 | h3
        · rw [hqz]; exact h.inj p z b h1 hzn e1 h3
        · have := lt p h1 e1; omega
      · simp only [if_neg hpz] at e1
        simp only [if_neg hqz] at e2
        exact h.inj p q b h1 h2 e1 e2
  · rcases Classical.em (p = z) with hpz | hpz
    · simp only [if_pos hpz] at e
      rcases hd' b e with h3 | h3
      · exact h.kd z b hzn h3
      · intro hk; have := h.kl b hk; omega
    · simp only [if_neg hpz] at e
      exact h.kd p b (hSn p hp) e
  · exact (hf.mono (fun b _ e => e.elim (fun e => Or.inl (h.kd z b hzn e)) Or.inr)).trans hF (fun b _ e => by rw [e]; exact .inl (h.kp z hzn))


theorem Sto.weakK {w : World} {K K' : Nat → Prop} {S : Nat → Option Zn} {D : Nat → Option Nat} (h : Sto w K S D) (hk : ∀ b, K' b → K b) : Sto w K' S D :=
  ⟨h.int, h.inj, fun p hp hb => h.kp p hp (hk p hb), fun p b hp e hb => h.kd p b hp e (hk b hb), fun b hb => h.kl b (hk b hb)⟩

theorem intScan_c {w : World} {K : Nat → Prop} {S : Nat → Option Zn} {D : Nat → Option Nat} (h : Sto w K S D) {z r B off : Nat} {be : Addr} {z0 : Zn} {s : ByteArray} {base : Int} (hz : S z = some z0) (hK : K r) (hr : RdAt w r s 0) (he : Cl w 0 [eofV be] 64)
    (hp : Pre s base B off) (hm : off < s.size) (hs : s.size < 400) (h0 : 48 ≤ dg (bts s) 0) (hc : ∀ i, off ≤ i → i < s.size → Dc B (dg (bts s) i)) :
    CallX P 76 #[pI z, .iface 109 (pR r), .int .i64 base] w fun v w' => v = .tuple #[pI z, .int .i64 (B : Int), .nilIface] ∧ ∃ D', Sto w' K (upd S z (false, num B (digs s off))) D' ∧ RdAt w' r s s.size ∧ Cl w' 0 [eofV be] 64 ∧ Fm (fun b => ¬ K b ∨ b = r) w w' := by
  refine calls_vc mo fn_76 rfl ok_76 (Nat.le_of_ble_eq_true rfl) nm_76 ?_
  (refine vsr ?_)
  (repeat refine vcl_v _ rfl rfl ?_); (refine vcl_end ?_)
  (refine vsr ?_)
  refine (scanSign_c hr (by omega) (by omega) h0).mono ?_
  rintro v w1 ⟨rfl, hr1, f1⟩
  have h1 := h.fm f1 (fun b e => .inl (by rw [e]; exact hK))
  have he1 := eof_fmR he hr f1
  (repeat refine vcl_v _ rfl rfl ?_); (refine vcl_end ?_)
  refine rnA (nNN _) ?_
  refine ⟨fun hc => (by cases hc), fun _ => ?_⟩
  obtain ⟨vz, lz, cz, oz, nz, ez⟩ := (h1.int z z0 hz).all
  have hzn : S z ≠ none := by rw [hz]; simp
  refine rnA (fa fo_56_1 _ _) ?_
  refine rnL na_54 cz rfl ?_
  refine (scan_c oz hr1 he1 hp hm hs hc).mono ?_
  rintro v w2 ⟨z', d, l, rfl, hO, hN, hnv, hnd, hr2, f2⟩
  have hzd := h1.nd hz hz
  have hzr : z ≠ r := fun e => h.kp z hzn (e ▸ hK)
  have cz2 := f2.obj cz (fun e => e.elim hzd hzr)
  have he2 : Cl w2 0 [eofV be] 64 := f2.obj he1 (fun e => e.elim (fun e => by
    rw [e] at oz
    obtain ⟨fl, _, hw, _⟩ := oz
    exact hw.cl.ne_T he1 (by decide) rfl) (fun e => by
    obtain ⟨x, hcr⟩ := hr1.all
    subst e
    have := he1.symm.trans hcr
    simp at this))
  refine rnA (fa fo_56_1 _ _) ?_
  obtain ⟨w3, e3, c3, f3, s3⟩ := st sz_54 cz2 (i := 0 + 1) (by simp) (v := z') hO.one
  refine ⟨w3, e3, ?_⟩
  refine rnA (nNN _) ?_
  refine ⟨fun hc => (by cases hc), fun _ => ?_⟩
  obtain ⟨a1, k1, rfl, _⟩ := hO.val
  refine rnA (fa fo_56_1 _ _) ?_
  refine rnL na_54 c3 rfl ?_
  refine ⟨_, _, ln se_54 _ _ _ _ _ _, ?_⟩
  have fin : ∃ w4, (Instr.storeAt 4 (.pointer (some ⟨z, 0 + 0, none⟩)) (.bool false)).run P w3 = .ok () w4 ∧ ∃ D', Sto w4 K (upd S z (false, num B (digs s off))) D' ∧ RdAt w4 r s s.size ∧ Cl w4 0 [eofV be] 64 ∧ Fm (fun b => ¬ K b ∨ b = r) w w4 := by
    obtain ⟨w4, e4, c4, f4, s4⟩ := st sz_4 c3 (i := 0 + 0) (by simp) (v := .bool false) rfl
    have f34 := f3.trans f4 (fun _ _ h => h)
    obtain ⟨D', hS, hF⟩ := h1.put' hz (A := fun b => b = r) (fun b e => by rw [e]; exact hK) hO hN hnv hnd f2 c4 f34
    refine ⟨w4, e4, D', hS, hr2.fm f34 (fun e => hzr e.symm), f34.obj he2 (fun e => ?_), (f1.mono (fun b _ e => .inr e)).trans hF (fun b _ e => e)⟩
    rw [← e] at cz2
    have := he2.symm.trans cz2
    simp at this
  obtain ⟨w4, e4, hfin⟩ := fin
  rcases Nat.eq_zero_or_pos l.length with hl | hl
  · refine ⟨_, bGtF (by omega), ?_⟩
    refine rnA (fa fo_56_0 _ _) ?_
    exact ⟨w4, e4, rfl, rfl, hfin⟩
  · refine ⟨_, bGt (by omega), ?_⟩
    refine rnA (fa fo_56_0 _ _) ?_
    exact ⟨w4, e4, rfl, rfl, hfin⟩

theorem setFromScanner_c {w : World} {K : Nat → Prop} {S : Nat → Option Zn} {D : Nat → Option Nat} (h : Sto w K S D) {z r B off : Nat} {be : Addr} {z0 : Zn} {s : ByteArray} {base : Int} (hz : S z = some z0) (hK : K r) (hr : RdAt w r s 0) (he : Cl w 0 [eofV be] 64)
    (hp : Pre s base B off) (hm : off < s.size) (hs : s.size < 400) (h0 : 48 ≤ dg (bts s) 0) (hc : ∀ i, off ≤ i → i < s.size → Dc B (dg (bts s) i)) :
    CallX P 53 #[pI z, .iface 109 (pR r), .int .i64 base] w fun v w' => v = .tuple #[pI z, .bool true] ∧ ∃ D', Sto w' K (upd S z (false, num B (digs s off))) D' ∧ Fm (fun b => ¬ K b ∨ b = r) w w' := by
  refine calls_vc mo fn_53 rfl ok_53 (Nat.le_of_ble_eq_true rfl) nm_53 ?_
  (refine vsr ?_)
  (repeat refine vcl_v _ rfl rfl ?_); (refine vcl_end ?_)
  refine (intScan_c h hz hK hr he hp hm hs h0 hc).mono ?_
  rintro v w1 ⟨rfl, D1, h1, hr1, he1, f1⟩
  refine rnA (nNN _) ?_
  refine ⟨fun hc => (by cases hc), fun _ => ?_⟩
  refine ⟨_, _, mRB _ _, ?_⟩
  refine (readByte_eof hr1 rfl he1).mono ?_
  rintro v w2 ⟨rfl, hr2, f2⟩
  have he2 := eof_fmR he1 hr1 f2
  refine rnL na_64 he2 rfl ?_
  refine rnA (nEE _ _ _) ?_
  refine ⟨fun hc => (by cases hc), fun _ => ?_⟩
  exact ⟨rfl, rfl, D1, h1.fm f2 (fun b e => .inl (by rw [e]; exact hK)), f1.trans f2 (fun b _ e => .inr e)⟩

theorem bldR (s : ByteArray) (w : World) : (Instr.build 132 [(0, Value.string s), (1, .int .i64 0), (2, .int .i64 (-1))].toArray).run P w = .ok (.agg #[.string s, .int .i64 0, .int .i64 (-1)]) w := by kernel_rfl
theorem mkIR (r : Nat) (w : World) : (Instr.makeInterface 109 (pR r)).run P w = .ok (.iface 109 (pR r)) w := by kernel_rfl

theorem newReader_c (s : ByteArray) (w : World) : CallX P 54 #[.string s] w fun v w' => v = pR w.heap.size ∧ RdAt w' w.heap.size s 0 ∧ Fm (fun _ => False) w w' ∧ w'.heap.size = w.heap.size + 1 := by
  refine calls_vc mo fn_54 rfl ok_54 (Nat.le_of_ble_eq_true rfl) nm_54 ?_
  (refine vsr ?_)
  (repeat refine vcl_v _ rfl rfl ?_); (refine vcl_end ?_)
  refine rnA (bldR s) ?_
  obtain ⟨u3, e3, c3, f3, s3⟩ := bx 132 (v := .agg #[.string s, .int .i64 0, .int .i64 (-1)]) (cs := [.string s, .int .i64 0, .int .i64 (-1)]) rfl w
  refine ⟨_, u3, e3, ?_⟩
  exact ⟨rfl, rfl, ⟨_, c3⟩, f3, s3⟩

/-- What is asked of a number's letters. -/
structure Lit (s : ByteArray) (base : Int) (N : Nat) : Prop where
  all : ∃ B off, Pre s base B off ∧ off < s.size ∧ s.size < 400 ∧ 48 ≤ dg (bts s) 0 ∧ (∀ i, off ≤ i → i < s.size → Dc B (dg (bts s) i)) ∧ num B (digs s off) = N

theorem setString_I {w : World} {K : Nat → Prop} {S : Nat → Option Zn} {D : Nat → Option Nat} (h : Sto w K S D) {z N : Nat} {be : Addr} {z0 : Zn} {s : ByteArray} {base : Int} (hz : S z = some z0) (he : Cl w 0 [eofV be] 64) (hl : Lit s base N) :
    CallX P 41 #[pI z, .string s, .int .i64 base] w fun v w' => v = .tuple #[pI z, .bool true] ∧ IR w K S z (false, N) w' := by
  obtain ⟨B, off, hp, hm, hs, h0, hc, rfl⟩ := hl.all
  refine calls_vc mo fn_41 rfl ok_41 (Nat.le_of_ble_eq_true rfl) nm_41 ?_
  (refine vsr ?_)
  (repeat refine vcl_v _ rfl rfl ?_); (refine vcl_end ?_)
  refine (newReader_c s w).mono ?_
  rintro v w1 ⟨rfl, hr1, f1, s1⟩
  refine rnA (mkIR _) ?_
  have h1 := h.keep f1
  refine (setFromScanner_c h1 hz (.inr ⟨Nat.le_refl _, by omega⟩) hr1 (f1.obj he (fun h => h)) hp hm hs h0 hc).mono ?_
  rintro v w2 ⟨rfl, D2, h2, f2⟩
  refine ⟨rfl, rfl, D2, h2.weakK (fun b hb => .inl hb), (f1.mono (fun _ _ h => h.elim)).trans f2 (fun b hb e => ?_)⟩
  rcases e with e | e
  · exact fun hk => e (.inl hk)
  · omega

theorem bigFromDecimal_c {w : World} {K : Nat → Prop} {S : Nat → Option Zn} {D : Nat → Option Nat} (h : Sto w K S D) {be : Addr} {N : Nat} {s : ByteArray} (he : Cl w 0 [eofV be] 64) (hl : Lit s 10 N) :
    CallX P 50 #[.string s] w fun v w' => ∃ q D', w.heap.size ≤ q ∧ v = pI q ∧ Sto w' K (upd S q (false, N)) D' ∧ Fm (fun b => ¬ K b) w w' := by
  refine calls_vc mo fn_50 rfl ok_50 (Nat.le_of_ble_eq_true rfl) nm_50 ?_
  (refine vsr ?_)
  (repeat refine vcl_v _ rfl rfl ?_); (refine vcl_end ?_)
  (refine vsr ?_)
  obtain ⟨w1, e1, c1, f1, s1⟩ := nwI w
  refine ⟨_, w1, e1, ?_⟩
  obtain ⟨D1, h1⟩ := h.new c1 f1
  refine (setString_I h1 upd_self (f1.obj he (fun h => h)) hl).mono ?_
  rintro v w2 ⟨rfl, D2, h2, f2⟩
  (repeat refine vcl_v _ rfl rfl ?_); (refine vcl_end ?_)
  refine ⟨fun hc => (by cases hc), fun _ => ?_⟩
  refine ⟨rfl, w.heap.size, D2, Nat.le_refl _, rfl, h2.weak (fun p x e => ?_), (f1.mono (fun _ _ h => h.elim)).trans f2 (fun b _ e => e)⟩
  rcases Classical.em (p = w.heap.size) with h3 | h3
  · subst h3; rw [upd_self] at e ⊢; exact e
  · rw [upd_ne h3] at e ⊢; rw [upd_ne h3]; exact e

theorem bigFromHex_c {w : World} {K : Nat → Prop} {S : Nat → Option Zn} {D : Nat → Option Nat} (h : Sto w K S D) {be : Addr} {N : Nat} {s : ByteArray} (he : Cl w 0 [eofV be] 64) (hl : Lit s 16 N) :
    CallX P 51 #[.string s] w fun v w' => ∃ q D', w.heap.size ≤ q ∧ v = pI q ∧ Sto w' K (upd S q (false, N)) D' ∧ Fm (fun b => ¬ K b) w w' := by
  refine calls_vc mo fn_51 rfl ok_51 (Nat.le_of_ble_eq_true rfl) nm_51 ?_
  (refine vsr ?_)
  (repeat refine vcl_v _ rfl rfl ?_); (refine vcl_end ?_)
  (refine vsr ?_)
  obtain ⟨w1, e1, c1, f1, s1⟩ := nwI w
  refine ⟨_, w1, e1, ?_⟩
  obtain ⟨D1, h1⟩ := h.new c1 f1
  refine (setString_I h1 upd_self (f1.obj he (fun h => h)) hl).mono ?_
  rintro v w2 ⟨rfl, D2, h2, f2⟩
  (repeat refine vcl_v _ rfl rfl ?_); (refine vcl_end ?_)
  refine ⟨fun hc => (by cases hc), fun _ => ?_⟩
  refine ⟨rfl, w.heap.size, D2, Nat.le_refl _, rfl, h2.weak (fun p x e => ?_), (f1.mono (fun _ _ h => h.elim)).trans f2 (fun b _ e => e)⟩
  rcases Classical.em (p = w.heap.size) with h3 | h3
  · subst h3; rw [upd_self] at e ⊢; exact e
  · rw [upd_ne h3] at e ⊢; rw [upd_ne h3]; exact e

end Go.Vc
end

section
/- Registers: a list of Ints and their values. -/
set_option linter.unusedSimpArgs false
set_option linter.unusedVariables false
set_option maxRecDepth 8000
set_option maxHeartbeats 1000000
namespace Go.Vc
open Go.Proofs

structure Rg (S : Nat → Option Zn) (ps : List Nat) (vs : List Zn) : Prop where
  nd : ps.Nodup
  len : ps.length = vs.length
  get : ∀ {i z : Nat} {v : Zn}, ps[i]? = some z → vs[i]? = some v → S z = some v

theorem nodup_ix {l : List Nat} (h : l.Nodup) : ∀ {i j : Nat} {x : Nat}, l[i]? = some x → l[j]? = some x → i = j := by
  induction l with
  | nil => intro i j x h1; simp at h1
  | cons y r ih =>
    intro i j x h1 h2
    rw [List.nodup_cons] at h
    cases i with
    | zero =>
      cases j with
      | zero => rfl
      | succ j =>
        simp only [List.getElem?_cons_zero, Option.some.injEq] at h1
        simp only [List.getElem?_cons_succ] at h2
        subst h1
        exact absurd (List.mem_of_getElem? h2) h.1
    | succ i =>
      cases j with
      | zero =>
        simp only [List.getElem?_cons_zero, Option.some.injEq] at h2
        simp only [List.getElem?_cons_succ] at h1
        subst h2
        exact absurd (List.mem_of_getElem? h1) h.1
      | succ j =>
        simp only [List.getElem?_cons_succ] at h1 h2
        rw [ih h.2 h1 h2]

theorem Rg.set {S : Nat → Option Zn} {ps : List Nat} {vs : List Zn} (h : Rg S ps vs) {i z : Nat} (hz : ps[i]? = some z) (r : Zn) : Rg (upd S z r) ps (vs.set i r) := by
  refine ⟨h.nd, by rw [List.length_set]; exact h.len, fun {j z' v} h1 h2 => ?_⟩
  rcases Classical.em (j = i) with e | e
  · subst e
    rw [hz] at h1
    cases h1
    have hl : j < vs.length := by rw [← h.len]; exact (List.getElem?_eq_some_iff.1 hz).1
    rw [List.getElem?_set_self hl] at h2
    cases h2
    exact upd_self
  · rw [List.getElem?_set_ne (fun e2 => e e2.symm)] at h2
    rw [upd_ne (fun (e2 : z' = z) => e (nodup_ix h.nd h1 (by rw [e2]; exact hz)))]
    exact h.get h1 h2

theorem Rg.snoc {S : Nat → Option Zn} {ps : List Nat} {vs : List Zn} (h : Rg S ps vs) {q : Nat} (hq : ∀ p ∈ ps, p < q) (r : Zn) : Rg (upd S q r) (ps ++ [q]) (vs ++ [r]) := by
  refine ⟨?_, by rw [List.length_append, List.length_append, h.len]; rfl, fun {j z v} h1 h2 => ?_⟩
  · rw [List.nodup_append]
    refine ⟨h.nd, by simp, fun a ha b hb e => ?_⟩
    rw [List.mem_singleton] at hb
    have := hq a ha
    omega
  · rcases Nat.lt_or_ge j ps.length with hj | hj
    · rw [List.getElem?_append_left hj] at h1
      rw [List.getElem?_append_left (by rw [← h.len]; exact hj)] at h2
      have := hq z (List.mem_of_getElem? h1)
      rw [upd_ne (by omega)]
      exact h.get h1 h2
    · have hj2 : j = ps.length := by
        have := (List.getElem?_eq_some_iff.1 h1).1
        rw [List.length_append] at this
        simp at this
        omega
      subst hj2
      rw [List.getElem?_append_right (Nat.le_refl _), Nat.sub_self] at h1
      rw [h.len, List.getElem?_append_right (Nat.le_refl _), Nat.sub_self] at h2
      cases h1; cases h2
      exact upd_self

theorem Rg.lt {w : World} {K : Nat → Prop} {S : Nat → Option Zn} {D : Nat → Option Nat} (h : Sto w K S D) {ps : List Nat} {vs : List Zn} (hr : Rg S ps vs) : ∀ p ∈ ps, p < w.heap.size := fun p hp => by
  obtain ⟨i, hi⟩ := List.getElem?_of_mem hp
  have hl : i < vs.length := by rw [← hr.len]; exact (List.getElem?_eq_some_iff.1 hi).1
  exact (h.int p _ (hr.get hi (List.getElem?_eq_getElem hl))).lt

/-- The globals, as long as K is left alone. -/
structure Env (w0 : World) (K : Nat → Prop) (be : Addr) : Prop where
  gl : ∀ {w'}, Fm (fun b => ¬ K b) w0 w' → Gl w'
  eo : ∀ {w'}, Fm (fun b => ¬ K b) w0 w' → Cl w' 0 [eofV be] 64

structure Rs (w0 w : World) (K : Nat → Prop) (ps : List Nat) (vs : List Zn) : Prop where
  all : ∃ S D, Sto w K S D ∧ Rg S ps vs ∧ Fm (fun b => ¬ K b) w0 w

theorem Rs.fm {w0 w : World} {K : Nat → Prop} {ps : List Nat} {vs : List Zn} (h : Rs w0 w K ps vs) : Fm (fun b => ¬ K b) w0 w := by
  obtain ⟨S, D, _, _, hF⟩ := h.all; exact hF

/-- A value has been laid into a register. -/
theorem Rs.up {w0 w w' : World} {K : Nat → Prop} {S : Nat → Option Zn} {ps : List Nat} {vs : List Zn} (hr : Rg S ps vs) (F : Fm (fun b => ¬ K b) w0 w) (i : Nat) {z : Nat} (hz : ps[i]? = some z) {r : Zn} (hI : IR w K S z r w') : Rs w0 w' K ps (vs.set i r) := by
  obtain ⟨D', h, f⟩ := hI
  exact ⟨_, D', h, hr.set hz r, F.trans f (fun _ _ h => h)⟩

/-- Nothing of the registers has been touched. -/
theorem Rs.un {w0 w w' : World} {K A : Nat → Prop} {ps : List Nat} {vs : List Zn} (h : Rs w0 w K ps vs) (f : Fm A w w') (hA : ∀ b, A b → w.heap.size ≤ b) : Rs w0 w' K ps vs := by
  obtain ⟨S, D, h, hr, F⟩ := h.all
  exact ⟨S, D, h.fm f (fun b e => .inr (hA b e)), hr, F.trans f (fun b hb e => by have := hA b e; have := F.size; omega)⟩

theorem Rs.dr {w0 w : World} {K : Nat → Prop} {ps : List Nat} {vs : List Zn} (h : Rs w0 w K ps vs) : Rs w0 w.drew K ps vs := h.un (Fm.drew (fun _ => False) w) (fun _ h => h.elim)

/-- What has been made is left alone from now on. -/
theorem Rs.re {w0 w w' : World} {K : Nat → Prop} {ps : List Nat} {vs : List Zn} (h : Rs w0 w K ps vs) (f : Fm (fun _ => False) w w') : Rs w' w' (fun b => K b ∨ (w.heap.size ≤ b ∧ b < w'.heap.size)) ps vs := by
  obtain ⟨S, D, h, hr, F⟩ := h.all
  exact ⟨S, D, h.keep f, hr, Fm.refl _ _⟩

theorem Env.re {w0 w w' : World} {K : Nat → Prop} {be : Addr} (E : Env w0 K be) (F : Fm (fun b => ¬ K b) w0 w) (f : Fm (fun _ => False) w w') : Env w' (fun b => K b ∨ (w.heap.size ≤ b ∧ b < w'.heap.size)) be := by
  have go : ∀ {w''}, Fm (fun b => ¬ (K b ∨ (w.heap.size ≤ b ∧ b < w'.heap.size))) w' w'' → Fm (fun b => ¬ K b) w0 w'' := fun g =>
    (F.trans f (fun _ _ h => h.elim)).trans g (fun b _ e hk => e (.inl hk))
  exact ⟨fun g => E.gl (go g), fun g => E.eo (go g)⟩

theorem Rs.out {w0 w w' w'' : World} {K : Nat → Prop} (F : Fm (fun b => ¬ K b) w0 w) (f : Fm (fun _ => False) w w') (g : Fm (fun b => ¬ (K b ∨ (w.heap.size ≤ b ∧ b < w'.heap.size))) w' w'') : Fm (fun b => ¬ K b) w0 w'' :=
  (F.trans f (fun _ _ h => h.elim)).trans g (fun b _ e hk => e (.inl hk))

/-- A cell that is left alone. -/
theorem Rs.cl {w0 w : World} {K : Nat → Prop} {ps : List Nat} {vs : List Zn} (h : Rs w0 w K ps vs) {b : Nat} {cs : List Value} {T : TypeId} (hc : Cl w0 b cs T) (hk : K b) : Cl w b cs T := h.fm.obj hc (fun e => e hk)

/-- A new register. -/
theorem alI {w0 w : World} {K : Nat → Prop} {ps : List Nat} {vs : List Zn} (h : Rs w0 w K ps vs) : ∃ q w', (Instr.alloc 56 true (.tuple #[])).run P w = .ok (pI q) w' ∧ Rs w0 w' K (ps ++ [q]) (vs ++ [(false, 0)]) ∧ q = w.heap.size := by
  obtain ⟨S, D, h, hr, F⟩ := h.all
  obtain ⟨w', e, c, f, s⟩ := nwI w
  obtain ⟨D', h'⟩ := h.new c f
  exact ⟨_, w', e, ⟨_, D', h', hr.snoc (Rg.lt h hr) _, F.trans f (fun _ _ h => h.elim)⟩, rfl⟩

theorem newInt_R {w0 w : World} {K : Nat → Prop} {ps : List Nat} {vs : List Zn} (h : Rs w0 w K ps vs) {x : Int} (hx : -4611686018427387904 ≤ x ∧ x ≤ 4611686018427387904) :
    CallX P 55 #[.int .i64 x] w fun v w' => ∃ q, v = pI q ∧ w.heap.size ≤ q ∧ Rs w0 w' K (ps ++ [q]) (vs ++ [zi x]) := by
  obtain ⟨S, D, h, hr, F⟩ := h.all
  refine (newInt_c h hx).mono ?_
  rintro v w1 ⟨q, D1, hq, rfl, h1, f1⟩
  exact ⟨q, rfl, hq, _, D1, h1, hr.snoc (fun p hp => by have := Rg.lt h hr p hp; omega) _, F.trans f1 (fun _ _ h => h.elim)⟩

theorem zi2 (a : Int) : (zi a).2 = a.natAbs := rfl

theorem Int.emod_natAbs {x : Int} {p : Nat} (hp : 0 < p) : (x % (p : Int)).natAbs < p := by
  have h1 := Int.emod_nonneg x (show (p : Int) ≠ 0 by omega)
  have h2 := Int.emod_lt_of_pos x (show (0 : Int) < p by omega)
  omega

end Go.Vc
end

section
/- The closures of the map: add, mul, sqr, exp, sgn, cmv modulo p, over registers. -/
set_option linter.unusedSimpArgs false
set_option linter.unusedVariables false
set_option maxRecDepth 8000
set_option maxHeartbeats 1000000
namespace Go.Vc
open Go.Proofs


theorem modR {w0 w : World} {K : Nat → Prop} {ps : List Nat} {vs : List Zn} {be : Addr} {p : Nat} (E : Env w0 K be) (R : Rs w0 w K ps vs) {pp : Nat} (hp : ps[0]? = some pp) (hv : vs[0]? = some (false, p)) (p1 : 1 < p) (p2 : p < BW ^ 10) {i j z y : Nat} {a : Int} (i0 : i ≠ 0) (hz : ps[i]? = some z) (hy : ps[j]? = some y) (ha : vs[j]? = some (zi a)) (ba : a.natAbs < BW ^ 200) :
    CallX P 60 #[pI z, pI y, pI pp] w fun v w' => v = pI z ∧ Rs w0 w' K ps (vs.set i (zi (a % (p : Int)))) := by
  obtain ⟨S, D, h, hr, F⟩ := R.all
  have hl : i < vs.length := by rw [← hr.len]; exact (List.getElem?_eq_some_iff.1 hz).1
  refine (mod_I (E.gl F) h (hr.get hz (List.getElem?_eq_getElem hl)) (hr.get hy ha) (hr.get hp hv) (fun e => i0 (nodup_ix hr.nd hz (e ▸ hp))) ba (lt_pow p2 (by omega)) (by omega) rfl).mono ?_
  rintro v w1 ⟨rfl, hI⟩
  rw [iv_zi] at hI
  exact ⟨rfl, Rs.up hr F i hz hI⟩

theorem addR {w0 w : World} {K : Nat → Prop} {ps : List Nat} {vs : List Zn} (R : Rs w0 w K ps vs) {i j k z x y : Nat} {a b : Int} (hz : ps[i]? = some z) (hx : ps[j]? = some x) (hy : ps[k]? = some y) (ha : vs[j]? = some (zi a)) (hb : vs[k]? = some (zi b)) (ba : a.natAbs < BW ^ 150) (bb : b.natAbs < BW ^ 150) :
    CallX P 59 #[pI z, pI x, pI y] w fun v w' => v = pI z ∧ Rs w0 w' K ps (vs.set i (zi (a + b))) := by
  obtain ⟨S, D, h, hr, F⟩ := R.all
  have hl : i < vs.length := by rw [← hr.len]; exact (List.getElem?_eq_some_iff.1 hz).1
  refine (add_I h (hr.get hz (List.getElem?_eq_getElem hl)) (hr.get hx ha) (hr.get hy hb) (lt_pow ba (by omega)) (lt_pow bb (by omega))).mono ?_
  rintro v w1 ⟨rfl, hI⟩
  rw [iv_zi, iv_zi] at hI
  exact ⟨rfl, Rs.up hr F i hz hI⟩

theorem subR {w0 w : World} {K : Nat → Prop} {ps : List Nat} {vs : List Zn} (R : Rs w0 w K ps vs) {i j k z x y : Nat} {a b : Int} (hz : ps[i]? = some z) (hx : ps[j]? = some x) (hy : ps[k]? = some y) (ha : vs[j]? = some (zi a)) (hb : vs[k]? = some (zi b)) (ba : a.natAbs < BW ^ 150) (bb : b.natAbs < BW ^ 150) :
    CallX P 56 #[pI z, pI x, pI y] w fun v w' => v = pI z ∧ Rs w0 w' K ps (vs.set i (zi (a - b))) := by
  obtain ⟨S, D, h, hr, F⟩ := R.all
  have hl : i < vs.length := by rw [← hr.len]; exact (List.getElem?_eq_some_iff.1 hz).1
  refine (sub_I h (hr.get hz (List.getElem?_eq_getElem hl)) (hr.get hx ha) (hr.get hy hb) (lt_pow ba (by omega)) (lt_pow bb (by omega))).mono ?_
  rintro v w1 ⟨rfl, hI⟩
  rw [iv_zi, iv_zi] at hI
  exact ⟨rfl, Rs.up hr F i hz hI⟩

theorem mulR {w0 w : World} {K : Nat → Prop} {ps : List Nat} {vs : List Zn} {be : Addr} (E : Env w0 K be) (R : Rs w0 w K ps vs) {i j k z x y : Nat} {a b : Int} (hz : ps[i]? = some z) (hx : ps[j]? = some x) (hy : ps[k]? = some y) (ha : vs[j]? = some (zi a)) (hb : vs[k]? = some (zi b)) (ba : a.natAbs < BW ^ 30) (bb : b.natAbs < BW ^ 30) (bs : j = k → a.natAbs < BW ^ 11) :
    CallX P 62 #[pI z, pI x, pI y] w fun v w' => v = pI z ∧ Rs w0 w' K ps (vs.set i (zi (a * b))) := by
  obtain ⟨S, D, h, hr, F⟩ := R.all
  have hl : i < vs.length := by rw [← hr.len]; exact (List.getElem?_eq_some_iff.1 hz).1
  refine (Mul_I' (E.gl F) h (hr.get hz (List.getElem?_eq_getElem hl)) (hr.get hx ha) (hr.get hy hb) ba bb (fun e => bs (nodup_ix hr.nd hx (by rw [e]; exact hy)))).mono ?_
  rintro v w1 ⟨rfl, hI⟩
  rw [iv_zi, iv_zi] at hI
  exact ⟨rfl, Rs.up hr F i hz hI⟩

theorem setR {w0 w : World} {K : Nat → Prop} {ps : List Nat} {vs : List Zn} (R : Rs w0 w K ps vs) {i j z x : Nat} {a : Zn} (hz : ps[i]? = some z) (hx : ps[j]? = some x) (ha : vs[j]? = some a) (ba : a.2 < BW ^ 250) :
    CallX P 28 #[pI z, pI x] w fun v w' => v = pI z ∧ Rs w0 w' K ps (vs.set i a) := by
  obtain ⟨S, D, h, hr, F⟩ := R.all
  have hl : i < vs.length := by rw [← hr.len]; exact (List.getElem?_eq_some_iff.1 hz).1
  refine (set_I h (hr.get hz (List.getElem?_eq_getElem hl)) (hr.get hx ha) ba).mono ?_
  rintro v w1 ⟨rfl, hI⟩
  exact ⟨rfl, Rs.up hr F i hz hI⟩

theorem negR {w0 w : World} {K : Nat → Prop} {ps : List Nat} {vs : List Zn} (R : Rs w0 w K ps vs) {i j z x : Nat} {a : Int} (hz : ps[i]? = some z) (hx : ps[j]? = some x) (ha : vs[j]? = some (zi a)) (ba : a.natAbs < BW ^ 250) :
    CallX P 69 #[pI z, pI x] w fun v w' => v = pI z ∧ Rs w0 w' K ps (vs.set i (zi (-a))) := by
  obtain ⟨S, D, h, hr, F⟩ := R.all
  have hl : i < vs.length := by rw [← hr.len]; exact (List.getElem?_eq_some_iff.1 hz).1
  refine (neg_I h (hr.get hz (List.getElem?_eq_getElem hl)) (hr.get hx ha) ba).mono ?_
  rintro v w1 ⟨rfl, hI⟩
  rw [iv_zi] at hI
  exact ⟨rfl, Rs.up hr F i hz hI⟩

theorem addc {w0 w : World} {K : Nat → Prop} {ps : List Nat} {vs : List Zn} {be : Addr} {p : Nat} (E : Env w0 K be) (R : Rs w0 w K ps vs) {pp : Nat} (hp : ps[0]? = some pp) (hv : vs[0]? = some (false, p)) (p1 : 1 < p) (p2 : p < BW ^ 10) {pT : Nat} (hT : Cl w0 pT [pI pp] 52) (hK : K pT) {i j k z x y : Nat} {a b c : Int} (i0 : i ≠ 0) (hz : ps[i]? = some z) (hx : ps[j]? = some x) (hy : ps[k]? = some y) (ha : vs[j]? = some (zi a)) (hb : vs[k]? = some (zi b)) (hc : (a + b) % (p : Int) = c) (ba : a.natAbs < BW ^ 30) (bb : b.natAbs < BW ^ 30) :
    CallX P 58 #[pI z, pI x, pI y, .pointer (some ⟨pT, 0, none⟩)] w fun _ w' => Rs w0 w' K ps (vs.set i (zi c)) := by
  have hT1 := R.cl hT hK
  refine calls_vc mo fn_58 rfl ok_58 (Nat.le_of_ble_eq_true rfl) nm_58 ?_
  refine ⟨.take 0 (.take 1 (.take 2 (.take 4 (.take 5 (.one 3 [5, 4] (.one 6 [] (.done))))))), by kernel_rfl, ?_⟩
  refine tkL na_52 hT1 rfl ?_
  refine (addR R.dr hz hx hy ha hb (lt_pow ba (by omega)) (lt_pow bb (by omega))).mono ?_
  rintro v w1 ⟨rfl, R1⟩
  refine ⟨⟨(R1.cl hT hK).cell rfl, trivial⟩, ?_⟩
  obtain ⟨S, D, h, hr, F⟩ := R1.all
  have hl : i < vs.length := by have := hr.len; rw [List.length_set] at this; rw [← this]; exact (List.getElem?_eq_some_iff.1 hz).1
  refine (modR E R1 hp (by rw [List.getElem?_set_ne (fun e => i0 e)]; exact hv) p1 p2 i0 hz hz (by rw [List.getElem?_set_self hl]) ?_).mono ?_
  · have h1 := Int.natAbs_add_le a b
    have h2 : BW ^ 30 * 2 ≤ BW ^ 31 := by
      have h7 := Nat.mul_le_mul_left (BW ^ 30) (show 2 ≤ BW by decide)
      rwa [← Nat.pow_succ] at h7
    refine lt_pow (a := 31) ?_ (by omega)
    omega
  rintro v w2 ⟨rfl, R2⟩
  rw [List.set_set, hc] at R2
  exact ⟨trivial, rfl, R2⟩

theorem mul_nabs {a b : Int} {m n : Nat} (ha : a.natAbs < BW ^ m) (hb : b.natAbs < BW ^ n) : (a * b).natAbs < BW ^ (m + n) := by
  rw [Int.natAbs_mul, Nat.pow_add]
  exact Nat.mul_lt_mul_of_lt_of_le ha (Nat.le_of_lt hb) (Nat.pow_pos BW_pos)

theorem mulc {w0 w : World} {K : Nat → Prop} {ps : List Nat} {vs : List Zn} {be : Addr} {p : Nat} (E : Env w0 K be) (R : Rs w0 w K ps vs) {pp : Nat} (hp : ps[0]? = some pp) (hv : vs[0]? = some (false, p)) (p1 : 1 < p) (p2 : p < BW ^ 10) {pT : Nat} (hT : Cl w0 pT [pI pp] 52) (hK : K pT) {i j k z x y : Nat} {a b c : Int} (i0 : i ≠ 0) (hz : ps[i]? = some z) (hx : ps[j]? = some x) (hy : ps[k]? = some y) (ha : vs[j]? = some (zi a)) (hb : vs[k]? = some (zi b)) (hc : (a * b) % (p : Int) = c) (ba : a.natAbs < BW ^ 30) (bb : b.natAbs < BW ^ 30) (jk : j ≠ k) :
    CallX P 61 #[pI z, pI x, pI y, .pointer (some ⟨pT, 0, none⟩)] w fun _ w' => Rs w0 w' K ps (vs.set i (zi c)) := by
  have hT1 := R.cl hT hK
  refine calls_vc mo fn_61 rfl ok_61 (Nat.le_of_ble_eq_true rfl) nm_61 ?_
  refine ⟨.take 0 (.take 1 (.take 2 (.take 4 (.take 5 (.one 3 [5, 4] (.one 6 [] (.done))))))), by kernel_rfl, ?_⟩
  refine tkL na_52 hT1 rfl ?_
  refine (mulR E R.dr hz hx hy ha hb ba bb (fun e => absurd e jk)).mono ?_
  rintro v w1 ⟨rfl, R1⟩
  refine ⟨⟨(R1.cl hT hK).cell rfl, trivial⟩, ?_⟩
  obtain ⟨S, D, h, hr, F⟩ := R1.all
  have hl : i < vs.length := by have := hr.len; rw [List.length_set] at this; rw [← this]; exact (List.getElem?_eq_some_iff.1 hz).1
  refine (modR E R1 hp (by rw [List.getElem?_set_ne (fun e => i0 e)]; exact hv) p1 p2 i0 hz hz (by rw [List.getElem?_set_self hl]) (lt_pow (mul_nabs ba bb) (by omega))).mono ?_
  rintro v w2 ⟨rfl, R2⟩
  rw [List.set_set, hc] at R2
  exact ⟨trivial, rfl, R2⟩

theorem sqrc {w0 w : World} {K : Nat → Prop} {ps : List Nat} {vs : List Zn} {be : Addr} {p : Nat} (E : Env w0 K be) (R : Rs w0 w K ps vs) {pp : Nat} (hp : ps[0]? = some pp) (hv : vs[0]? = some (false, p)) (p1 : 1 < p) (p2 : p < BW ^ 10) {pT : Nat} (hT : Cl w0 pT [pI pp] 52) (hK : K pT) {i j z x : Nat} {a c : Int} (i0 : i ≠ 0) (hz : ps[i]? = some z) (hx : ps[j]? = some x) (ha : vs[j]? = some (zi a)) (hc : (a * a) % (p : Int) = c) (ba : a.natAbs < BW ^ 11) :
    CallX P 63 #[pI z, pI x, .pointer (some ⟨pT, 0, none⟩)] w fun _ w' => Rs w0 w' K ps (vs.set i (zi c)) := by
  have hT1 := R.cl hT hK
  refine calls_vc mo fn_63 rfl ok_63 (Nat.le_of_ble_eq_true rfl) nm_63 ?_
  refine ⟨.take 0 (.take 1 (.take 2 (.take 4 (.take 5 (.one 3 [5, 4] (.one 6 [] (.done))))))), by kernel_rfl, ?_⟩
  refine tkL na_52 hT1 rfl ?_
  refine (mulR E R.dr hz hx hx ha ha (lt_pow ba (by omega)) (lt_pow ba (by omega)) (fun _ => ba)).mono ?_
  rintro v w1 ⟨rfl, R1⟩
  refine ⟨⟨(R1.cl hT hK).cell rfl, trivial⟩, ?_⟩
  obtain ⟨S, D, h, hr, F⟩ := R1.all
  have hl : i < vs.length := by have := hr.len; rw [List.length_set] at this; rw [← this]; exact (List.getElem?_eq_some_iff.1 hz).1
  refine (modR E R1 hp (by rw [List.getElem?_set_ne (fun e => i0 e)]; exact hv) p1 p2 i0 hz hz (by rw [List.getElem?_set_self hl]) (lt_pow (mul_nabs ba ba) (by omega))).mono ?_
  rintro v w2 ⟨rfl, R2⟩
  rw [List.set_set, hc] at R2
  exact ⟨trivial, rfl, R2⟩

theorem expc {w0 w : World} {K : Nat → Prop} {ps : List Nat} {vs : List Zn} {be : Addr} {p : Nat} (E : Env w0 K be) (R : Rs w0 w K ps vs) {pp : Nat} (hp : ps[0]? = some pp) (hv : vs[0]? = some (false, p)) (p1 : 1 < p) (p2 : p < BW ^ 10) {pT : Nat} (hT : Cl w0 pT [pI pp] 52) (hK : K pT) {i j k z x y c : Nat} {a b : Int} (i0 : i ≠ 0) (j0 : j ≠ 0) (ij : i ≠ j) (ik : i ≠ k) (hz : ps[i]? = some z) (hx : ps[j]? = some x) (hy : ps[k]? = some y) (ha : vs[j]? = some (zi a)) (hb : vs[k]? = some (false, c)) (a0 : 0 ≤ a) (hc : a ^ c % (p : Int) = b) (ba : a.natAbs < BW ^ 30) (bc : c < BW ^ 30) (bc2 : BW ≤ c) (bp : BW ≤ p) (odd : p % 2 = 1) :
    CallX P 64 #[pI z, pI x, pI y, .pointer (some ⟨pT, 0, none⟩)] w fun _ w' => Rs w0 w' K ps (vs.set i (zi b)) := by
  have hT1 := R.cl hT hK
  obtain ⟨S, D, h, hr, F⟩ := R.all
  have hl : i < vs.length := by rw [← hr.len]; exact (List.getElem?_eq_some_iff.1 hz).1
  have ne : ∀ {i j z x : Nat}, i ≠ j → ps[i]? = some z → ps[j]? = some x → z ≠ x := fun hij h1 h2 e => hij (nodup_ix hr.nd h1 (by rw [e]; exact h2))
  refine calls_vc mo fn_64 rfl ok_64 (Nat.le_of_ble_eq_true rfl) nm_64 ?_
  refine rnL na_52 hT1 rfl ?_
  refine (Exp_I (E.gl F) h (hr.get hz (List.getElem?_eq_getElem hl)) (hr.get hx ha) (hr.get hy hb) (hr.get hp hv) (ne ij hz hx) (ne ik hz hy) (ne i0 hz hp) (ne j0 hx hp) (by simp [zi]; omega) rfl (lt_pow ba (by omega)) (lt_pow bc (by omega)) bc2 (lt_pow p2 (by omega)) bp odd).mono ?_
  rintro v w1 ⟨rfl, hI⟩
  have e : ((false, (zi a).2 ^ c % p) : Zn) = zi b := by
    rw [← hc, zi2]
    have h1 : a = (a.natAbs : Int) := by omega
    rw [h1, Int.natAbs_natCast, ← Int.natCast_pow, ← Int.natCast_emod, zi_nat]
  dsimp only at hI
  rw [e] at hI
  exact ⟨rfl, Rs.up hr F i hz hI⟩

theorem sgnc {w0 w : World} {K : Nat → Prop} {ps : List Nat} {vs : List Zn} {be : Addr} {p : Nat} (E : Env w0 K be) (R : Rs w0 w K ps vs) {pp : Nat} (hp : ps[0]? = some pp) (hv : vs[0]? = some (false, p)) (p1 : 1 < p) (p2 : p < BW ^ 10) {pT : Nat} (hT : Cl w0 pT [pI pp] 52) (hK : K pT) {i z : Nat} {a c : Int} (i0 : i ≠ 0) (hz : ps[i]? = some z) (ha : vs[i]? = some (zi a)) (hc : a % (p : Int) = c) (ba : a.natAbs < BW ^ 30) :
    CallX P 66 #[pI z, .pointer (some ⟨pT, 0, none⟩)] w fun v w' => v = vw (c.natAbs % 2) ∧ Rs w0 w' K ps (vs.set i (zi c)) := by
  have hT1 := R.cl hT hK
  refine calls_vc mo fn_66 rfl ok_66 (Nat.le_of_ble_eq_true rfl) nm_66 ?_
  (refine vsr ?_)
  (repeat refine vcl_v _ rfl rfl ?_); (refine vcl_end ?_)
  (refine vsr ?_)
  refine rnL na_52 hT1 rfl ?_
  refine (modR E R hp hv p1 p2 i0 hz hz ha (lt_pow ba (by omega))).mono ?_
  rintro v w1 ⟨rfl, R1⟩
  rw [hc] at R1
  obtain ⟨S, D, h, hr, F⟩ := R1.all
  have hl : i < vs.length := by have := hr.len; rw [List.length_set] at this; rw [← this]; exact (List.getElem?_eq_some_iff.1 hz).1
  (repeat refine vcl_v _ rfl rfl ?_); (refine vcl_end ?_)
  (refine vsr ?_)
  refine (bit0_I h (hr.get hz (by rw [List.getElem?_set_self hl]))).mono ?_
  rintro v w2 ⟨rfl, rfl⟩
  exact ⟨rfl, rfl, R1⟩

theorem cmvc {w0 w : World} {K : Nat → Prop} {ps : List Nat} {vs : List Zn} (R : Rs w0 w K ps vs) {i j k z x y : Nat} {a b : Int} (hz : ps[i]? = some z) (hx : ps[j]? = some x) (hy : ps[k]? = some y) (ha : vs[j]? = some (zi a)) (hb : vs[k]? = some (zi b)) (ba : a.natAbs < BW ^ 30) (bb : b.natAbs < BW ^ 30) (t : Bool) {c : Int} (hc : (if t = true then b else a) = c) :
    CallX P 68 #[pI z, pI x, pI y, .bool t] w fun _ w' => Rs w0 w' K ps (vs.set i (zi c)) := by
  refine calls_vc mo fn_68 rfl ok_68 (Nat.le_of_ble_eq_true rfl) nm_68 ?_
  cases t with
  | true =>
    rw [if_pos rfl] at hc
    subst hc
    refine ⟨fun _ => ?_, fun hc => (by cases hc)⟩
    refine (setR R hz hy hb (lt_pow bb (by omega))).mono ?_
    rintro v w1 ⟨rfl, R1⟩
    exact ⟨rfl, R1⟩
  | false =>
    rw [if_neg (by simp)] at hc
    subst hc
    refine ⟨fun hc => (by cases hc), fun _ => ?_⟩
    refine (setR R hz hx ha (lt_pow ba (by omega))).mono ?_
    rintro v w1 ⟨rfl, R1⟩
    exact ⟨rfl, R1⟩

end Go.Vc
end
