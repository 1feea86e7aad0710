/- Int.QuoRem, Mod. -/
import Derived.Test.YthahnloabllniaaGreatDoorM12
section
set_option linter.unusedSimpArgs false
set_option linter.unusedVariables false
set_option maxRecDepth 8000
set_option maxHeartbeats 1000000
namespace Go.Vc
open Go.Proofs

theorem Nd.from {w w' : World} {d d' : Option Nat} (h : Nd w w' d d') {b : Nat} (e : d' = some b) : d = some b ∨ w.heap.size ≤ b := by
  rcases h with h1 | h1 | ⟨b', h1, h2, _⟩
  · rw [h1] at e; cases e
  · rw [h1] at e; exact .inl e
  · rw [h1] at e; cases e; exact .inr h2

theorem Sto.put2 {w w1 w3 : World} {K : Nat → Prop} {S : Nat → Option Zn} {D : Nat → Option Nat} (h : Sto w K S D) {z r : Nat} {z0 r0 : Zn} (hz : S z = some z0) (hr : S r = some r0) (hne : z ≠ r) {vq vr : Value} {nq nr : Nat} {sz sr : Bool}
    (hd : DR w w1 (D z) (D r) vq vr nq nr) (hf : Fm (fun b => D z = some b ∨ D r = some b) w w1) (hcz : Cl w3 z [.bool sz, vq] 56) (hcr : Cl w3 r [.bool sr, vr] 56) (hF : Fm (fun b => b = z ∨ b = r) w1 w3) :
    ∃ D', Sto w3 K (upd (upd S z (sz, nq)) r (sr, nr)) D' ∧ Fm (fun b => ¬ K b) w w3 := by
  obtain ⟨dq, dr, lq, lr, oq, hnq, evq, or, hnr, evr, ndq, ndr, hdd⟩ := hd.all
  have hsz1 := hf.size
  have hsz3 := hF.size
  have hzn : S z ≠ none := by rw [hz]; simp
  have hrn : S r ≠ none := by rw [hr]; simp
  have hSn : ∀ p, upd (upd S z (sz, nq)) r (sr, nr) p ≠ none → S p ≠ none := fun p e => by
    rcases Classical.em (p = r) with h1 | h1
    · rw [h1]; exact hrn
    · rw [upd_ne h1] at e
      rcases Classical.em (p = z) with h2 | h2
      · rw [h2]; exact hzn
      · rwa [upd_ne h2] at e
  have word1 : ∀ {v : Value} {b p : Nat} {l : List Nat} {x : Zn}, S p = some x → Own w1 v (some b) l → b ≠ p := fun {v b p l x} hp ho e => by
    obtain ⟨v0, l0, c0, o0, _, _⟩ := (h.int p x hp).all
    obtain ⟨fl, _, hw, _⟩ := ho
    have c1 : Cl w1 p [.bool x.1, v0] 56 := hf.obj c0 (fun e2 => e2.elim (h.nd hz hp) (h.nd hr hp))
    exact c1.ne_word hw e
  have old : ∀ p b, (if p = r then dr else if p = z then dq else D p) = some b → S p ≠ none → D p = some b ∨ (w.heap.size ≤ b ∧ (p = r ∧ dr = some b ∨ p = z ∧ dq = some b)) := fun p b e _ => by
    rcases Classical.em (p = r) with h1 | h1
    · rw [if_pos h1] at e
      rcases ndr.from e with h2 | h2
      · rw [h1]; exact .inl h2
      · exact .inr ⟨h2, .inl ⟨h1, e⟩⟩
    · rw [if_neg h1] at e
      rcases Classical.em (p = z) with h3 | h3
      · rw [if_pos h3] at e
        rcases ndq.from e with h2 | h2
        · rw [h3]; exact .inl h2
        · exact .inr ⟨h2, .inr ⟨h3, e⟩⟩
      · rw [if_neg h3] at e; exact .inl e
  have lt : ∀ q b, S q ≠ none → D q = some b → b < w.heap.size := fun q b hq e => by
    cases hsq : S q with
    | none => exact absurd hsq hq
    | some x => have := h.int q x hsq; rw [e] at this; exact this.dlt
  refine ⟨fun p => if p = r then dr else if p = z then dq else D p, ⟨fun p x e => ?_, fun p q b hp hq e1 e2 => ?_, fun p hp => h.kp p (hSn p hp), fun p b hp e => ?_, fun b hb => by have := h.kl b hb; omega⟩, ?_⟩
  · rcases Classical.em (p = r) with h1 | h1
    · subst h1
      rw [upd_self] at e; cases e
      simp only [if_true]
      exact ⟨vr, lr, hcr, or.fm hF (fun b e e2 => by subst e; exact e2.elim (word1 hz or) (word1 hr or)), hnr, evr⟩
    · rw [upd_ne h1] at e
      rcases Classical.em (p = z) with h2 | h2
      · subst h2
        rw [upd_self] at e; cases e
        simp only [if_neg h1, if_true]
        exact ⟨vq, lq, hcz, oq.fm hF (fun b e e2 => by subst e; exact e2.elim (word1 hz oq) (word1 hr oq)), hnq, evq⟩
      · rw [upd_ne h2] at e
        simp only [if_neg h1, if_neg h2]
        have hpn : S p ≠ none := by rw [e]; simp
        have hi := (h.int p x e).fm hf (fun e2 => e2.elim (h.nd hz e) (h.nd hr e)) (fun b e1 e2 => e2.elim (fun e3 => h2 (h.inj p z b hpn hzn e1 e3)) (fun e3 => h1 (h.inj p r b hpn hrn e1 e3)))
        obtain ⟨v2, l2, g1, g2, g3, g4⟩ := hi.all
        exact ⟨v2, l2, hF.obj g1 (fun e2 => e2.elim h2 h1), g2.fm hF (fun b e1 e2 => by
          have g2' : Own w1 v2 (some b) l2 := by rw [← e1]; exact g2
          exact e2.elim (word1 hz g2') (word1 hr g2')), g3, g4⟩
  · have h1 := hSn p hp
    have h2 := hSn q hq
    rcases old p b e1 h1 with h3 | ⟨h3, h4⟩
    · rcases old q b e2 h2 with h5 | ⟨h5, h6⟩
      · exact h.inj p q b h1 h2 h3 h5
      · have := lt p b h1 h3; omega
    · rcases old q b e2 h2 with h5 | ⟨h5, h6⟩
      · have := lt q b h2 h5; omega
      · rcases h4 with ⟨h4, h7⟩ | ⟨h4, h7⟩ <;> rcases h6 with ⟨h6, h8⟩ | ⟨h6, h8⟩
        · rw [h4, h6]
        · exact absurd h7 (hdd b h8)
        · exact absurd h8 (hdd b h7)
        · rw [h4, h6]
  · have h1 := hSn p hp
    rcases old p b e h1 with h3 | ⟨h3, _⟩
    · exact h.kd p b h1 h3
    · intro hk; have := h.kl b hk; omega
  · exact (hf.mono (fun b _ e => e.elim (h.kd z b hzn) (h.kd r b hrn))).trans hF (fun b _ e => by
      rcases e with e | e
      · rw [e]; exact h.kp z hzn
      · rw [e]; exact h.kp r hrn)

theorem quoRem_I {w : World} {K : Nat → Prop} {S : Nat → Option Zn} {D : Nat → Option Nat} (hg : Gl w) (h : Sto w K S D) {z x y r : Nat} {z0 r0 a b : Zn} (hz : S z = some z0) (hr : S r = some r0) (hx : S x = some a) (hy : S y = some b)
    (nzr : z ≠ r) (nzx : z ≠ x) (nzy : z ≠ y) (nry : r ≠ y) (ba : a.2 < BW ^ 200) (bb : b.2 < BW ^ 39) (b0 : b.2 ≠ 0) :
    CallX P 83 #[pI z, pI x, pI y, pI r] w fun v w' => v = .tuple #[pI z, pI r] ∧
      ∃ D', Sto w' K (upd (upd S z (decide (0 < a.2 / b.2) && (a.1 != b.1), a.2 / b.2)) r (decide (0 < a.2 % b.2) && a.1, a.2 % b.2)) D' ∧ Fm (fun b => ¬ K b) w w' := by
  obtain ⟨vz, lz, cz, oz, nz, ez⟩ := (h.int z z0 hz).all
  obtain ⟨vr, lr, cr, or, nr, er⟩ := (h.int r r0 hr).all
  obtain ⟨vx, lx, cx, ox, nx, ex⟩ := (h.int x a hx).all
  obtain ⟨vy, ly, cy, oy, ny, ey⟩ := (h.int y b hy).all
  obtain ⟨sa, na⟩ := a
  obtain ⟨sb, nb⟩ := b
  dsimp only at *
  have hlx := nv_len nx (by rw [ex]; exact ba)
  have hly := nv_len ny (by rw [ey]; exact bb)
  have hgd : Gl w.drew := hg.fm0 (Fm.drew _ _)
  have zn : S z ≠ none := by rw [hz]; simp
  have rn : S r ≠ none := by rw [hr]; simp
  have xn : S x ≠ none := by rw [hx]; simp
  have yn : S y ≠ none := by rw [hy]; simp
  refine calls_vc mo fn_83 rfl ok_83 (Nat.le_of_ble_eq_true rfl) nm_83 ?_
  (refine vsr ?_)
  (repeat refine vcl_v _ rfl rfl ?_); (refine vcl_end ?_)
  refine ⟨.take 0 (.take 1 (.take 2 (.take 3 (.take 4 (.take 5 (.take 6 (.take 7 (.take 8 (.take 9 (.take 10 (.take 11 (.take 12 (.take 13 (.take 14 (.take 15 (.take 16 (.take 17 (.one 18 [1, 0] (.take 19 (.take 20 (.take 21 (.take 22 (.take 23 (.one 24 [21, 1] (.take 25 (.take 26 (.one 27 [] (.done)))))))))))))))))))))))))))), by kernel_rfl, ?_⟩
  refine tkA (fa fo_56_1 _ _) ?_
  refine tkL na_54 cz rfl ?_
  refine tkA (fa fo_56_1 _ _) ?_
  refine tkL na_54 cr rfl ?_
  refine tkA (fa fo_56_1 _ _) ?_
  refine tkL na_54 cx rfl ?_
  refine tkA (fa fo_56_1 _ _) ?_
  refine tkL na_54 cy rfl ?_
  refine (div_n hgd oz.drew or.drew ox.drew oy.drew nx ny (by intro e; rw [e] at ey; simp [nv] at ey; omega) (by omega) (by omega) (fun b e => ⟨fun e2 => nzr (h.inj z r b zn rn e e2), fun e2 => nzx (h.inj z x b zn xn e e2), fun e2 => nzy (h.inj z y b zn yn e e2)⟩) (fun b e e2 => nry (h.inj r y b rn yn e e2))).mono ?_
  rintro v w1 ⟨vq, vm, rfl, hd, hF1⟩
  refine ⟨trivial, ?_⟩
  rw [ex, ey] at hd
  have hd' : DR w w1 (D z) (D r) vq vm (na / nb) (na % nb) := by
    obtain ⟨dq, dr, lq, lr, q⟩ := hd.all
    exact ⟨dq, dr, lq, lr, q⟩
  have hF1' : Fm (fun b => D z = some b ∨ D r = some b) w w1 := hF1.drew'
  have ovq : vq.oneCell' = true ∧ vm.oneCell' = true := by
    obtain ⟨dq, dr, lq, lr, q1, q2, q3, q4, _⟩ := hd'.all
    exact ⟨q1.one, q4.one⟩
  have nw1 : ∀ {p : Nat} {x : Zn}, S p = some x → ¬ (D z = some p ∨ D r = some p) := fun hp e => e.elim (h.nd hz hp) (h.nd hr hp)
  refine tkA (fa fo_56_1 _ _) ?_
  obtain ⟨w2, e2, c2, f2, s2⟩ := Vc.st sz_54 (hF1'.obj cz (nw1 hz)) (i := 0 + 1) (by simp) (v := vq) ovq.1
  refine ⟨w2, e2, ?_⟩
  refine ⟨trivial, ?_⟩
  refine tkA (fa fo_56_1 _ _) ?_
  obtain ⟨w3, e3, c3, f3, s3⟩ := Vc.st sz_54 (f2.obj (hF1'.obj cr (nw1 hr)) (fun e => nzr e.symm)) (i := 0 + 1) (by simp) (v := vm) ovq.2
  refine ⟨w3, e3, ?_⟩
  refine ⟨trivial, ?_⟩
  obtain ⟨D3, h3, g3⟩ := h.put2 hz hr nzr hd' hF1' (f3.obj c2 nzr) c3 ((f2.mono (fun _ _ h => .inl h)).trans f3 (fun _ _ h => .inr h))
  have hz3 : upd (upd S z (z0.1, na / nb)) r (r0.1, na % nb) z = some (z0.1, na / nb) := by rw [upd_ne nzr, upd_self]
  have hr3 : upd (upd S z (z0.1, na / nb)) r (r0.1, na % nb) r = some (r0.1, na % nb) := upd_self
  have hx3 : ∃ n, upd (upd S z (z0.1, na / nb)) r (r0.1, na % nb) x = some (sa, n) := by
    rcases Classical.em (x = r) with e | e
    · subst e; rw [hr] at hx; cases hx; exact ⟨_, upd_self⟩
    · exact ⟨na, by rw [upd_ne e, upd_ne (fun e => nzx e.symm)]; exact hx⟩
  have hy3 : upd (upd S z (z0.1, na / nb)) r (r0.1, na % nb) y = some (sb, nb) := by rw [upd_ne (fun e => nry e.symm), upd_ne (fun e => nzy e.symm)]; exact hy
  obtain ⟨nx3, hx3⟩ := hx3
  obtain ⟨wz, mz, cz3, oz3, nz3, ez3⟩ := (h3.int z _ hz3).all
  obtain ⟨wr, mr, cr3, or3, nr3, er3⟩ := (h3.int r _ hr3).all
  obtain ⟨wx, mx, cx3, _⟩ := (h3.int x _ hx3).all
  obtain ⟨wy, my, cy3, _⟩ := (h3.int y _ hy3).all
  obtain ⟨az3, kz3, rfl, _⟩ := oz3.val
  obtain ⟨ar3, kr3, rfl, _⟩ := or3.val
  have hlz := nil_len nz3
  have hlr := nil_len nr3
  rw [ez3] at hlz
  rw [er3] at hlr
  dsimp only at hlz hlr
  have fin : ∀ s1 s2 (nx : World → Prop), s1 = (decide (0 < na / nb) && (sa != sb)) → s2 = (decide (0 < na % nb) && sa) → (∀ w', (∃ D', Sto w' K (upd (upd S z (decide (0 < na / nb) && (sa != sb), na / nb)) r (decide (0 < na % nb) && sa, na % nb)) D' ∧ Fm (fun b => ¬ K b) w w') → nx w') →
      ∃ w4, (Instr.storeAt 4 (.pointer (some ⟨z, 0 + 0, none⟩)) (.bool s1)).run P w3.drew = .ok () w4 ∧ ∃ w5, (Instr.storeAt 4 (.pointer (some ⟨r, 0 + 0, none⟩)) (.bool s2)).run P w4 = .ok () w5 ∧ nx w5 := fun s1 s2 nx e1 e2 hnx => by
    obtain ⟨w4, e4, D4, h4, g4⟩ := h3.drew.stNeg hz3 s1
    have hr4 : upd (upd (upd S z (z0.1, na / nb)) r (r0.1, na % nb)) z (s1, na / nb) r = some (r0.1, na % nb) := by rw [upd_ne (fun e => nzr e.symm)]; exact hr3
    obtain ⟨w5, e5, D5, h5, g5⟩ := h4.stNeg hr4 s2
    refine ⟨w4, e4, w5, e5, hnx w5 ⟨D5, h5.weak (fun p v e => ?_), (g3.trans (g4.drew') (fun _ _ h => h)).trans g5 (fun _ _ h => h)⟩⟩
    rw [← e1, ← e2] at e
    rcases Classical.em (p = r) with q1 | q1
    · subst q1; rw [upd_self] at e ⊢; exact e
    · rw [upd_ne q1] at e ⊢
      rcases Classical.em (p = z) with q2 | q2
      · subst q2; rw [upd_self] at e ⊢; exact e
      · rw [upd_ne q2] at e ⊢; rw [upd_ne q1, upd_ne q2]; exact e
  (repeat refine vcp_v _ rfl rfl rfl ?_); (refine vcp_end ?_)
  refine ⟨.take 0 (.take 1 (.take 2 (.take 3 (.take 4 (.take 5 (.take 6 (.take 7 (.take 8 (.take 9 (.take 10 (.take 11 (.take 12 (.take 13 (.take 14 (.take 15 (.take 16 (.take 17 (.take 18 (.take 19 (.take 20 (.take 21 (.take 22 (.take 23 (.take 24 (.take 25 (.take 26 (.take 27 (.take 28 (.take 29 (.take 30 (.take 31 (.take 32 (.one 33 [30, 1] (.take 34 (.take 35 (.one 36 [] (.done))))))))))))))))))))))))))))))))))))), by kernel_rfl, ?_⟩
  refine tkA (fa fo_56_1 _ _) ?_
  refine tkL na_54 cz3 rfl ?_
  refine ⟨_, fun w' => ln se_54 _ _ _ _ _ w', ?_⟩
  rcases Nat.eq_zero_or_pos (na / nb) with q0 | q0
  · refine ⟨_, bGtF (by omega), ?_⟩
    refine tkA (fa fo_56_1 _ _) ?_
    refine tkL na_54 cr3 rfl ?_
    refine ⟨_, fun w' => ln se_54 _ _ _ _ _ w', ?_⟩
    rcases Nat.eq_zero_or_pos (na % nb) with r0' | r0'
    · refine ⟨_, bGtF (by omega), ?_⟩
      refine tkA (fa fo_56_0 _ _) ?_
      obtain ⟨w4, e4, w5, e5, q⟩ := fin false false _ (by simp [q0]) (by simp [r0']) (fun w' h => h)
      refine ⟨w4, e4, trivial, ?_⟩
      refine tkA (fa fo_56_0 _ _) ?_
      exact ⟨w5, e5, trivial, rfl, rfl, q⟩
    · refine ⟨_, bGt (by omega), ?_⟩
      refine tkA (fa fo_56_0 _ _) ?_
      refine tkL na_4 cx3 rfl ?_
      refine tkA (fa fo_56_0 _ _) ?_
      obtain ⟨w4, e4, w5, e5, q⟩ := fin false sa _ (by simp [q0]) (by simp [r0']) (fun w' h => h)
      refine ⟨w4, e4, trivial, ?_⟩
      refine tkA (fa fo_56_0 _ _) ?_
      exact ⟨w5, e5, trivial, rfl, rfl, q⟩
  · refine ⟨_, bGt (by omega), ?_⟩
    refine tkA (fa fo_56_0 _ _) ?_
    refine tkL na_4 cx3 rfl ?_
    refine tkA (fa fo_56_0 _ _) ?_
    refine tkL na_4 cy3 rfl ?_
    refine tkA (bNB sa sb _ _) ?_
    refine tkA (fa fo_56_1 _ _) ?_
    refine tkL na_54 cr3 rfl ?_
    refine ⟨_, fun w' => ln se_54 _ _ _ _ _ w', ?_⟩
    rcases Nat.eq_zero_or_pos (na % nb) with r0' | r0'
    · refine ⟨_, bGtF (by omega), ?_⟩
      refine tkA (fa fo_56_0 _ _) ?_
      obtain ⟨w4, e4, w5, e5, q⟩ := fin (sa != sb) false _ (by simp [q0]) (by simp [r0']) (fun w' h => h)
      refine ⟨w4, e4, trivial, ?_⟩
      refine tkA (fa fo_56_0 _ _) ?_
      exact ⟨w5, e5, trivial, rfl, rfl, q⟩
    · refine ⟨_, bGt (by omega), ?_⟩
      refine tkA (fa fo_56_0 _ _) ?_
      refine tkL na_4 cx3 rfl ?_
      refine tkA (fa fo_56_0 _ _) ?_
      obtain ⟨w4, e4, w5, e5, q⟩ := fin (sa != sb) sa _ (by simp [q0]) (by simp [r0']) (fun w' h => h)
      refine ⟨w4, e4, trivial, ?_⟩
      refine tkA (fa fo_56_0 _ _) ?_
      exact ⟨w5, e5, trivial, rfl, rfl, q⟩

end Go.Vc
end

section
/- Int.Mod. -/
set_option linter.unusedSimpArgs false
set_option linter.unusedVariables false
set_option maxRecDepth 8000
set_option maxHeartbeats 1000000
namespace Go.Vc
open Go.Proofs

theorem emod_neg0 {n m : Nat} (h0 : n % m = 0) : (-(n : Int)) % (m : Int) = 0 := by
  have h2 := Nat.div_add_mod n m
  rw [h0, Nat.add_zero] at h2
  have e : -(n : Int) = (m : Int) * (-((n / m : Nat) : Int)) := by
    rw [Int.mul_neg, ← Int.natCast_mul, h2]
  rw [e, Int.mul_emod_right]

theorem emod_neg {n m : Nat} (hm : 0 < m) (h0 : 0 < n % m) : (-(n : Int)) % (m : Int) = ((m - n % m : Nat) : Int) := by
  have h1 := Nat.mod_lt n hm
  have h2 := Nat.div_add_mod n m
  have e : -(n : Int) = ((m - n % m : Nat) : Int) + (m : Int) * (-((n / m : Nat) : Int) - 1) := by
    have h3 : (n : Int) = (m : Int) * ((n / m : Nat) : Int) + ((n % m : Nat) : Int) := by
      rw [← Int.natCast_mul, ← Int.natCast_add, h2]
    rw [h3, Int.mul_sub, Int.mul_neg, Int.mul_one]
    generalize (m : Int) * ((n / m : Nat) : Int) = k
    omega
  rw [e, Int.add_mul_emod_self_left, Int.emod_eq_of_lt (by omega) (by omega)]

theorem Sto.fresh {w : World} {K : Nat → Prop} {S : Nat → Option Zn} {D : Nat → Option Nat} (h : Sto w K S D) {p : Nat} (hp : w.heap.size ≤ p) : S p = none := by
  cases hsp : S p with
  | none => rfl
  | some x => have := (h.int p x hsp).lt; omega

theorem nwI (w : World) : ∃ w', (Instr.alloc 56 true (.tuple #[])).run P w = .ok (.pointer (some ⟨w.heap.size, 0, none⟩)) w' ∧ Cl w' w.heap.size [.bool false, .slice none 0 0] 56 ∧ Fm (fun _ => False) w w' ∧ w'.heap.size = w.heap.size + 1 :=
  nw (t := 56) (z := .agg #[.bool false, .slice none 0 0]) (by kernel_rfl) (cs := [.bool false, .slice none 0 0]) rfl w

theorem lt_pow {x a b : Nat} (h : x < BW ^ a) (hab : a ≤ b) : x < BW ^ b := Nat.lt_of_lt_of_le h (pow_le_pow hab)

theorem mod_I {w : World} {K : Nat → Prop} {S : Nat → Option Zn} {D : Nat → Option Nat} (hg : Gl w) (h : Sto w K S D) {z x y : Nat} {z0 a b : Zn} (hz : S z = some z0) (hx : S x = some a) (hy : S y = some b) (nzy : z ≠ y) (ba : a.2 < BW ^ 200) (bb : b.2 < BW ^ 39) (b0 : b.2 ≠ 0) (bs : b.1 = false) :
    CallX P 60 #[pI z, pI x, pI y] w fun v w' => v = pI z ∧ IR w K S z (zi (iv a % (b.2 : Int))) w' := by
  obtain ⟨vz, lz, cz, oz, nz, ez⟩ := (h.int z z0 hz).all
  obtain ⟨vy, ly, cy, oy, ny, ey⟩ := (h.int y b hy).all
  have hly0 : ly ≠ [] := by intro e; rw [e] at ey; simp [nv] at ey; omega
  obtain ⟨by1, cy1, edy, _⟩ := oy.rd hly0
  have hF1 : Fm (fun _ => False) w w.drew.drew := (Fm.drew _ _).dr
  refine calls_vc mo fn_60 rfl ok_60 (Nat.le_of_ble_eq_true rfl) nm_60 ?_
  (refine vsr ?_)
  (repeat refine vcl_v _ rfl rfl ?_); (refine vcl_end ?_)
  (refine vsr ?_)
  (repeat refine vcl_v _ rfl rfl ?_); (refine vcl_end ?_)
  refine vcut (by repeat (first | exact moE _ _ _ | exact moEd _ _ _ | apply moB | apply moL | apply moV)) Unit (fun _ => ⟨[(0, pI z), (1, pI x), (2, pI y), (7, pI y)], []⟩) (fun _ u => u = w.drew.drew) ?_ ?_
  · refine ⟨.take 0 (.take 1 (.take 2 (.take 3 (.take 4 (.take 5 (.take 6 (.take 7 (.take 8 (.take 9 (.take 10 (.take 11 (.one 12 [] (.take 13 (.done)))))))))))))), by kernel_rfl, ?_⟩
    refine .held _ (fun u => Live u z ∧ Live u y) ⟨cz.live, cy.live⟩ (fun u h => pE (by kernel_rfl) h.1 h.2 _ _) ?_
    rw [show (decide ((⟨z, 0, none⟩ : Addr) = ⟨y, 0, none⟩)) = false by simp [nzy]]
    refine tkA (fa fo_56_1 _ _) ?_
    refine tkL na_54 cz rfl ?_
    refine tkA (fa fo_56_1 _ _) ?_
    refine tkL na_54 cy rfl ?_
    refine (alias_c oz.drew oy.drew).mono ?_
    rintro v w1 ⟨rfl, t, rfl, ht1, ht2⟩
    refine ⟨trivial, ?_⟩
    cases t with
    | true =>
      exfalso
      have e := ht1 rfl
      exact nzy (h.inj z y by1 (by rw [hz]; simp) (by rw [hy]; simp) (by rw [e]; exact edy) edy)
    | false =>
      refine ⟨fun hc => (by cases hc), fun _ => ?_⟩
      exact ⟨(), ⟨⟨rfl, rfl, rfl, rfl, trivial⟩, rfl⟩, rfl⟩
  rintro _ u rfl
  have h1 := h.fm hF1 (fun _ h => h.elim)
  obtain ⟨w2, e2, c2, f2, s2⟩ := nwI w.drew.drew
  refine ⟨_, w2, e2, ?_⟩
  obtain ⟨D2, h2⟩ := h1.new c2 f2
  generalize hq : w.drew.drew.heap.size = q at *
  have hqs : w.heap.size = q := hq
  have hfr : S q = none := h.fresh (by omega)
  have ne : ∀ {p : Nat} {v : Zn}, S p = some v → p ≠ q := fun hp e => by rw [e, hfr] at hp; cases hp
  have hF12 : Fm (fun _ => False) w w2 := hF1.trans f2 (fun _ _ h => h)
  refine (quoRem_I (hg.fm0 hF12) h2 (z := q) (z0 := (false, 0)) upd_self (by rw [upd_ne (ne hz)]; exact hz) (by rw [upd_ne (ne hx)]; exact hx) (by rw [upd_ne (ne hy)]; exact hy) (fun e => ne hz e.symm) (fun e => ne hx e.symm) (fun e => ne hy e.symm) nzy ba bb b0).mono ?_
  rintro v w3 ⟨rfl, D3, h3, f3⟩
  obtain ⟨sa, na⟩ := a
  obtain ⟨sb, nb⟩ := b
  dsimp only at *
  subst bs
  have hz3 : upd (upd (upd S q (false, 0)) q (decide (0 < na / nb) && (sa != false), na / nb)) z (decide (0 < na % nb) && sa, na % nb) z = some (decide (0 < na % nb) && sa, na % nb) := upd_self
  have hy3 : upd (upd (upd S q (false, 0)) q (decide (0 < na / nb) && (sa != false), na / nb)) z (decide (0 < na % nb) && sa, na % nb) y = some (false, nb) := by rw [upd_ne (fun e => nzy e.symm), upd_ne (ne hy), upd_ne (ne hy)]; exact hy
  obtain ⟨vz3, lz3, cz3, _⟩ := (h3.int z _ hz3).all
  obtain ⟨vy3, ly3, cy3, _⟩ := (h3.int y _ hy3).all
  have hF13 : Fm (fun b => ¬ K b) w w3 := (hF12.mono (fun _ _ h => h.elim)).trans f3 (fun _ _ h => h)
  have fin : ∀ {w4 : World} {r : Zn} {D4 : Nat → Option Nat}, Sto w4 K (upd (upd (upd (upd S q (false, 0)) q (decide (0 < na / nb) && (sa != false), na / nb)) z (decide (0 < na % nb) && sa, na % nb)) z r) D4 → Fm (fun b => ¬ K b) w3 w4 → IR w K S z r w4 := fun {w4 r D4} h4 f4 =>
    ⟨D4, h4.weak (fun p v e => by
      rcases Classical.em (p = z) with q1 | q1
      · subst q1; rw [upd_self] at e ⊢; exact e
      · rw [upd_ne q1] at e ⊢; rw [upd_ne q1, upd_ne (ne e), upd_ne (ne e)]; exact e), hF13.trans f4 (fun _ _ h => h)⟩
  refine rnA (fa fo_56_0 _ _) ?_
  refine rnL na_4 cz3 rfl ?_
  have hsmall : na % nb < nb := Nat.mod_lt _ (by omega)
  rcases Classical.em (sa = true ∧ 0 < na % nb) with ⟨hs, hr⟩ | hn
  · subst hs
    rw [show (decide (0 < na % nb) && true) = true by simp [hr]]
    refine ⟨fun _ => ?_, fun hc => (by cases hc)⟩
    refine rnA (fa fo_56_0 _ _) ?_
    refine rnL na_4 cy3 rfl ?_
    refine ⟨fun hc => (by cases hc), fun _ => ?_⟩
    refine (add_I h3 hz3 hz3 hy3 (lt_pow (Nat.lt_trans hsmall bb) (by omega)) (lt_pow bb (by omega))).mono ?_
    rintro v w4 ⟨rfl, D4, h4, f4⟩
    refine ⟨rfl, rfl, (fin h4 f4).eq ?_⟩
    rw [show iv (true, na) = -(na : Int) from rfl, emod_neg (by omega) hr, show (decide (0 < na % nb) && true) = true by simp [hr]]
    congr 1
    show -((na % nb : Nat) : Int) + (nb : Int) = _
    omega
  · have hsg : (decide (0 < na % nb) && sa) = false := by
      cases sa with
      | false => simp
      | true =>
        have : ¬ 0 < na % nb := fun h => hn ⟨rfl, h⟩
        simp; omega
    rw [hsg]
    refine ⟨fun hc => (by cases hc), fun _ => ?_⟩
    refine ⟨rfl, rfl, (fin (r := (false, na % nb)) (D4 := D3) (h3.weak (fun p v e => ?_)) (Fm.refl _ _)).eq ?_⟩
    · rcases Classical.em (p = z) with q1 | q1
      · subst q1; rw [upd_self] at e ⊢; rw [hsg]; exact e
      · rw [upd_ne q1] at e; exact e
    · cases sa with
      | false =>
        show (false, na % nb) = zi (((na : Nat) : Int) % (nb : Int))
        rw [← Int.natCast_emod]
        simp [zi]; omega
      | true =>
        have h0 : na % nb = 0 := by
          rcases Nat.eq_zero_or_pos (na % nb) with e | e
          · exact e
          · exact absurd ⟨rfl, e⟩ hn
        rw [h0, show iv (true, na) = -(na : Int) from rfl]
        rw [emod_neg0 h0]; simp [zi]

end Go.Vc
end

section
/- Int.Cmp, Sign. -/
set_option linter.unusedSimpArgs false
set_option linter.unusedVariables false
set_option maxRecDepth 8000
set_option maxHeartbeats 1000000
namespace Go.Vc
open Go.Proofs

def cmpZ (x y : Int) : Int := if x < y then -1 else if y < x then 1 else 0

/-- No negative nothing. -/
def Cln (a : Zn) : Prop := a.1 = true → 0 < a.2

theorem cln_zi (x : Int) : Cln (zi x) := fun h => by
  have := of_decide_eq_true h
  show 0 < x.natAbs
  omega

theorem uNegI {x : Int} (h : -5 ≤ x ∧ x ≤ 5) (w : World) : (Op.unary .neg (.int .i64 x)).run P w = .ok (.int .i64 (-x)) w := by
  have e : IntKind.i64.wrap (0 - x) = -x := by rw [wrap64_in (by omega)]; omega
  simp only [Op.unary, Op.intArith, pure, Sem.run, e]

theorem cmp_I {w : World} {K : Nat → Prop} {S : Nat → Option Zn} {D : Nat → Option Nat} (h : Sto w K S D) {x y : Nat} {a b : Zn} (hx : S x = some a) (hy : S y = some b) (ca : Cln a) (cb : Cln b) (ba : a.2 < BW ^ 200) (bb : b.2 < BW ^ 200) :
    CallX P 71 #[pI x, pI y] w fun v w' => v = .int .i64 (cmpZ (iv a) (iv b)) ∧ Fm (fun _ => False) w w' := by
  obtain ⟨vx, lx, cx, ox, nx, ex⟩ := (h.int x a hx).all
  obtain ⟨vy, ly, cy, oy, ny, ey⟩ := (h.int y b hy).all
  obtain ⟨sa, na⟩ := a
  obtain ⟨sb, nb⟩ := b
  dsimp only at *
  have hlx := nv_len nx (by rw [ex]; exact ba)
  have hly := nv_len ny (by rw [ey]; exact bb)
  refine calls_vc mo fn_71 rfl ok_71 (Nat.le_of_ble_eq_true rfl) nm_71 ?_
  (refine vsr ?_)
  (repeat refine vcl_v _ rfl rfl ?_); (refine vcl_end ?_)
  (refine vsb ?_)
  refine rnR (pE (by kernel_rfl) cx.live cy.live _ _) ?_
  rcases Classical.em (x = y) with e | e
  · subst e
    rw [hx] at hy; cases hy
    rw [show (decide ((⟨x, 0, none⟩ : Addr) = ⟨x, 0, none⟩)) = true by simp]
    refine ⟨fun _ => ?_, fun hc => (by cases hc)⟩
    refine ⟨rfl, ?_, Fm.refl _ _⟩
    show Value.int .i64 0 = _
    rw [cmpZ, if_neg (by omega), if_neg (by omega)]
  · rw [show (decide ((⟨x, 0, none⟩ : Addr) = ⟨y, 0, none⟩)) = false by simp [e]]
    refine ⟨fun hc => (by cases hc), fun _ => ?_⟩
    refine ⟨.take 0 (.take 1 (.take 2 (.take 3 (.take 4 (.take 5 (.take 6 (.take 7 (.take 8 (.take 9 (.done)))))))))), by kernel_rfl, ?_⟩
    refine tkA (fa fo_56_0 _ _) ?_
    refine tkL na_4 cx rfl ?_
    refine tkA (fa fo_56_0 _ _) ?_
    refine tkL na_4 cy rfl ?_
    refine tkA (bEB sa sb _ _) ?_
    rcases Classical.em (sa = sb) with e2 | e2
    · subst e2
      rw [show (sa == sa) = true by simp]
      refine ⟨fun _ => ?_, fun hc => (by cases hc)⟩
      obtain ⟨ax, kx, rfl, _, _, sx⟩ := (ox.drew.drew).val
      obtain ⟨ay, ky, rfl, _, _, sy⟩ := (oy.drew.drew).val
      refine ⟨.take 0 (.take 1 (.take 2 (.take 3 (.take 4 (.take 5 (.take 6 (.take 7 (.one 8 [] (.take 9 (.done)))))))))), by kernel_rfl, ?_⟩
      refine tkA (fa fo_56_1 _ _) ?_
      refine tkL na_54 cx rfl ?_
      refine tkA (fa fo_56_1 _ _) ?_
      refine tkL na_54 cy rfl ?_
      refine (cmp_c sx sy (.inr ⟨nx, ny⟩) (by omega) (by omega)).mono ?_
      rintro v w1 ⟨⟨hF1, hs1⟩, rfl⟩
      refine ⟨trivial, ?_⟩
      have hF1' : Fm (fun _ => False) w w1 := hF1.drew'.drew'
      refine rnA (fa fo_56_0 _ _) ?_
      refine rnL na_4 (hF1'.obj cx (fun h => h)) rfl ?_
      rw [ex, ey]
      cases sa with
      | false =>
        refine ⟨fun hc => (by cases hc), fun _ => ?_⟩
        refine ⟨rfl, ?_, hF1'⟩
        show Value.int .i64 (cmpI na nb) = .int .i64 (cmpZ (na : Int) (nb : Int))
        congr 1
        unfold cmpI cmpZ
        rcases Nat.lt_trichotomy na nb with h5 | h5 | h5
        · rw [if_pos h5, if_pos (by omega)]
        · subst h5; rw [if_neg (by omega), if_neg (by omega), if_neg (by omega), if_neg (by omega)]
        · rw [if_neg (by omega), if_pos h5, if_neg (by omega), if_pos (by omega)]
      | true =>
        refine ⟨fun _ => ?_, fun hc => (by cases hc)⟩
        have hb5 : -5 ≤ cmpI na nb ∧ cmpI na nb ≤ 5 := by
          unfold cmpI; split
          · omega
          · split <;> omega
        refine rnA (uNegI hb5) ?_
        refine ⟨rfl, ?_, hF1'⟩
        show Value.int .i64 (-cmpI na nb) = .int .i64 (cmpZ (-(na : Int)) (-(nb : Int)))
        congr 1
        unfold cmpI cmpZ
        rcases Nat.lt_trichotomy na nb with h5 | h5 | h5
        · rw [if_pos h5, if_neg (by omega), if_pos (by omega)]; omega
        · subst h5; rw [if_neg (by omega), if_neg (by omega), if_neg (by omega), if_neg (by omega)]; omega
        · rw [if_neg (by omega), if_pos h5, if_pos (by omega)]
    · rw [show (sa == sb) = false by simp [e2]]
      refine ⟨fun hc => (by cases hc), fun _ => ?_⟩
      refine rnA (fa fo_56_0 _ _) ?_
      refine rnL na_4 (Fm.obj (Fm.drew (fun _ => False) w) cx (fun h => h)) rfl ?_
      cases sa with
      | true =>
        cases sb with
        | true => exact absurd rfl e2
        | false =>
          refine ⟨fun _ => ?_, fun hc => (by cases hc)⟩
          refine ⟨rfl, ?_, Fm.drew _ _⟩
          show Value.int .i64 (-1) = .int .i64 (cmpZ (-(na : Int)) (nb : Int))
          have : 0 < na := ca rfl
          rw [cmpZ, if_pos (by omega)]
      | false =>
        cases sb with
        | false => exact absurd rfl e2
        | true =>
          refine ⟨fun hc => (by cases hc), fun _ => ?_⟩
          refine ⟨rfl, ?_, Fm.drew _ _⟩
          show Value.int .i64 1 = .int .i64 (cmpZ (na : Int) (-(nb : Int)))
          have : 0 < nb := cb rfl
          rw [cmpZ, if_neg (by omega), if_pos (by omega)]

theorem sign_I {w : World} {K : Nat → Prop} {S : Nat → Option Zn} {D : Nat → Option Nat} (h : Sto w K S D) {x : Nat} {a : Zn} (hx : S x = some a) :
    CallX P 70 #[pI x] w fun v w' => w = w' ∧ v = .int .i64 (cmpZ (iv a) 0) := by
  obtain ⟨vx, lx, cx, ox, nx, ex⟩ := (h.int x a hx).all
  obtain ⟨sa, na⟩ := a
  dsimp only at *
  obtain ⟨ax, kx, rfl, _, _, sx⟩ := ox.val
  have hl := nil_len nx
  rw [ex] at hl
  refine calls_vc mo fn_70 rfl ok_70 (Nat.le_of_ble_eq_true rfl) nm_70 ?_
  refine rnA (fa fo_56_1 _ _) ?_
  refine rnL na_54 cx rfl ?_
  refine ⟨_, _, ln se_54 _ _ _ _ _ _, ?_⟩
  rcases Nat.eq_zero_or_pos na with e | e
  · refine ⟨_, bEq (by omega), ?_⟩
    refine ⟨fun _ => ?_, fun hc => (by cases hc)⟩
    refine ⟨rfl, rfl, ?_⟩
    show Value.int .i64 0 = _
    subst e
    cases sa <;> simp [cmpZ, iv]
  · refine ⟨_, bEqF (by omega), ?_⟩
    refine ⟨fun hc => (by cases hc), fun _ => ?_⟩
    refine rnA (fa fo_56_0 _ _) ?_
    refine rnL na_4 cx rfl ?_
    cases sa with
    | true =>
      refine ⟨fun _ => ?_, fun hc => (by cases hc)⟩
      refine ⟨rfl, rfl, ?_⟩
      show Value.int .i64 (-1) = .int .i64 (cmpZ (-(na : Int)) 0)
      rw [cmpZ, if_pos (by omega)]
    | false =>
      refine ⟨fun hc => (by cases hc), fun _ => ?_⟩
      refine ⟨rfl, rfl, ?_⟩
      show Value.int .i64 1 = .int .i64 (cmpZ (na : Int) 0)
      rw [cmpZ, if_neg (by omega), if_pos (by omega)]

end Go.Vc
end
