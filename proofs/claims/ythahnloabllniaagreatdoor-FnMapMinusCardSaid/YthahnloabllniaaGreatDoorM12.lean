/- Ints: a store of them. -/
import Derived.Test.YthahnloabllniaaGreatDoorM11
section
set_option linter.unusedSimpArgs false
set_option linter.unusedVariables false
set_option maxRecDepth 8000
set_option maxHeartbeats 1000000
namespace Go.Vc
open Go.Proofs

/-- A number as it is held: sign and size. -/
abbrev Zn := Bool × Nat
def iv (x : Zn) : Int := if x.1 then -(x.2 : Int) else (x.2 : Int)
def zi (x : Int) : Zn := (decide (x < 0), x.natAbs)
abbrev pI (p : Nat) : Value := .pointer (some ⟨p, 0, none⟩)

theorem iv_zi (x : Int) : iv (zi x) = x := by
  unfold iv zi
  dsimp only
  split
  · rename_i h; have := of_decide_eq_true h; omega
  · rename_i h
    have h2 : ¬ x < 0 := fun h3 => h (decide_eq_true h3)
    omega

/-- An Int at p, its digits in d. -/
structure IAt (w : World) (p : Nat) (d : Option Nat) (x : Zn) : Prop where
  all : ∃ v l, Cl w p [.bool x.1, v] 56 ∧ Own w v d l ∧ Nrm l ∧ nv l = x.2

/-- The Ints of S, each with digits of its own (D); the blocks of K are left alone. -/
structure Sto (w : World) (K : Nat → Prop) (S : Nat → Option Zn) (D : Nat → Option Nat) : Prop where
  int : ∀ p x, S p = some x → IAt w p (D p) x
  inj : ∀ p q b, S p ≠ none → S q ≠ none → D p = some b → D q = some b → p = q
  kp : ∀ p, S p ≠ none → ¬ K p
  kd : ∀ p b, S p ≠ none → D p = some b → ¬ K b
  kl : ∀ b, K b → b < w.heap.size

def upd (S : Nat → Option Zn) (z : Nat) (x : Zn) : Nat → Option Zn := fun p => if p = z then some x else S p

theorem upd_self {S : Nat → Option Zn} {z : Nat} {x : Zn} : upd S z x z = some x := by simp [upd]
theorem upd_ne {S : Nat → Option Zn} {z p : Nat} {x : Zn} (h : p ≠ z) : upd S z x p = S p := by simp [upd, h]

theorem Cl.ne_word {w : World} {p b : Nat} {cs : List Value} {l : List Nat} (h : Cl w p cs 56) (h2 : Wd w b l) : b ≠ p := h2.cl.ne_T h (by decide)

theorem IAt.fm {w w' : World} {p : Nat} {d : Option Nat} {x : Zn} {A : Nat → Prop} (h : IAt w p d x) (f : Fm A w w') (hp : ¬ A p) (hd : ∀ b, d = some b → ¬ A b) : IAt w' p d x := by
  obtain ⟨v, l, h1, h2, h3, h4⟩ := h.all
  exact ⟨v, l, f.obj h1 hp, h2.fm f hd, h3, h4⟩

theorem IAt.lt {w : World} {p : Nat} {d : Option Nat} {x : Zn} (h : IAt w p d x) : p < w.heap.size := by
  obtain ⟨v, l, h1, _⟩ := h.all; exact lt_of_obj h1

theorem IAt.dlt {w : World} {p b : Nat} {x : Zn} (h : IAt w p (some b) x) : b < w.heap.size := by
  obtain ⟨v, l, _, h2, _⟩ := h.all; exact h2.blt

/-- The result of an operation on z. -/
def IR (w : World) (K : Nat → Prop) (S : Nat → Option Zn) (z : Nat) (r : Zn) (w' : World) : Prop := ∃ D', Sto w' K (upd S z r) D' ∧ Fm (fun b => ¬ K b) w w'

theorem Sto.put {w w1 w3 : World} {K : Nat → Prop} {S : Nat → Option Zn} {D : Nat → Option Nat} (h : Sto w K S D) {z : Nat} {x0 : Zn} (hz : S z = some x0) {v : Value} {n : Nat} {s : Bool} (hr : Res w w1 (D z) v n)
    (hc : Cl w3 z [.bool s, v] 56) (hF : Fm (fun b => b = z) w1 w3) : IR w K S z (s, n) w3 := by
  obtain ⟨d', l, ho, hn, hv, hnd, hf⟩ := hr.all
  have hS : ∀ p x, upd S z (s, n) p = some x → (p = z ∧ x = (s, n)) ∨ (p ≠ z ∧ S p = some x) := fun p x e => by
    rcases Classical.em (p = z) with h1 | h1
    · subst h1; rw [upd_self] at e; cases e; exact .inl ⟨rfl, rfl⟩
    · rw [upd_ne h1] at e; exact .inr ⟨h1, e⟩
  have hsz1 := hf.size
  have hsz3 := hF.size
  obtain ⟨v0, l0, hc0, ho0, _, _⟩ := (h.int z x0 hz).all
  have hzd : D z ≠ some z := fun e => by
    rw [e] at ho0
    obtain ⟨fl, _, hw, _⟩ := ho0
    exact hc0.ne_word hw rfl
  have hc1 : Cl w1 z [.bool x0.1, v0] 56 := hf.obj hc0 hzd
  have hzn : S z ≠ none := by rw [hz]; simp
  have hSn : ∀ p, upd S z (s, n) p ≠ none → S p ≠ none := fun p e => by
    rcases Classical.em (p = z) with h1 | h1
    · rw [h1]; exact hzn
    · rwa [upd_ne h1] at e
  have hd' : ∀ b, d' = some b → (D z = some b ∨ w.heap.size ≤ b) := fun b e => by
    rcases hnd with h1 | h1 | ⟨b', h1, h2, _⟩
    · rw [h1] at e; cases e
    · rw [h1] at e; exact .inl e
    · rw [h1] at e; cases e; exact .inr h2
  refine ⟨fun p => if p = z then d' else D p, ⟨fun p x e => ?_, fun p q b hp hq e1 e2 => ?_, fun p hp => h.kp p (hSn p hp), fun p b hp e => ?_, fun b hb => by have := h.kl b hb; omega⟩, ?_⟩
  · rcases hS p x e with ⟨rfl, rfl⟩ | ⟨h1, h2⟩
    · simp only [if_true]
      refine ⟨v, l, hc, ho.fm hF (fun b e e2 => ?_), hn, hv⟩
      subst e; subst e2
      obtain ⟨fl, _, hw, _⟩ := ho
      exact hc1.ne_word hw rfl
    · simp only [if_neg h1]
      obtain ⟨v2, l2, g1, g2, g3, g4⟩ := (h.int p x h2).all
      have hne : S p ≠ none := by rw [h2]; simp
      refine ⟨v2, l2, hF.obj (hf.obj g1 (fun e => ?_)) h1, (g2.fm hf (fun b e1 e2 => h1 (h.inj p z b hne hzn e1 e2))).fm hF (fun b e1 e2 => ?_), g3, g4⟩
      · rw [e] at ho0
        obtain ⟨fl, _, hw, _⟩ := ho0
        exact g1.ne_word hw rfl
      · rw [e1, e2] at g2
        obtain ⟨fl, _, hw, _⟩ := g2
        exact hc0.ne_word hw rfl
  · have h1 := hSn p hp
    have h2 := hSn q hq
    have lt : ∀ q, S q ≠ none → D q = some b → b < w.heap.size := fun q hq e => by
      cases hsq : S q with
      | none => exact absurd hsq hq
      | some x => have := h.int q x hsq; rw [e] at this; exact this.dlt
    rcases Classical.em (p = z) with hpz | hpz
    · rcases Classical.em (q = z) with hqz | hqz
      · rw [hpz, hqz]
      · simp only [if_pos hpz] at e1
        simp only [if_neg hqz] at e2
        rcases hd' b e1 with h3 | h3
        · rw [hpz]; exact h.inj z q b hzn h2 h3 e2
        · have := lt q h2 e2; omega
    · rcases Classical.em (q = z) with hqz | hqz
      · simp only [if_neg hpz] at e1
        simp only [if_pos hqz] at e2
        rcases hd' b e2 with h3 | h3
        · rw [hqz]; exact h.inj p z b h1 hzn e1 h3
        · have := lt p h1 e1; omega
      · simp only [if_neg hpz] at e1
        simp only [if_neg hqz] at e2
        exact h.inj p q b h1 h2 e1 e2
  · rcases Classical.em (p = z) with hpz | hpz
    · simp only [if_pos hpz] at e
      rcases hd' b e with h3 | h3
      · exact h.kd z b hzn h3
      · intro hk; have := h.kl b hk; omega
    · simp only [if_neg hpz] at e
      exact h.kd p b (hSn p hp) e
  · exact (hf.mono (fun b _ e => h.kd z b hzn e)).trans hF (fun b _ e => by rw [e]; exact h.kp z hzn)

/-- Nothing of the store has been written. -/
theorem Sto.fm {w w' : World} {K A : Nat → Prop} {S : Nat → Option Zn} {D : Nat → Option Nat} (h : Sto w K S D) (f : Fm A w w') (hA : ∀ b, A b → K b ∨ w.heap.size ≤ b) : Sto w' K S D := by
  have hs := f.size
  refine ⟨fun p x e => ?_, h.inj, h.kp, h.kd, fun b hb => by have := h.kl b hb; omega⟩
  have hi := h.int p x e
  have hne : S p ≠ none := by rw [e]; simp
  refine hi.fm f (fun ha => ?_) (fun b eb ha => ?_)
  · rcases hA p ha with h1 | h1
    · exact h.kp p hne h1
    · have := hi.lt; omega
  · rcases hA b ha with h1 | h1
    · exact h.kd p b hne eb h1
    · rw [eb] at hi; have := hi.dlt; omega

theorem Sto.drew {w : World} {K : Nat → Prop} {S : Nat → Option Zn} {D : Nat → Option Nat} (h : Sto w K S D) : Sto w.drew K S D := h.fm (Fm.drew (fun _ => False) w) (fun _ h => h.elim)

/-- Some of it is forgotten. -/
theorem Sto.weak {w : World} {K : Nat → Prop} {S S' : Nat → Option Zn} {D : Nat → Option Nat} (h : Sto w K S D) (hs : ∀ p x, S' p = some x → S p = some x) : Sto w K S' D := by
  have hn : ∀ p, S' p ≠ none → S p ≠ none := fun p e e2 => by
    cases hp : S' p with
    | none => exact e hp
    | some x => rw [hs p x hp] at e2; cases e2
  exact ⟨fun p x e => h.int p x (hs p x e), fun p q b hp hq => h.inj p q b (hn p hp) (hn q hq), fun p hp => h.kp p (hn p hp), fun p b hp => h.kd p b (hn p hp), h.kl⟩

/-- What has been made meanwhile is to be left alone too. -/
theorem Sto.keep {w w' : World} {K : Nat → Prop} {S : Nat → Option Zn} {D : Nat → Option Nat} (h : Sto w K S D) (f : Fm (fun _ => False) w w') : Sto w' (fun b => K b ∨ (w.heap.size ≤ b ∧ b < w'.heap.size)) S D := by
  have h1 := h.fm f (fun _ h => h.elim)
  have hs := f.size
  refine ⟨h1.int, h1.inj, fun p hp hk => ?_, fun p b hp e hk => ?_, fun b hb => hb.elim (h1.kl b) (fun h => h.2)⟩
  · rcases hk with hk | hk
    · exact h.kp p hp hk
    · cases hsp : S p with
      | none => exact hp hsp
      | some x => have := (h.int p x hsp).lt; omega
  · rcases hk with hk | hk
    · exact h.kd p b hp e hk
    · cases hsp : S p with
      | none => exact hp hsp
      | some x => have := h.int p x hsp; rw [e] at this; have := this.dlt; omega

/-- A new Int. -/
theorem Sto.new {w w' : World} {K : Nat → Prop} {S : Nat → Option Zn} {D : Nat → Option Nat} (h : Sto w K S D) (hc : Cl w' w.heap.size [.bool false, .slice none 0 0] 56) (f : Fm (fun _ => False) w w') :
    ∃ D', Sto w' K (upd S w.heap.size (false, 0)) D' := by
  have h1 := h.fm f (fun _ h => h.elim)
  have hs := f.size
  have hfr : S w.heap.size = none := by
    cases hsp : S w.heap.size with
    | none => rfl
    | some x => have := (h.int _ x hsp).lt; omega
  have hn : ∀ p, upd S w.heap.size (false, 0) p ≠ none → p = w.heap.size ∨ (p ≠ w.heap.size ∧ S p ≠ none) := fun p e => by
    rcases Classical.em (p = w.heap.size) with h2 | h2
    · exact .inl h2
    · rw [upd_ne h2] at e; exact .inr ⟨h2, e⟩
  refine ⟨fun p => if p = w.heap.size then none else D p, ⟨fun p x e => ?_, fun p q b hp hq e1 e2 => ?_, fun p hp hk => ?_, fun p b hp e => ?_, h1.kl⟩⟩
  · rcases Classical.em (p = w.heap.size) with h2 | h2
    · subst h2
      rw [upd_self] at e; cases e
      simp only [if_true]
      exact ⟨_, [], hc, Own.nil _, nrm_nil, rfl⟩
    · rw [upd_ne h2] at e
      simp only [if_neg h2]
      exact h1.int p x e
  · rcases hn p hp with h2 | ⟨h2, h3⟩
    · simp only [if_pos h2] at e1; cases e1
    · rcases hn q hq with h4 | ⟨h4, h5⟩
      · simp only [if_pos h4] at e2; cases e2
      · simp only [if_neg h2] at e1
        simp only [if_neg h4] at e2
        exact h1.inj p q b h3 h5 e1 e2
  · rcases hn p hp with h2 | ⟨h2, h3⟩
    · have := h.kl p hk; omega
    · exact h1.kp p h3 hk
  · rcases hn p hp with h2 | ⟨h2, h3⟩
    · simp only [if_pos h2] at e; cases e
    · simp only [if_neg h2] at e; exact h1.kd p b h3 e

end Go.Vc
end

section
/- Int.Set, Neg. -/
set_option linter.unusedSimpArgs false
set_option linter.unusedVariables false
set_option maxRecDepth 8000
set_option maxHeartbeats 1000000
namespace Go.Vc
open Go.Proofs

theorem IR.same {w : World} {K : Nat → Prop} {S : Nat → Option Zn} {D : Nat → Option Nat} (h : Sto w K S D) {z : Nat} {x : Zn} (hz : S z = some x) : IR w K S z x w :=
  ⟨D, h.weak (fun p y e => by
    rcases Classical.em (p = z) with h1 | h1
    · subst h1; rw [upd_self] at e; rw [hz]; exact e
    · rwa [upd_ne h1] at e), Fm.refl _ _⟩

theorem nv_len {l : List Nat} {k : Nat} (h : Nrm l) (hk : nv l < BW ^ k) : l.length ≤ k := nv_length_le h hk

theorem set_I {w : World} {K : Nat → Prop} {S : Nat → Option Zn} {D : Nat → Option Nat} (h : Sto w K S D) {z x : Nat} {z0 a : Zn} (hz : S z = some z0) (hx : S x = some a) (hb : a.2 < BW ^ 250) :
    CallX P 28 #[pI z, pI x] w fun v w' => v = pI z ∧ IR w K S z a w' := by
  obtain ⟨vz, lz, cz, oz, nz, ez⟩ := (h.int z z0 hz).all
  obtain ⟨vx, lx, cx, ox, nx, ex⟩ := (h.int x a hx).all
  rcases Classical.em (z = x) with e | e
  · subst e
    have hza : z0 = a := by rw [hz] at hx; cases hx; rfl
    subst hza
    refine calls_vc mo fn_28 rfl ok_28 (Nat.le_of_ble_eq_true rfl) nm_28 ?_
    refine rnR (pN (by kernel_rfl) cz.live cz.live _ _) ?_
    rw [show (!decide ((⟨z, 0, none⟩ : Addr) = ⟨z, 0, none⟩)) = false by simp]
    refine ⟨fun hc => (by cases hc), fun _ => ?_⟩
    exact ⟨rfl, rfl, IR.same h hz⟩
  · refine calls_vc mo fn_28 rfl ok_28 (Nat.le_of_ble_eq_true rfl) nm_28 ?_
    refine rnR (pN (by kernel_rfl) cz.live cx.live _ _) ?_
    rw [show (!decide ((⟨z, 0, none⟩ : Addr) = ⟨x, 0, none⟩)) = true by simp [e]]
    refine ⟨fun _ => ?_, fun hc => (by cases hc)⟩
    refine ⟨.take 0 (.take 1 (.take 2 (.take 3 (.take 4 (.take 5 (.take 6 (.take 7 (.take 8 (.one 9 [0] (.take 10 (.take 11 (.one 12 [] (.done))))))))))))), by kernel_rfl, ?_⟩
    refine tkA (fa fo_56_1 _ _) ?_
    refine tkL na_54 cz rfl ?_
    refine tkA (fa fo_56_1 _ _) ?_
    refine tkL na_54 cx rfl ?_
    refine (set_c oz.drew ox.drew nx (Nat.le_trans (nv_len nx (by rw [ex]; exact hb)) (by omega))).mono ?_
    rintro v w1 hr
    refine ⟨trivial, ?_⟩
    refine tkA (fa fo_56_1 _ _) ?_
    have hr' : Res w w1 (D z) v a.2 := by
      obtain ⟨d', l, q1, q2, q3, q4, q5⟩ := hr.all
      exact ⟨d', l, q1, q2, by rw [q3, ex], q4, q5.drew'⟩
    have hzd : D z ≠ some z := fun e => by
      rw [e] at oz
      obtain ⟨fl, _, hw, _⟩ := oz
      exact cz.ne_word hw rfl
    have hxd : D z ≠ some x := fun e => by
      rw [e] at oz
      obtain ⟨fl, _, hw, _⟩ := oz
      exact cx.ne_word hw rfl
    obtain ⟨d', l, q1, q2, q3, q4, q5⟩ := hr'.all
    have cz1 := q5.obj cz hzd
    have cx1 := q5.obj cx hxd
    obtain ⟨w2, e2, c2, f2, s2⟩ := Vc.st sz_54 cz1 (i := 0 + 1) (by simp) (v := v) (by obtain ⟨a1, c1, e1, _⟩ := q1.val; rw [e1]; rfl)
    refine ⟨w2, e2, ?_⟩
    refine ⟨trivial, ?_⟩
    refine rnA (fa fo_56_0 _ _) ?_
    refine rnL na_4 (f2.obj cx1 (fun e3 => e e3.symm)) rfl ?_
    refine rnA (fa fo_56_0 _ _) ?_
    obtain ⟨w3, e3, c3, f3, s3⟩ := Vc.st sz_4 c2 (i := 0 + 0) (by simp) (v := .bool a.1) rfl
    refine ⟨w3, e3, ?_⟩
    exact ⟨rfl, rfl, h.put hz hr' c3 (f2.trans f3 (fun _ _ h => h))⟩

theorem Res.undrew {w w' : World} {d : Option Nat} {v : Value} {n : Nat} (h : Res w.drew w' d v n) : Res w w' d v n := by
  obtain ⟨d', l, q1, q2, q3, q4, q5⟩ := h.all
  exact ⟨d', l, q1, q2, q3, q4, q5.drew'⟩

theorem Own.one {w : World} {v : Value} {d : Option Nat} {l : List Nat} (h : Own w v d l) : v.oneCell' = true := by
  obtain ⟨a1, c1, e1, _⟩ := h.val
  rw [e1]; rfl

theorem Sto.nd {w : World} {K : Nat → Prop} {S : Nat → Option Zn} {D : Nat → Option Nat} (h : Sto w K S D) {z x : Nat} {z0 a : Zn} (hz : S z = some z0) (hx : S x = some a) : D z ≠ some x := fun e => by
  obtain ⟨vz, lz, cz, oz, nz, ez⟩ := (h.int z z0 hz).all
  obtain ⟨vx, lx, cx, ox, nx, ex⟩ := (h.int x a hx).all
  rw [e] at oz
  obtain ⟨fl, _, hw, _⟩ := oz
  exact cx.ne_word hw rfl

theorem Sto.stAbs {w w1 : World} {K : Nat → Prop} {S : Nat → Option Zn} {D : Nat → Option Nat} (h : Sto w K S D) {z : Nat} {z0 : Zn} (hz : S z = some z0) {v : Value} {n : Nat} (hr : Res w w1 (D z) v n) :
    ∃ w2, (Instr.storeAt 54 (.pointer (some ⟨z, 0 + 1, none⟩)) v).run P w1 = .ok () w2 ∧ IR w K S z (z0.1, n) w2 := by
  obtain ⟨vz, lz, cz, oz, nz, ez⟩ := (h.int z z0 hz).all
  obtain ⟨d', l, q1, q2, q3, q4, q5⟩ := hr.all
  obtain ⟨w2, e2, c2, f2, s2⟩ := Vc.st sz_54 (q5.obj cz (h.nd hz hz)) (i := 0 + 1) (by simp) (v := v) q1.one
  exact ⟨w2, e2, h.put hz hr c2 f2⟩

theorem Sto.stNeg {w : World} {K : Nat → Prop} {S : Nat → Option Zn} {D : Nat → Option Nat} (h : Sto w K S D) {z : Nat} {z0 : Zn} (hz : S z = some z0) (s : Bool) :
    ∃ w2, (Instr.storeAt 4 (.pointer (some ⟨z, 0 + 0, none⟩)) (.bool s)).run P w = .ok () w2 ∧ IR w K S z (s, z0.2) w2 := by
  obtain ⟨vz, lz, cz, oz, nz, ez⟩ := (h.int z z0 hz).all
  obtain ⟨w2, e2, c2, f2, s2⟩ := Vc.st sz_4 cz (i := 0 + 0) (by simp) (v := .bool s) rfl
  exact ⟨w2, e2, h.put (w1 := w) hz ⟨D z, lz, oz, nz, ez, Nd.same _ _ _, Fm.refl _ _⟩ c2 f2⟩

theorem IR.trans {w w1 w2 : World} {K : Nat → Prop} {S : Nat → Option Zn} {z : Nat} {r r' : Zn} (f : Fm (fun b => ¬ K b) w w1) (h : IR w1 K (upd S z r) z r' w2) : IR w K S z r' w2 := by
  obtain ⟨D', h1, h2⟩ := h
  refine ⟨D', h1.weak (fun p x e => ?_), f.trans h2 (fun _ _ h => h)⟩
  rcases Classical.em (p = z) with h3 | h3
  · subst h3; rw [upd_self] at e ⊢; exact e
  · rw [upd_ne h3] at e ⊢; rw [upd_ne h3]; exact e

theorem IR.eq {w w1 : World} {K : Nat → Prop} {S : Nat → Option Zn} {z : Nat} {r r' : Zn} (h : IR w K S z r w1) (e : r = r') : IR w K S z r' w1 := e ▸ h

theorem nil_len {l : List Nat} (h : Nrm l) : (0 < l.length) ↔ 0 < nv l := by
  constructor
  · intro h1; exact nv_pos h (by intro e; rw [e] at h1; simp at h1)
  · intro h1
    rcases Nat.eq_zero_or_pos l.length with e | e
    · rw [List.eq_nil_of_length_eq_zero e] at h1; simp [nv] at h1
    · exact e

theorem neg_I {w : World} {K : Nat → Prop} {S : Nat → Option Zn} {D : Nat → Option Nat} (h : Sto w K S D) {z x : Nat} {z0 a : Zn} (hz : S z = some z0) (hx : S x = some a) (hb : a.2 < BW ^ 250) :
    CallX P 69 #[pI z, pI x] w fun v w' => v = pI z ∧ IR w K S z (zi (-iv a)) w' := by
  refine calls_vc mo fn_69 rfl ok_69 (Nat.le_of_ble_eq_true rfl) nm_69 ?_
  refine (set_I h hz hx hb).mono ?_
  rintro v w1 ⟨rfl, D1, h1, f1⟩
  have hz1 : upd S z a z = some a := upd_self
  obtain ⟨vz, lz, cz, oz, nz, ez⟩ := (h1.int z a hz1).all
  obtain ⟨az, kz, rfl, _⟩ := oz.val
  refine rnA (fa fo_56_1 _ _) ?_
  refine rnL na_54 cz rfl ?_
  refine ⟨_, _, ln se_54 _ _ _ _ _ _, ?_⟩
  have hl := nil_len nz
  rw [ez] at hl
  rcases Nat.eq_zero_or_pos a.2 with e0 | e0
  · refine ⟨_, bGtF (by omega), ?_⟩
    refine rnA (fa fo_56_0 _ _) ?_
    obtain ⟨w2, e2, r2⟩ := h1.stNeg hz1 false
    refine ⟨w2, e2, ?_⟩
    refine ⟨rfl, rfl, (IR.trans f1 r2).eq ?_⟩
    rw [e0]; simp [zi, iv, e0]
  · refine ⟨_, bGt (by omega), ?_⟩
    refine rnA (fa fo_56_0 _ _) ?_
    refine rnL na_4 cz rfl ?_
    refine rnA (fa fo_56_0 _ _) ?_
    obtain ⟨w2, e2, r2⟩ := h1.stNeg hz1 (!a.1)
    refine ⟨w2, e2, ?_⟩
    refine ⟨rfl, rfl, (IR.trans f1 r2).eq ?_⟩
    obtain ⟨s, n⟩ := a
    cases s <;> simp [zi, iv] at * <;> omega

end Go.Vc
end

section
/- Int.Add, Sub. -/
set_option linter.unusedSimpArgs false
set_option linter.unusedVariables false
set_option maxRecDepth 8000
set_option maxHeartbeats 1000000
namespace Go.Vc
open Go.Proofs

theorem bEB (a b : Bool) (x y : Operand) (w : World) :
    (do eqGuard .eql 4 x y (.bool a) (.bool b); binOp .eql 4 (.bool a) (.bool b) : Sem Value).run P w = .ok (.bool (a == b)) w := by
  cases a <;> cases b <;> kernel_rfl

theorem bNB (a b : Bool) (x y : Operand) (w : World) :
    (do eqGuard .neq 4 x y (.bool a) (.bool b); binOp .neq 4 (.bool a) (.bool b) : Sem Value).run P w = .ok (.bool (a != b)) w := by
  cases a <;> cases b <;> kernel_rfl

/-- The sign and size of a sum. -/
theorem zadd_same {s : Bool} {m n : Nat} : zi (iv (s, m) + iv (s, n)) = (decide (0 < m + n) && s, m + n) := by
  cases s <;> simp [zi, iv] <;> omega

theorem zadd_ge {s t : Bool} {m n : Nat} (h : s ≠ t) (hge : n ≤ m) : zi (iv (s, m) + iv (t, n)) = (decide (0 < m - n) && s, m - n) := by
  cases s <;> cases t <;> simp [zi, iv] at * <;> constructor <;> omega

theorem zadd_lt {s t : Bool} {m n : Nat} (h : s ≠ t) (hge : m < n) : zi (iv (s, m) + iv (t, n)) = (decide (0 < n - m) && !s, n - m) := by
  cases s <;> cases t <;> simp [zi, iv] at * <;> (try constructor) <;> omega

theorem add_I {w : World} {K : Nat → Prop} {S : Nat → Option Zn} {D : Nat → Option Nat} (h : Sto w K S D) {z x y : Nat} {z0 a b : Zn} (hz : S z = some z0) (hx : S x = some a) (hy : S y = some b) (ba : a.2 < BW ^ 200) (bb : b.2 < BW ^ 200) :
    CallX P 59 #[pI z, pI x, pI y] w fun v w' => v = pI z ∧ IR w K S z (zi (iv a + iv b)) w' := by
  obtain ⟨vz, lz, cz, oz, nz, ez⟩ := (h.int z z0 hz).all
  obtain ⟨vx, lx, cx, ox, nx, ex⟩ := (h.int x a hx).all
  obtain ⟨vy, ly, cy, oy, ny, ey⟩ := (h.int y b hy).all
  obtain ⟨sa, na⟩ := a
  obtain ⟨sb, nb⟩ := b
  dsimp only at *
  have hlx := nv_len nx (by rw [ex]; exact ba)
  have hly := nv_len ny (by rw [ey]; exact bb)
  refine calls_vc mo fn_59 rfl ok_59 (Nat.le_of_ble_eq_true rfl) nm_59 ?_
  refine rnA (fa fo_56_0 _ _) ?_
  refine rnL na_4 cx rfl ?_
  (repeat refine vcl_v _ rfl rfl ?_); (refine vcl_end ?_)
  refine vcut (by repeat (first | exact moE _ _ _ | exact moEd _ _ _ | apply moB | apply moL | apply moV)) Bool (fun s => ⟨[(0, pI z), (7, .bool s)], []⟩) (fun s u => ∃ n, IR w K S z (z0.1, n) u ∧ zi (iv (sa, na) + iv (sb, nb)) = (decide (0 < n) && s, n)) ?_ ?_
  · refine ⟨.take 0 (.take 1 (.take 2 (.take 3 (.take 4 (.take 5 (.take 6 (.take 7 (.take 8 (.done))))))))), by kernel_rfl, ?_⟩
    refine tkA (fa fo_56_0 _ _) ?_
    refine tkL na_4 cx rfl ?_
    refine tkA (fa fo_56_0 _ _) ?_
    refine tkL na_4 cy rfl ?_
    refine tkA (bEB sa sb _ _) ?_
    rcases Classical.em (sa = sb) with e | e
    · subst e
      rw [show (sa == sa) = true by simp]
      refine ⟨fun _ => ?_, fun hc => (by cases hc)⟩
      refine ⟨.take 0 (.take 1 (.take 2 (.take 3 (.take 4 (.take 5 (.take 6 (.take 7 (.take 8 (.take 9 (.take 10 (.take 11 (.take 12 (.one 13 [0] (.take 14 (.take 15 (.one 16 [] (.done))))))))))))))))), by kernel_rfl, ?_⟩
      refine tkA (fa fo_56_1 _ _) ?_
      refine tkL na_54 cz rfl ?_
      refine tkA (fa fo_56_1 _ _) ?_
      refine tkL na_54 cx rfl ?_
      refine tkA (fa fo_56_1 _ _) ?_
      refine tkL na_54 cy rfl ?_
      refine (add_c oz.drew.drew ox.drew.drew oy.drew.drew nx ny (by omega) (by omega)).mono ?_
      rintro v w1 hr
      refine ⟨trivial, ?_⟩
      refine tkA (fa fo_56_1 _ _) ?_
      obtain ⟨w2, e2, r2⟩ := h.stAbs hz hr.undrew.undrew
      refine ⟨w2, e2, ?_⟩
      refine ⟨trivial, ?_⟩
      refine ⟨sa, ⟨⟨rfl, rfl, trivial⟩, rfl⟩, _, r2, ?_⟩
      rw [ex, ey]; exact zadd_same
    · rw [show (sa == sb) = false by simp [e]]
      refine ⟨fun hc => (by cases hc), fun _ => ?_⟩
      obtain ⟨ax, kx, rfl, hkx, hkx2, svx⟩ := ox.val
      obtain ⟨ay, ky, rfl, hky, hky2, svy⟩ := oy.val
      refine ⟨.take 0 (.take 1 (.take 2 (.take 3 (.take 4 (.take 5 (.take 6 (.take 7 (.one 8 [] (.take 9 (.done)))))))))), by kernel_rfl, ?_⟩
      refine tkA (fa fo_56_1 _ _) ?_
      refine tkL na_54 cx rfl ?_
      refine tkA (fa fo_56_1 _ _) ?_
      refine tkL na_54 cy rfl ?_
      have svx2 := (ox.drew.drew).val
      have svy2 := (oy.drew.drew).val
      obtain ⟨_, _, e1, _, _, sx2⟩ := svx2
      obtain ⟨_, _, e2, _, _, sy2⟩ := svy2
      cases e1; cases e2
      refine (cmp_c (ca := kx) (cb := ky) sx2 sy2 (.inr ⟨nx, ny⟩) (by omega) (by omega)).mono ?_
      rintro v w1 ⟨⟨hF1, hs1⟩, rfl⟩
      refine ⟨trivial, ?_⟩
      have hF1' : Fm (fun _ => False) w w1 := hF1.drew'.drew'
      have h1 := h.fm hF1' (fun _ h => h.elim)
      have cz1 := hF1'.obj cz (fun h => h)
      have cx1 := hF1'.obj cx (fun h => h)
      have cy1 := hF1'.obj cy (fun h => h)
      have oz1 := oz.fm hF1' (fun _ _ h => h)
      have ox1 := ox.fm hF1' (fun _ _ h => h)
      have oy1 := oy.fm hF1' (fun _ _ h => h)
      rw [ex, ey]
      have back : ∀ {r : Zn} {u : World}, IR w1 K S z r u → IR w K S z r u := fun ⟨D', q1, q2⟩ => ⟨D', q1, (hF1'.mono (fun _ _ h => h.elim)).trans q2 (fun _ _ h => h)⟩
      rcases Nat.lt_or_ge na nb with hlt | hge
      · refine ⟨_, bGeF (fun h => by have := ge_of_cmp.1 h; omega), ?_⟩
        refine ⟨fun hc => (by cases hc), fun _ => ?_⟩
        refine ⟨.take 0 (.take 1 (.take 2 (.take 3 (.take 4 (.take 5 (.take 6 (.take 7 (.take 8 (.take 9 (.take 10 (.take 11 (.take 12 (.one 13 [0] (.take 14 (.take 15 (.one 16 [] (.done))))))))))))))))), by kernel_rfl, ?_⟩
        refine tkA (fa fo_56_1 _ _) ?_
        refine tkL na_54 cz1 rfl ?_
        refine tkA (fa fo_56_1 _ _) ?_
        refine tkL na_54 cy1 rfl ?_
        refine tkA (fa fo_56_1 _ _) ?_
        refine tkL na_54 cx1 rfl ?_
        refine (sub_c oz1.drew oy1.drew ox1.drew ny (by omega) (by
          rcases Nat.lt_or_ge ly.length lx.length with h5 | h5
          · have := nv_lt_of_length oy.wf nx h5; omega
          · exact h5) (by omega)).mono ?_
        rintro v w2 hr
        refine ⟨trivial, ?_⟩
        refine tkA (fa fo_56_1 _ _) ?_
        obtain ⟨w3, e3, r3⟩ := h1.stAbs hz hr.undrew
        refine ⟨w3, e3, ?_⟩
        refine ⟨trivial, ?_⟩
        refine ⟨!sa, ⟨⟨rfl, rfl, trivial⟩, rfl⟩, _, back r3, ?_⟩
        rw [ex, ey]; exact zadd_lt e hlt
      · refine ⟨_, bGe (ge_of_cmp.2 hge), ?_⟩
        refine ⟨fun _ => ?_, fun hc => (by cases hc)⟩
        refine ⟨.take 0 (.take 1 (.take 2 (.take 3 (.take 4 (.take 5 (.take 6 (.take 7 (.take 8 (.take 9 (.take 10 (.take 11 (.take 12 (.one 13 [0] (.take 14 (.take 15 (.one 16 [] (.done))))))))))))))))), by kernel_rfl, ?_⟩
        refine tkA (fa fo_56_1 _ _) ?_
        refine tkL na_54 cz1 rfl ?_
        refine tkA (fa fo_56_1 _ _) ?_
        refine tkL na_54 cx1 rfl ?_
        refine tkA (fa fo_56_1 _ _) ?_
        refine tkL na_54 cy1 rfl ?_
        refine (sub_c oz1.drew ox1.drew oy1.drew nx (by omega) (by
          rcases Nat.lt_or_ge lx.length ly.length with h5 | h5
          · have := nv_lt_of_length ox.wf ny h5; omega
          · exact h5) (by omega)).mono ?_
        rintro v w2 hr
        refine ⟨trivial, ?_⟩
        refine tkA (fa fo_56_1 _ _) ?_
        obtain ⟨w3, e3, r3⟩ := h1.stAbs hz hr.undrew
        refine ⟨w3, e3, ?_⟩
        refine ⟨trivial, ?_⟩
        refine ⟨sa, ⟨⟨rfl, rfl, trivial⟩, rfl⟩, _, back r3, ?_⟩
        rw [ex, ey]; exact zadd_ge e hge
  rintro s u ⟨n, ⟨D1, h1, f1⟩, hr⟩
  have hz1 : upd S z (z0.1, n) z = some (z0.1, n) := upd_self
  obtain ⟨vz1, lz1, cz1, oz1, nz1, ez1⟩ := (h1.int z _ hz1).all
  obtain ⟨az1, kz1, rfl, _⟩ := oz1.val
  refine rnA (fa fo_56_1 _ _) ?_
  refine rnL na_54 cz1 rfl ?_
  refine ⟨_, _, ln se_54 _ _ _ _ _ _, ?_⟩
  have hl := nil_len nz1
  rw [ez1] at hl
  dsimp only at hl
  rw [hr]
  rcases Nat.eq_zero_or_pos n with e0 | e0
  · refine ⟨_, bGtF (by omega), ?_⟩
    refine rnA (fa fo_56_0 _ _) ?_
    obtain ⟨w2, e2, r2⟩ := h1.stNeg hz1 false
    refine ⟨w2, e2, ?_⟩
    refine ⟨rfl, rfl, (IR.trans f1 r2).eq ?_⟩
    rw [e0]; simp
  · refine ⟨_, bGt (by omega), ?_⟩
    refine rnA (fa fo_56_0 _ _) ?_
    obtain ⟨w2, e2, r2⟩ := h1.stNeg hz1 s
    refine ⟨w2, e2, ?_⟩
    refine ⟨rfl, rfl, (IR.trans f1 r2).eq ?_⟩
    simp [e0]

theorem sub_I {w : World} {K : Nat → Prop} {S : Nat → Option Zn} {D : Nat → Option Nat} (h : Sto w K S D) {z x y : Nat} {z0 a b : Zn} (hz : S z = some z0) (hx : S x = some a) (hy : S y = some b) (ba : a.2 < BW ^ 200) (bb : b.2 < BW ^ 200) :
    CallX P 56 #[pI z, pI x, pI y] w fun v w' => v = pI z ∧ IR w K S z (zi (iv a - iv b)) w' := by
  obtain ⟨vz, lz, cz, oz, nz, ez⟩ := (h.int z z0 hz).all
  obtain ⟨vx, lx, cx, ox, nx, ex⟩ := (h.int x a hx).all
  obtain ⟨vy, ly, cy, oy, ny, ey⟩ := (h.int y b hy).all
  obtain ⟨sa, na⟩ := a
  obtain ⟨sb, nb⟩ := b
  dsimp only at *
  have hlx := nv_len nx (by rw [ex]; exact ba)
  have hly := nv_len ny (by rw [ey]; exact bb)
  have hsub : iv (sa, na) - iv (sb, nb) = iv (sa, na) + iv (!sb, nb) := by cases sb <;> simp [iv] <;> omega
  rw [hsub]
  refine calls_vc mo fn_56 rfl ok_56 (Nat.le_of_ble_eq_true rfl) nm_56 ?_
  refine rnA (fa fo_56_0 _ _) ?_
  refine rnL na_4 cx rfl ?_
  (repeat refine vcl_v _ rfl rfl ?_); (refine vcl_end ?_)
  refine vcut (by repeat (first | exact moE _ _ _ | exact moEd _ _ _ | apply moB | apply moL | apply moV)) Bool (fun s => ⟨[(0, pI z), (7, .bool s)], []⟩) (fun s u => ∃ n, IR w K S z (z0.1, n) u ∧ zi (iv (sa, na) + iv (!sb, nb)) = (decide (0 < n) && s, n)) ?_ ?_
  · refine ⟨.take 0 (.take 1 (.take 2 (.take 3 (.take 4 (.take 5 (.take 6 (.take 7 (.take 8 (.done))))))))), by kernel_rfl, ?_⟩
    refine tkA (fa fo_56_0 _ _) ?_
    refine tkL na_4 cx rfl ?_
    refine tkA (fa fo_56_0 _ _) ?_
    refine tkL na_4 cy rfl ?_
    refine tkA (bNB sa sb _ _) ?_
    rcases Classical.em (sa = !sb) with e | e
    · subst e
      rw [show ((!sb) != sb) = true by cases sb <;> rfl]
      refine ⟨fun _ => ?_, fun hc => (by cases hc)⟩
      refine ⟨.take 0 (.take 1 (.take 2 (.take 3 (.take 4 (.take 5 (.take 6 (.take 7 (.take 8 (.take 9 (.take 10 (.take 11 (.take 12 (.one 13 [0] (.take 14 (.take 15 (.one 16 [] (.done))))))))))))))))), by kernel_rfl, ?_⟩
      refine tkA (fa fo_56_1 _ _) ?_
      refine tkL na_54 cz rfl ?_
      refine tkA (fa fo_56_1 _ _) ?_
      refine tkL na_54 cx rfl ?_
      refine tkA (fa fo_56_1 _ _) ?_
      refine tkL na_54 cy rfl ?_
      refine (add_c oz.drew.drew ox.drew.drew oy.drew.drew nx ny (by omega) (by omega)).mono ?_
      rintro v w1 hr
      refine ⟨trivial, ?_⟩
      refine tkA (fa fo_56_1 _ _) ?_
      obtain ⟨w2, e2, r2⟩ := h.stAbs hz hr.undrew.undrew
      refine ⟨w2, e2, ?_⟩
      refine ⟨trivial, ?_⟩
      refine ⟨!sb, ⟨⟨rfl, rfl, trivial⟩, rfl⟩, _, r2, ?_⟩
      rw [ex, ey]; exact zadd_same
    · rw [show (sa != sb) = false by cases sa <;> cases sb <;> simp_all]
      refine ⟨fun hc => (by cases hc), fun _ => ?_⟩
      obtain ⟨ax, kx, rfl, hkx, hkx2, svx⟩ := ox.val
      obtain ⟨ay, ky, rfl, hky, hky2, svy⟩ := oy.val
      refine ⟨.take 0 (.take 1 (.take 2 (.take 3 (.take 4 (.take 5 (.take 6 (.take 7 (.one 8 [] (.take 9 (.done)))))))))), by kernel_rfl, ?_⟩
      refine tkA (fa fo_56_1 _ _) ?_
      refine tkL na_54 cx rfl ?_
      refine tkA (fa fo_56_1 _ _) ?_
      refine tkL na_54 cy rfl ?_
      have svx2 := (ox.drew.drew).val
      have svy2 := (oy.drew.drew).val
      obtain ⟨_, _, e1, _, _, sx2⟩ := svx2
      obtain ⟨_, _, e2, _, _, sy2⟩ := svy2
      cases e1; cases e2
      refine (cmp_c (ca := kx) (cb := ky) sx2 sy2 (.inr ⟨nx, ny⟩) (by omega) (by omega)).mono ?_
      rintro v w1 ⟨⟨hF1, hs1⟩, rfl⟩
      refine ⟨trivial, ?_⟩
      have hF1' : Fm (fun _ => False) w w1 := hF1.drew'.drew'
      have h1 := h.fm hF1' (fun _ h => h.elim)
      have cz1 := hF1'.obj cz (fun h => h)
      have cx1 := hF1'.obj cx (fun h => h)
      have cy1 := hF1'.obj cy (fun h => h)
      have oz1 := oz.fm hF1' (fun _ _ h => h)
      have ox1 := ox.fm hF1' (fun _ _ h => h)
      have oy1 := oy.fm hF1' (fun _ _ h => h)
      rw [ex, ey]
      have back : ∀ {r : Zn} {u : World}, IR w1 K S z r u → IR w K S z r u := fun ⟨D', q1, q2⟩ => ⟨D', q1, (hF1'.mono (fun _ _ h => h.elim)).trans q2 (fun _ _ h => h)⟩
      rcases Nat.lt_or_ge na nb with hlt | hge
      · refine ⟨_, bGeF (fun h => by have := ge_of_cmp.1 h; omega), ?_⟩
        refine ⟨fun hc => (by cases hc), fun _ => ?_⟩
        refine ⟨.take 0 (.take 1 (.take 2 (.take 3 (.take 4 (.take 5 (.take 6 (.take 7 (.take 8 (.take 9 (.take 10 (.take 11 (.take 12 (.one 13 [0] (.take 14 (.take 15 (.one 16 [] (.done))))))))))))))))), by kernel_rfl, ?_⟩
        refine tkA (fa fo_56_1 _ _) ?_
        refine tkL na_54 cz1 rfl ?_
        refine tkA (fa fo_56_1 _ _) ?_
        refine tkL na_54 cy1 rfl ?_
        refine tkA (fa fo_56_1 _ _) ?_
        refine tkL na_54 cx1 rfl ?_
        refine (sub_c oz1.drew oy1.drew ox1.drew ny (by omega) (by
          rcases Nat.lt_or_ge ly.length lx.length with h5 | h5
          · have := nv_lt_of_length oy.wf nx h5; omega
          · exact h5) (by omega)).mono ?_
        rintro v w2 hr
        refine ⟨trivial, ?_⟩
        refine tkA (fa fo_56_1 _ _) ?_
        obtain ⟨w3, e3, r3⟩ := h1.stAbs hz hr.undrew
        refine ⟨w3, e3, ?_⟩
        refine ⟨trivial, ?_⟩
        refine ⟨!sa, ⟨⟨rfl, rfl, trivial⟩, rfl⟩, _, back r3, ?_⟩
        rw [ex, ey]; exact zadd_lt e hlt
      · refine ⟨_, bGe (ge_of_cmp.2 hge), ?_⟩
        refine ⟨fun _ => ?_, fun hc => (by cases hc)⟩
        refine ⟨.take 0 (.take 1 (.take 2 (.take 3 (.take 4 (.take 5 (.take 6 (.take 7 (.take 8 (.take 9 (.take 10 (.take 11 (.take 12 (.one 13 [0] (.take 14 (.take 15 (.one 16 [] (.done))))))))))))))))), by kernel_rfl, ?_⟩
        refine tkA (fa fo_56_1 _ _) ?_
        refine tkL na_54 cz1 rfl ?_
        refine tkA (fa fo_56_1 _ _) ?_
        refine tkL na_54 cx1 rfl ?_
        refine tkA (fa fo_56_1 _ _) ?_
        refine tkL na_54 cy1 rfl ?_
        refine (sub_c oz1.drew ox1.drew oy1.drew nx (by omega) (by
          rcases Nat.lt_or_ge lx.length ly.length with h5 | h5
          · have := nv_lt_of_length ox.wf ny h5; omega
          · exact h5) (by omega)).mono ?_
        rintro v w2 hr
        refine ⟨trivial, ?_⟩
        refine tkA (fa fo_56_1 _ _) ?_
        obtain ⟨w3, e3, r3⟩ := h1.stAbs hz hr.undrew
        refine ⟨w3, e3, ?_⟩
        refine ⟨trivial, ?_⟩
        refine ⟨sa, ⟨⟨rfl, rfl, trivial⟩, rfl⟩, _, back r3, ?_⟩
        rw [ex, ey]; exact zadd_ge e hge
  rintro s u ⟨n, ⟨D1, h1, f1⟩, hr⟩
  have hz1 : upd S z (z0.1, n) z = some (z0.1, n) := upd_self
  obtain ⟨vz1, lz1, cz1, oz1, nz1, ez1⟩ := (h1.int z _ hz1).all
  obtain ⟨az1, kz1, rfl, _⟩ := oz1.val
  refine rnA (fa fo_56_1 _ _) ?_
  refine rnL na_54 cz1 rfl ?_
  refine ⟨_, _, ln se_54 _ _ _ _ _ _, ?_⟩
  have hl := nil_len nz1
  rw [ez1] at hl
  dsimp only at hl
  rw [hr]
  rcases Nat.eq_zero_or_pos n with e0 | e0
  · refine ⟨_, bGtF (by omega), ?_⟩
    refine rnA (fa fo_56_0 _ _) ?_
    obtain ⟨w2, e2, r2⟩ := h1.stNeg hz1 false
    refine ⟨w2, e2, ?_⟩
    refine ⟨rfl, rfl, (IR.trans f1 r2).eq ?_⟩
    rw [e0]; simp
  · refine ⟨_, bGt (by omega), ?_⟩
    refine rnA (fa fo_56_0 _ _) ?_
    obtain ⟨w2, e2, r2⟩ := h1.stNeg hz1 s
    refine ⟨w2, e2, ?_⟩
    refine ⟨rfl, rfl, (IR.trans f1 r2).eq ?_⟩
    simp [e0]

end Go.Vc
end

section
/- Int.mul, Mul, SetInt64, NewInt, Cmp, Sign. -/
set_option linter.unusedSimpArgs false
set_option linter.unusedVariables false
set_option maxRecDepth 8000
set_option maxHeartbeats 1000000
namespace Go.Vc
open Go.Proofs

theorem zmul {s t : Bool} {m n : Nat} : zi (iv (s, m) * iv (t, n)) = (decide (0 < m * n) && (s != t), m * n) := by
  have e : iv (s, m) * iv (t, n) = iv (s != t, m * n) := by
    cases s <;> cases t <;> simp [iv, Int.neg_mul, Int.mul_neg]
  rw [e]
  generalize m * n = k
  cases s <;> cases t <;> simp [zi, iv] <;> omega

theorem mul_I' {w : World} {K : Nat → Prop} {S : Nat → Option Zn} {D : Nat → Option Nat} (hg : Gl w) (h : Sto w K S D) {z x y : Nat} {z0 a b : Zn} (hz : S z = some z0) (hx : S x = some a) (hy : S y = some b) (ba : a.2 < BW ^ 30) (bb : b.2 < BW ^ 30) (bs : x = y → a.2 < BW ^ 11) :
    CallX P 84 #[pI z, .pointer none, pI x, pI y] w fun v w' => IR w K S z (zi (iv a * iv b)) w' := by
  obtain ⟨vz, lz, cz, oz, nz, ez⟩ := (h.int z z0 hz).all
  obtain ⟨vx, lx, cx, ox, nx, ex⟩ := (h.int x a hx).all
  obtain ⟨vy, ly, cy, oy, ny, ey⟩ := (h.int y b hy).all
  obtain ⟨sa, na⟩ := a
  obtain ⟨sb, nb⟩ := b
  dsimp only at *
  have hlx := nv_len nx (by rw [ex]; exact ba)
  have hly := nv_len ny (by rw [ey]; exact bb)
  have hgd : Gl w.drew := hg.fm0 (Fm.drew _ _)
  refine calls_vc mo fn_84 rfl ok_84 (Nat.le_of_ble_eq_true rfl) nm_84 ?_
  refine rnR (pE (by kernel_rfl) cx.live cy.live _ _) ?_
  rcases Classical.em (x = y) with e | e
  · have hls := nv_len nx (by rw [ex]; exact bs e)
    subst e
    rw [hx] at hy; cases hy
    rw [show (decide ((⟨x, 0, none⟩ : Addr) = ⟨x, 0, none⟩)) = true by simp]
    refine ⟨fun _ => ?_, fun hc => (by cases hc)⟩
    refine ⟨.take 0 (.take 1 (.take 2 (.take 3 (.take 4 (.take 5 (.take 6 (.take 7 (.take 8 (.take 9 (.one 10 [0] (.take 11 (.take 12 (.one 13 [] (.done)))))))))))))), by kernel_rfl, ?_⟩
    refine tkA (fa fo_56_1 _ _) ?_
    refine tkL na_54 cz rfl ?_
    refine tkA (fa fo_56_1 _ _) ?_
    refine tkL na_54 cx rfl ?_
    refine (sqr_c hgd oz.drew ox.drew (by omega)).mono ?_
    rintro v w1 hr
    refine ⟨trivial, ?_⟩
    refine tkA (fa fo_56_1 _ _) ?_
    obtain ⟨w2, e2, D2, h2, f2⟩ := h.stAbs hz hr.undrew
    refine ⟨w2, e2, ?_⟩
    refine ⟨trivial, ?_⟩
    refine rnA (fa fo_56_0 _ _) ?_
    obtain ⟨w3, e3, r3⟩ := h2.stNeg upd_self false
    refine ⟨w3, e3, ?_⟩
    refine ⟨rfl, (IR.trans f2 r3).eq ?_⟩
    rw [zmul, ex]
    cases sa <;> simp
  · rw [show (decide ((⟨x, 0, none⟩ : Addr) = ⟨y, 0, none⟩)) = false by simp [e]]
    refine ⟨fun hc => (by cases hc), fun _ => ?_⟩
    refine ⟨.take 0 (.take 1 (.take 2 (.take 3 (.take 4 (.take 5 (.take 6 (.take 7 (.take 8 (.take 9 (.take 10 (.take 11 (.take 12 (.take 13 (.one 14 [0] (.take 15 (.take 16 (.one 17 [] (.done)))))))))))))))))), by kernel_rfl, ?_⟩
    refine tkA (fa fo_56_1 _ _) ?_
    refine tkL na_54 cz rfl ?_
    refine tkA (fa fo_56_1 _ _) ?_
    refine tkL na_54 cx rfl ?_
    refine tkA (fa fo_56_1 _ _) ?_
    refine tkL na_54 cy rfl ?_
    refine (mul_c hgd oz.drew ox.drew oy.drew (by omega) (by omega)).mono ?_
    rintro v w1 hr
    refine ⟨trivial, ?_⟩
    refine tkA (fa fo_56_1 _ _) ?_
    obtain ⟨w2, e2, D2, h2, f2⟩ := h.stAbs hz hr.undrew
    refine ⟨w2, e2, ?_⟩
    refine ⟨trivial, ?_⟩
    have hz2 : upd S z (z0.1, nv lx * nv ly) z = some (z0.1, nv lx * nv ly) := upd_self
    obtain ⟨vz1, lz1, cz1, oz1, nz1, ez1⟩ := (h2.int z _ hz2).all
    obtain ⟨az1, kz1, rfl, _⟩ := oz1.val
    have sg : ∀ p s n, S p = some (s, n) → ∃ v, Cl w2 p [.bool (if p = z then z0.1 else s), v] 56 := fun p s n hp => by
      rcases Classical.em (p = z) with h1 | h1
      · subst h1; rw [if_pos rfl]; exact ⟨_, cz1⟩
      · rw [if_neg h1]
        obtain ⟨v2, l2, c2, _⟩ := (h2.int p (s, n) (by rw [upd_ne h1]; exact hp)).all
        exact ⟨v2, c2⟩
    have sgs : ∀ p s n, S p = some (s, n) → (if p = z then z0.1 else s) = s := fun p s n hp => by
      rcases Classical.em (p = z) with h1 | h1
      · subst h1; rw [if_pos rfl]; rw [hz] at hp; cases hp; rfl
      · rw [if_neg h1]
    obtain ⟨_, cx1⟩ := sg x sa na hx
    obtain ⟨_, cy1⟩ := sg y sb nb hy
    rw [sgs x sa na hx] at cx1
    rw [sgs y sb nb hy] at cy1
    refine ⟨.take 0 (.take 1 (.take 2 (.take 3 (.take 4 (.take 5 (.take 6 (.take 7 (.take 8 (.take 9 (.take 10 (.take 11 (.take 12 (.take 13 (.take 14 (.take 15 (.take 16 (.take 17 (.take 18 (.take 19 (.one 20 [] (.done))))))))))))))))))))), by kernel_rfl, ?_⟩
    refine tkA (fa fo_56_1 _ _) ?_
    refine tkL na_54 cz1 rfl ?_
    refine ⟨_, fun w' => ln se_54 _ _ _ _ _ w', ?_⟩
    have hl := nil_len nz1
    rw [ez1] at hl
    dsimp only at hl
    rw [ex, ey] at hl
    have fin : ∀ s, (s = (decide (0 < na * nb) && (sa != sb))) → ∃ w3, (Instr.storeAt 4 (.pointer (some ⟨z, 0 + 0, none⟩)) (.bool s)).run P w2.drew = .ok () w3 ∧ IR w K S z (zi (iv (sa, na) * iv (sb, nb))) w3 := fun s hs => by
      obtain ⟨w3, e3, r3⟩ := h2.drew.stNeg hz2 s
      refine ⟨w3, e3, (IR.trans (f2.trans (Fm.drew (fun b => ¬ K b) w2) (fun _ _ h => h)) r3).eq ?_⟩
      rw [zmul, hs, ex, ey]
    rcases Nat.eq_zero_or_pos (na * nb) with e0 | e0
    · refine ⟨_, bGtF (by omega), ?_⟩
      refine tkA (fa fo_56_0 _ _) ?_
      obtain ⟨w3, e3, r3⟩ := fin false (by rw [e0]; simp)
      refine ⟨w3, e3, ?_⟩
      exact ⟨trivial, rfl, r3⟩
    · refine ⟨_, bGt (by omega), ?_⟩
      refine tkA (fa fo_56_0 _ _) ?_
      refine tkL na_4 cx1 rfl ?_
      refine tkA (fa fo_56_0 _ _) ?_
      refine tkL na_4 cy1 rfl ?_
      refine tkA (bNB sa sb _ _) ?_
      refine tkA (fa fo_56_0 _ _) ?_
      obtain ⟨w3, e3, r3⟩ := fin (sa != sb) (by simp [e0])
      refine ⟨w3, e3, ?_⟩
      exact ⟨trivial, rfl, r3⟩

theorem mul_I {w : World} {K : Nat → Prop} {S : Nat → Option Zn} {D : Nat → Option Nat} (hg : Gl w) (h : Sto w K S D) {z x y : Nat} {z0 a b : Zn} (hz : S z = some z0) (hx : S x = some a) (hy : S y = some b) (ba : a.2 < BW ^ 11) (bb : b.2 < BW ^ 11) :
    CallX P 84 #[pI z, .pointer none, pI x, pI y] w fun v w' => IR w K S z (zi (iv a * iv b)) w' :=
  mul_I' hg h hz hx hy (Nat.lt_of_lt_of_le ba (pow_le_pow (by omega))) (Nat.lt_of_lt_of_le bb (pow_le_pow (by omega))) (fun _ => ba)

theorem Mul_I' {w : World} {K : Nat → Prop} {S : Nat → Option Zn} {D : Nat → Option Nat} (hg : Gl w) (h : Sto w K S D) {z x y : Nat} {z0 a b : Zn} (hz : S z = some z0) (hx : S x = some a) (hy : S y = some b) (ba : a.2 < BW ^ 30) (bb : b.2 < BW ^ 30) (bs : x = y → a.2 < BW ^ 11) :
    CallX P 62 #[pI z, pI x, pI y] w fun v w' => v = pI z ∧ IR w K S z (zi (iv a * iv b)) w' := by
  refine calls_vc mo fn_62 rfl ok_62 (Nat.le_of_ble_eq_true rfl) nm_62 ?_
  refine (mul_I' hg h hz hx hy ba bb bs).mono ?_
  rintro v w1 hr
  exact ⟨rfl, rfl, hr⟩

theorem Mul_I {w : World} {K : Nat → Prop} {S : Nat → Option Zn} {D : Nat → Option Nat} (hg : Gl w) (h : Sto w K S D) {z x y : Nat} {z0 a b : Zn} (hz : S z = some z0) (hx : S x = some a) (hy : S y = some b) (ba : a.2 < BW ^ 11) (bb : b.2 < BW ^ 11) :
    CallX P 62 #[pI z, pI x, pI y] w fun v w' => v = pI z ∧ IR w K S z (zi (iv a * iv b)) w' := by
  refine calls_vc mo fn_62 rfl ok_62 (Nat.le_of_ble_eq_true rfl) nm_62 ?_
  refine (mul_I hg h hz hx hy ba bb).mono ?_
  rintro v w1 hr
  exact ⟨rfl, rfl, hr⟩

end Go.Vc
end
