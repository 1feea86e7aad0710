/- Numbers in blocks of their own; nat.make, set, setWord, norm. -/
import Derived.Test.YthahnloabllniaaGreatDoorM03
import Derived.Laws.MakeOwn
section
set_option linter.unusedSimpArgs false
set_option linter.unusedVariables false
set_option maxRecDepth 8000
namespace Go.Vc
open Go.Proofs

/-- A slice that begins its block; l is what it reads as. -/
def Own (w : World) (v : Value) (d : Option Nat) (l : List Nat) : Prop :=
  match d with
  | none => v = .slice none 0 0 ∧ l = []
  | some b => ∃ full, v = .slice (some ⟨b, 0, none⟩) l.length full.length ∧ Wd w b full ∧ full.take l.length = l ∧ l.length ≤ full.length ∧ (full.length ≤ 9223372036854775807 ∧ l.length ≤ 2000)

theorem Own.nil (w : World) : Own w (.slice none 0 0) none [] := ⟨rfl, rfl⟩

theorem Own.mk' {w : World} {b n : Nat} {full : List Nat} (h : Wd w b full) (hn : n ≤ full.length) (hc : full.length ≤ 9223372036854775807 ∧ n ≤ 2000) : Own w (.slice (some ⟨b, 0, none⟩) n full.length) (some b) (full.take n) := by
  have e : (full.take n).length = n := by rw [List.length_take]; omega
  exact ⟨full, by rw [e], h, by rw [e], by omega, hc.1, by rw [e]; exact hc.2⟩

theorem Own.cases {w : World} {v : Value} {d : Option Nat} {l : List Nat} (h : Own w v d l) : (d = none ∧ v = .slice none 0 0 ∧ l = []) ∨
    ∃ b full, d = some b ∧ v = .slice (some ⟨b, 0, none⟩) l.length full.length ∧ Wd w b full ∧ full.take l.length = l ∧ l.length ≤ full.length ∧ (full.length ≤ 9223372036854775807 ∧ l.length ≤ 2000) := by
  cases d with
  | none => exact .inl ⟨rfl, h.1, h.2⟩
  | some b => obtain ⟨full, h⟩ := h; exact .inr ⟨b, full, rfl, h⟩

theorem Own.fm {S : Nat → Prop} {w w' : World} {v : Value} {d : Option Nat} {l : List Nat} (h : Own w v d l) (f : Fm S w w') (hs : ∀ b, d = some b → ¬ S b) : Own w' v d l := by
  cases d with
  | none => exact h
  | some b => obtain ⟨full, h1, h2, h3⟩ := h; exact ⟨full, h1, h2.fm f (hs b rfl), h3⟩

theorem Own.drew {w : World} {v : Value} {d : Option Nat} {l : List Nat} (h : Own w v d l) : Own w.drew v d l := h.fm (Fm.drew (fun _ => False) w) (fun _ _ h => h)

/-- The slice's parts. -/
theorem Own.val {w : World} {v : Value} {d : Option Nat} {l : List Nat} (h : Own w v d l) : ∃ a c, v = .slice a l.length c ∧ l.length ≤ c ∧ (c ≤ 9223372036854775807 ∧ l.length ≤ 2000) ∧ Sv w a l := by
  rcases h.cases with ⟨rfl, rfl, rfl⟩ | ⟨b, full, rfl, rfl, h1, h2, h3, h4⟩
  · exact ⟨none, 0, rfl, Nat.le_refl _, ⟨by omega, by simp⟩, Sv.nil _ _⟩
  · refine ⟨_, _, rfl, h3, h4, ?_⟩
    have := h1.rd 0 l.length (by omega)
    rw [List.drop_zero, h2] at this
    exact Sv.of_rd this

theorem Own.wf {w : World} {v : Value} {d : Option Nat} {l : List Nat} (h : Own w v d l) : WF l := by
  obtain ⟨a, c, _, _, _, h⟩ := h.val
  exact h.wf

theorem Own.len {w : World} {v : Value} {d : Option Nat} {l : List Nat} (h : Own w v d l) : l.length ≤ 2000 := by
  obtain ⟨a, c, _, h1, h2, h⟩ := h.val
  omega

/-- One that holds something. -/
theorem Own.rd {w : World} {v : Value} {d : Option Nat} {l : List Nat} (h : Own w v d l) (hl : l ≠ []) : ∃ b c, d = some b ∧ v = .slice (some ⟨b, 0, none⟩) l.length c ∧ Rd w b 0 l ∧ l.length ≤ c ∧ (c ≤ 9223372036854775807 ∧ l.length ≤ 2000) := by
  rcases h.cases with ⟨rfl, rfl, rfl⟩ | ⟨b, full, rfl, rfl, h1, h2, h3, h4⟩
  · exact absurd rfl hl
  · have := h1.rd 0 l.length (by omega)
    rw [List.drop_zero, h2] at this
    exact ⟨b, _, rfl, rfl, this, h3, h4⟩

/-- Where a result may lie: where its room was, or in a new block. -/
def Nd (w w' : World) (d d' : Option Nat) : Prop := d' = none ∨ d' = d ∨ ∃ b, d' = some b ∧ w.heap.size ≤ b ∧ b < w'.heap.size

theorem Nd.same (w w' : World) (d : Option Nat) : Nd w w' d d := .inr (.inl rfl)
theorem Nd.none (w w' : World) (d : Option Nat) : Nd w w' d none := .inl rfl

abbrev Fd (d : Option Nat) (w w' : World) : Prop := Fm (fun b => d = some b) w w'

theorem Nd.trans {w w1 w2 : World} {d d1 d2 : Option Nat} (h : Nd w w1 d d1) (h2 : Nd w1 w2 d1 d2) (s : w.heap.size ≤ w1.heap.size) (s2 : w1.heap.size ≤ w2.heap.size) : Nd w w2 d d2 := by
  rcases h2 with rfl | rfl | ⟨b, rfl, hb, hb2⟩
  · exact .inl rfl
  · rcases h with rfl | rfl | ⟨b, rfl, hb, hb2⟩
    · exact .inl rfl
    · exact .inr (.inl rfl)
    · exact .inr (.inr ⟨b, rfl, hb, by omega⟩)
  · exact .inr (.inr ⟨b, rfl, by omega, hb2⟩)

/-! ### make -/

noncomputable def byOk (e : TypeId) : Bool := match P.info? e with
  | some i => Nat.ble i.bytes 64
  | none => false

theorem mk_run {t e : TypeId} {z : Value} (h : slElem t = some e) (hb : byOk e = true) (hz : zeroOf e = some z) (hc : z.cells = #[z]) {l c : Nat} (kl kc : IntKind) (h1 : l ≤ c) (h2 : c ≤ 1000000000) (w : World) :
    ∃ w', (Instr.makeSlice t (.int kl (l : Int)) (.int kc (c : Int))).run P w = .ok (.slice (some ⟨w.heap.size, 0, none⟩) l c) w' ∧ Cl w' w.heap.size (List.replicate c z) e ∧ Fm (fun _ => False) w w' ∧ w'.heap.size = w.heap.size + 1 := by
  obtain ⟨hu, hs⟩ := slElem_spec h
  unfold byOk at hb
  unfold zeroOf at hz
  unfold szOf at hs
  cases hi : P.info? e with
  | none => rw [hi] at hb; cases hb
  | some i =>
    rw [hi] at hb hz hs
    have hs1 : i.size = 1 := by simpa using hs
    have hz1 : i.zero = some z := by simpa using hz
    have hb1 : i.bytes ≤ 64 := Nat.le_of_ble_eq_true hb
    have hbb : (i.bytes : Int) * (c : Int) ≤ 281474976710656 := by
      have : i.bytes * c ≤ 64 * 1000000000 := Nat.mul_le_mul hb1 h2
      have e : (i.bytes : Int) * (c : Int) = ((i.bytes * c : Nat) : Int) := by rw [Int.natCast_mul]
      omega
    have hr := run_make (P := P) w t e i z hu hi hz1 kl kc (l : Int) (c : Int) (by omega) (by omega) hbb (by omega)
    simp only [Int.toNat_natCast, hs1, Nat.mul_one] at hr
    have hm : madeCells z.cells c = (List.replicate c z).toArray := by
      rw [hc]
      apply Array.ext
      · simp [madeCells]
      · intro i h1 h2
        simp [madeCells, Nat.mod_one]
    rw [hm] at hr
    exact ⟨_, hr, alloc_new _ _, alloc_fm _ _, by simp⟩

theorem vws_replicate (n : Nat) : List.replicate n (vw 0) = vws (List.replicate n 0) := by simp [vws]

theorem mkW {t : TypeId} (h : slElem t = some 101) {l c : Nat} (kl kc : IntKind) (h1 : l ≤ c) (h2 : c ≤ 1000000000) (w : World) :
    ∃ w', (Instr.makeSlice t (.int kl (l : Int)) (.int kc (c : Int))).run P w = .ok (.slice (some ⟨w.heap.size, 0, none⟩) l c) w' ∧ Wd w' w.heap.size (List.replicate c 0) ∧ Fm (fun _ => False) w w' ∧ w'.heap.size = w.heap.size + 1 := by
  obtain ⟨w', e, hc, hf, hs⟩ := mk_run (z := vw 0) h (by kernel_rfl) (by kernel_rfl) rfl kl kc h1 h2 w
  exact ⟨w', e, ⟨by rw [← vws_replicate]; exact hc, WF.replicate c BW_pos⟩, hf, hs⟩

/-- What make hands out. -/
structure Made (w w' : World) (d : Option Nat) (n : Nat) (v : Value) (b : Nat) (full : List Nat) : Prop where
  v : v = .slice (some ⟨b, 0, none⟩) n full.length
  wd : Wd w' b full
  nl : n ≤ full.length
  c : full.length ≤ 9223372036854775807 ∧ n ≤ 2000
  fm : Fm (fun _ => False) w w'
  nd : d = some b ∨ w.heap.size ≤ b

theorem Made.lt {w w' : World} {d : Option Nat} {n : Nat} {v : Value} {b : Nat} {full : List Nat} (h : Made w w' d n v b full) : b < w'.heap.size := h.wd.lt

theorem make_c {w : World} {z : Value} {d : Option Nat} {l0 : List Nat} (hz : Own w z d l0) {n : Nat} (h0 : 0 < n) (hn : n ≤ 1000) :
    CallX P 45 #[z, .int .i64 (n : Int)] w fun v w' => ∃ b full, Made w w' d n v b full := by
  obtain ⟨a, c, rfl, hc1, hc2, hsv⟩ := hz.val
  refine calls_vc mo fn_45 rfl ok_45 (Nat.le_of_ble_eq_true rfl) nm_45 ?_
  refine ⟨_, _, cp se_54 _ _ _ _ _ _, ?_⟩
  rcases Nat.lt_or_ge c n with h | h
  · refine ⟨_, bLeF (by omega), ?_⟩
    refine ⟨fun hc => (by cases hc), fun _ => ?_⟩
    rcases Nat.lt_or_ge n 2 with h1 | h1
    · have : n = 1 := by omega
      subst this
      refine ⟨_, bEq rfl, ?_⟩
      refine ⟨fun _ => ?_, fun hc => (by cases hc)⟩
      obtain ⟨w', e, hw, hf, hs⟩ := mkW se_54 (l := 1) (c := 1) .i64 .i64 (Nat.le_refl _) (by omega) w
      refine ⟨_, w', e, ?_⟩
      refine ⟨rfl, ?_⟩
      exact ⟨w.heap.size, _, rfl, hw, by simp, by simp, hf, .inr (Nat.le_refl _)⟩
    · refine ⟨_, bEqF (by omega), ?_⟩
      refine ⟨fun hc => (by cases hc), fun _ => ?_⟩
      refine ⟨_, nAdd n 4 (by omega), ?_⟩
      obtain ⟨w', e, hw, hf, hs⟩ := mkW se_54 (l := n) (c := n + 4) .i64 .i64 (by omega) (by omega) w
      refine ⟨_, w', e, ?_⟩
      refine ⟨rfl, ?_⟩
      exact ⟨w.heap.size, _, by simp [tupV], hw, by simp, by simp; omega, hf, .inr (Nat.le_refl _)⟩
  · refine ⟨_, bLe (by omega), ?_⟩
    refine ⟨fun _ => ?_, fun hc => (by cases hc)⟩
    refine rnA (slHi se_54 _ h) ?_
    refine ⟨rfl, ?_⟩
    rcases hz.cases with ⟨rfl, e, rfl⟩ | ⟨b, full, rfl, e, h1, h2, h3, h4⟩
    · simp at e; omega
    · simp only [Value.slice.injEq, true_and] at e
      obtain ⟨e1, e2⟩ := e
      subst e1; subst e2
      exact ⟨b, full, rfl, h1, h, ⟨h4.1, by omega⟩, Fm.refl _ _, .inl rfl⟩

/-- The result of most operations. -/
structure Res (w w' : World) (d : Option Nat) (v : Value) (x : Nat) : Prop where
  all : ∃ d' l, Own w' v d' l ∧ Nrm l ∧ nv l = x ∧ Nd w w' d d' ∧ Fd d w w'

theorem nrm_nil : Nrm [] := .inl rfl

/-- z[:0]. -/
theorem zero_res {w : World} {z : Value} {d : Option Nat} {l0 : List Nat} (hz : Own w z d l0) : ∃ a c n, z = .slice a n c ∧ Res w w d (.slice a 0 c) 0 := by
  rcases hz.cases with ⟨rfl, rfl, rfl⟩ | ⟨b, full, rfl, rfl, h1, h2, h3, h4⟩
  · exact ⟨none, 0, 0, rfl, ⟨none, [], Own.nil _, nrm_nil, rfl, Nd.same _ _ _, Fm.refl _ _⟩⟩
  · exact ⟨_, _, _, rfl, ⟨some b, [], ⟨full, rfl, h1, rfl, Nat.zero_le _, ⟨h4.1, by simp⟩⟩, nrm_nil, rfl, Nd.same _ _ _, Fm.refl _ _⟩⟩

/-- The end of an operation: n words are there; the leading zeros go. -/
theorem norm_res {w w' : World} {d : Option Nat} {b n : Nat} {full : List Nat} (hW : Wd w' b full) (hn : n ≤ full.length) (hc : full.length ≤ 9223372036854775807 ∧ n ≤ 2000) (hf : Fd d w w') (hd : d = some b ∨ w.heap.size ≤ b) {x : Nat} (hx : nv (full.take n) = x) :
    CallX P 47 #[.slice (some ⟨b, 0, none⟩) n full.length] w' fun v w'' => Res w w'' d v x := by
  have hl : (full.take n).length = n := by rw [List.length_take]; omega
  have hsv : Sv w' (some ⟨b, 0, none⟩) (full.take n) := by
    have := hW.rd 0 n (by omega)
    rw [List.drop_zero] at this
    exact Sv.of_rd this
  have := norm_c hsv (c := full.length) (by rw [hl]; exact hn) (by omega)
  rw [hl] at this
  refine this.mono ?_
  rintro v w'' ⟨rfl, m, rfl, hN⟩
  have hm : m ≤ n := by have := hN.le; rw [hl] at this; exact this
  have e : full.take m = (full.take n).take m := by rw [List.take_take]; congr 1; omega
  refine ⟨some b, full.take m, Own.mk' hW (by omega) ⟨hc.1, by omega⟩, by rw [e]; exact hN.nrm, by rw [e, hN.nv, hx], ?_, hf⟩
  rcases hd with h | h
  · exact .inr (.inl h.symm)
  · exact .inr (.inr ⟨b, rfl, h, hW.lt⟩)

theorem setWord_c {w : World} {z : Value} {d : Option Nat} {l0 : List Nat} (hz : Own w z d l0) {x : Nat} (hx : x < BW) :
    CallX P 75 #[z, vw x] w fun v w' => Res w w' d v x := by
  obtain ⟨a, c, n, hze, hr⟩ := zero_res hz
  refine calls_vc mo fn_75 rfl ok_75 (Nat.le_of_ble_eq_true rfl) nm_75 ?_
  rcases Nat.eq_zero_or_pos x with rfl | h
  · refine ⟨_, bEq rfl, ?_⟩
    refine ⟨fun _ => ?_, fun hc => (by cases hc)⟩
    rw [hze]
    refine rnA (slHi (hi := 0) se_54 _ (Nat.zero_le _)) ?_
    exact ⟨rfl, hr⟩
  · refine ⟨_, bEqF (by omega), ?_⟩
    refine ⟨fun hc => (by cases hc), fun _ => ?_⟩
    refine (make_c hz (n := 1) (by omega) (by omega)).mono ?_
    rintro v w1 ⟨b, full, hm⟩
    obtain ⟨rfl, hW, h1, h2, h3, h4⟩ := hm
    refine rnA (ia (i := 0) se_54 _ (by omega)) ?_
    obtain ⟨w2, e2, hW2, hF2, hz2⟩ := hW.st (i := 0 + 0) (by omega) hx
    refine ⟨w2, e2, ?_⟩
    refine ⟨rfl, ?_⟩
    have e : (full.set (0 + 0) x).take 1 = [x] := by
      cases full with
      | nil => simp at h1
      | cons y r => simp
    refine ⟨some b, [x], ⟨full.set (0 + 0) x, by simp [tupV], hW2, e, by simpa using h1, by simpa using h2⟩, ?_, by simp [nv], ?_, ?_⟩
    · right; simp [dg]; omega
    · rcases h4 with h | h
      · exact .inr (.inl h.symm)
      · exact .inr (.inr ⟨b, rfl, h, hW2.lt⟩)
    · refine (h3.mono (S2 := fun b => d = some b) (fun _ _ h => h.elim)).trans hF2 (fun k hk h => ?_)
      subst h
      rcases h4 with h | h
      · exact h
      · omega

end Go.Vc
end

section
/- nat.set, alias, cmp, add, sub. -/
set_option linter.unusedSimpArgs false
set_option linter.unusedVariables false
set_option maxRecDepth 8000
namespace Go.Vc
open Go.Proofs

/-- make, where nothing is asked for. -/
theorem make0_c {w : World} {z : Value} {d : Option Nat} {l0 : List Nat} (hz : Own w z d l0) :
    CallX P 45 #[z, .int .i64 0] w fun v w' => w = w' ∧ Res w w d v 0 ∧ ∃ a c, v = .slice a 0 c := by
  obtain ⟨a, c, n, rfl, hr⟩ := zero_res hz
  refine calls_vc mo fn_45 rfl ok_45 (Nat.le_of_ble_eq_true rfl) nm_45 ?_
  refine ⟨_, _, cp se_54 _ _ _ _ _ _, ?_⟩
  refine ⟨_, bLe (by omega), ?_⟩
  refine ⟨fun _ => ?_, fun hc => (by cases hc)⟩
  refine rnA (slHi (hi := 0) se_54 _ (Nat.zero_le _)) ?_
  exact ⟨rfl, rfl, hr, a, c, rfl⟩

theorem Rd.fm0 {w w' : World} {b o : Nat} {l : List Nat} (h : Rd w b o l) (f : Fm (fun _ => False) w w') : Rd w' b o l := h.fm f (fun h => h)

/-- What make has handed out and what was written there: all that may have turned is the block of the room. -/
theorem Made.fd {w w' u : World} {d : Option Nat} {n : Nat} {v : Value} {b : Nat} {full : List Nat} (h : Made w w' d n v b full) (f : Fm (· = b) w' u) : Fd d w u := by
  refine (h.fm.mono (S2 := fun b => d = some b) (fun _ _ h => h.elim)).trans f (fun k hk e => ?_)
  subst e
  rcases h.nd with h | h
  · exact h
  · omega

theorem set_c {w : World} {z x : Value} {d dx : Option Nat} {l0 lx : List Nat} (hz : Own w z d l0) (hx : Own w x dx lx) (nx : Nrm lx) (hn : lx.length ≤ 1000) :
    CallX P 44 #[z, x] w fun v w' => Res w w' d v (nv lx) := by
  obtain ⟨a, c, hxe, h1, h2, hsv⟩ := hx.val
  refine calls_vc mo fn_44 rfl ok_44 (Nat.le_of_ble_eq_true rfl) nm_44 ?_
  rw [hxe]
  refine ⟨_, _, ln se_54 _ _ _ _ _ _, ?_⟩
  rcases Classical.em (lx = []) with e | e
  · subst e
    refine (make0_c hz).mono ?_
    rintro v w1 ⟨rfl, hr, a', c', rfl⟩
    refine ⟨_, w, cpy0 se_54 (dn := 0) (sn := 0) rfl _ _ _ w, ?_⟩
    exact ⟨rfl, hr⟩
  · have hl : 0 < lx.length := List.length_pos_iff.2 e
    refine (make_c hz (n := lx.length) hl hn).mono ?_
    rintro v w1 ⟨b, full, hm⟩
    obtain ⟨bx, cx, rfl, he, hrd, _, _⟩ := hx.rd e
    rw [hxe] at he
    cases he
    have hv := hm.v
    subst hv
    obtain ⟨w2, e2, hW2, hF2, hz2⟩ := cpy se_54 (dn := lx.length) (sn := lx.length) (dc := full.length) (sc := c) hm.wd (oz := 0) (hrd.fm0 hm.fm) (by omega) (by have := hm.nl; omega) _ _ _
    refine ⟨_, w2, e2, ?_⟩
    refine ⟨rfl, ?_⟩
    have hlen := splice_len (Z := full) (o := 0) (l := lx) (by have := hm.nl; omega)
    have ht : (splice full 0 lx).take lx.length = lx := by
      have := splice_mid (Z := full) (o := 0) (l := lx) (by have := hm.nl; omega)
      rwa [List.drop_zero] at this
    refine ⟨some b, lx, ⟨splice full 0 lx, by rw [hlen]; rfl, hW2, ht, by rw [hlen]; exact hm.nl, by rw [hlen]; exact hm.c⟩, nx, rfl, ?_, hm.fd hF2⟩
    rcases hm.nd with h | h
    · exact .inr (.inl h.symm)
    · exact .inr (.inr ⟨b, rfl, h, hW2.lt⟩)

theorem setUint64_c {w : World} {z : Value} {d : Option Nat} {l0 : List Nat} (hz : Own w z d l0) {x : Nat} (hx : x < BW) :
    CallX P 52 #[z, vw x] w fun v w' => Res w w' d v x := by
  refine calls_vc mo fn_52 rfl ok_52 (Nat.le_of_ble_eq_true rfl) nm_52 ?_
  refine ⟨_, bEq rfl, ?_⟩
  refine ⟨fun _ => ?_, fun hc => (by cases hc)⟩
  refine (setWord_c hz hx).mono ?_
  rintro v w1 h
  exact ⟨rfl, h⟩

/-- Whether two numbers share their block. -/
theorem alias_c {w : World} {z x : Value} {d dx : Option Nat} {l0 lx : List Nat} (hz : Own w z d l0) (hx : Own w x dx lx) :
    CallX P 82 #[z, x] w fun v w' => w' = w.drew ∧ ∃ t, v = .bool t ∧ (t = true → d = dx) ∧ (t = false → d = dx → lx = []) := by
  rcases hz.cases with ⟨rfl, rfl, rfl⟩ | ⟨b, full, rfl, rfl, h1, h2, h3, h4⟩
  · refine calls_vc mo fn_82 rfl ok_82 (Nat.le_of_ble_eq_true rfl) nm_82 ?_
    refine ⟨.take 0 (.take 1 (.take 2 (.take 3 (.take 4 (.take 5 (.take 6 (.take 7 (.take 8 (.take 9 (.take 10 (.take 11 (.take 12 (.take 13 (.take 14 (.take 15 (.take 16 (.take 17 (.take 18 (.take 19 (.take 20 (.take 21 (.take 22 (.take 23 (.take 24 (.take 25 (.take 26 (.take 27 (.done)))))))))))))))))))))))))))), by kernel_rfl, ?_⟩
    refine ⟨_, fun w' => cp se_54 _ _ _ _ _ w', ?_⟩
    refine ⟨_, bGtF (by omega), ?_⟩
    refine ⟨rfl, rfl, false, rfl, by simp, fun _ e => ?_⟩
    subst e
    exact hx.2
  · rcases Nat.eq_zero_or_pos full.length with hf | hf
    · refine calls_vc mo fn_82 rfl ok_82 (Nat.le_of_ble_eq_true rfl) nm_82 ?_
      refine ⟨.take 0 (.take 1 (.take 2 (.take 3 (.take 4 (.take 5 (.take 6 (.take 7 (.take 8 (.take 9 (.take 10 (.take 11 (.take 12 (.take 13 (.take 14 (.take 15 (.take 16 (.take 17 (.take 18 (.take 19 (.take 20 (.take 21 (.take 22 (.take 23 (.take 24 (.take 25 (.take 26 (.take 27 (.done)))))))))))))))))))))))))))), by kernel_rfl, ?_⟩
      refine ⟨_, fun w' => cp se_54 _ _ _ _ _ w', ?_⟩
      refine ⟨_, bGtF (by omega), ?_⟩
      refine ⟨rfl, rfl, false, rfl, by simp, fun _ e => ?_⟩
      subst e
      rcases hx.cases with ⟨e, _, _⟩ | ⟨b2, full2, e, _, g1, g2, g3, g4⟩
      · cases e
      · cases e
        have := h1.uniq g1
        subst this
        exact List.eq_nil_of_length_eq_zero (by omega)
    · rcases hx.cases with ⟨rfl, rfl, rfl⟩ | ⟨b2, full2, rfl, rfl, g1, g2, g3, g4⟩
      · refine calls_vc mo fn_82 rfl ok_82 (Nat.le_of_ble_eq_true rfl) nm_82 ?_
        refine ⟨.take 0 (.take 1 (.take 2 (.take 3 (.take 4 (.take 5 (.take 6 (.take 7 (.take 8 (.take 9 (.take 10 (.take 11 (.take 12 (.take 13 (.take 14 (.take 15 (.take 16 (.take 17 (.take 18 (.take 19 (.take 20 (.take 21 (.take 22 (.take 23 (.take 24 (.take 25 (.take 26 (.take 27 (.done)))))))))))))))))))))))))))), by kernel_rfl, ?_⟩
        refine ⟨_, fun w' => cp se_54 _ _ _ _ _ w', ?_⟩
        refine ⟨_, bGt (by omega), ?_⟩
        refine ⟨_, fun w' => cp se_54 _ _ _ _ _ w', ?_⟩
        refine ⟨_, bGtF (by omega), ?_⟩
        refine ⟨rfl, rfl, false, rfl, by simp, fun _ e => rfl⟩
      · rcases Nat.eq_zero_or_pos full2.length with hf2 | hf2
        · refine calls_vc mo fn_82 rfl ok_82 (Nat.le_of_ble_eq_true rfl) nm_82 ?_
          refine ⟨.take 0 (.take 1 (.take 2 (.take 3 (.take 4 (.take 5 (.take 6 (.take 7 (.take 8 (.take 9 (.take 10 (.take 11 (.take 12 (.take 13 (.take 14 (.take 15 (.take 16 (.take 17 (.take 18 (.take 19 (.take 20 (.take 21 (.take 22 (.take 23 (.take 24 (.take 25 (.take 26 (.take 27 (.done)))))))))))))))))))))))))))), by kernel_rfl, ?_⟩
          refine ⟨_, fun w' => cp se_54 _ _ _ _ _ w', ?_⟩
          refine ⟨_, bGt (by omega), ?_⟩
          refine ⟨_, fun w' => cp se_54 _ _ _ _ _ w', ?_⟩
          refine ⟨_, bGtF (by omega), ?_⟩
          refine ⟨rfl, rfl, false, rfl, by simp, fun _ e => List.eq_nil_of_length_eq_zero (by omega)⟩
        · refine calls_vc mo fn_82 rfl ok_82 (Nat.le_of_ble_eq_true rfl) nm_82 ?_
          refine ⟨.take 0 (.take 1 (.take 2 (.take 3 (.take 4 (.take 5 (.take 6 (.take 7 (.take 8 (.take 9 (.take 10 (.take 11 (.take 12 (.take 13 (.take 14 (.take 15 (.take 16 (.take 17 (.take 18 (.take 19 (.take 20 (.take 21 (.take 22 (.take 23 (.take 24 (.take 25 (.take 26 (.take 27 (.done)))))))))))))))))))))))))))), by kernel_rfl, ?_⟩
          refine ⟨_, fun w' => cp se_54 _ _ _ _ _ w', ?_⟩
          refine ⟨_, bGt (by omega), ?_⟩
          refine ⟨_, fun w' => cp se_54 _ _ _ _ _ w', ?_⟩
          refine ⟨_, bGt (by omega), ?_⟩
          refine ⟨_, fun w' => cp se_54 _ _ _ _ _ w', ?_⟩
          refine tkA (sl (lo := 0) se_54 _ _ (Nat.zero_le _) (Nat.le_refl _)) ?_
          rw [subA_zero]
          refine ⟨_, fun w' => cp se_54 _ _ _ _ _ w', ?_⟩
          refine ⟨_, nSub full.length 1 (by omega) (by omega), ?_⟩
          refine tkA (ia se_54 _ (by omega)) ?_
          refine ⟨_, fun w' => cp se_54 _ _ _ _ _ w', ?_⟩
          refine tkA (sl (lo := 0) se_54 _ _ (Nat.zero_le _) (Nat.le_refl _)) ?_
          rw [subA_zero]
          refine ⟨_, fun w' => cp se_54 _ _ _ _ _ w', ?_⟩
          refine ⟨_, nSub full2.length 1 (by omega) (by omega), ?_⟩
          refine tkA (ia se_54 _ (by omega)) ?_
          refine .held _ (fun u => Live u b ∧ Live u b2) ⟨h1.live, g1.live⟩ (fun u h => pE (by kernel_rfl) h.1 h.2 _ _) ?_
          refine ⟨rfl, rfl, _, rfl, fun e => ?_, fun e e2 => ?_⟩
          · simp at e; rw [e.1]
          · simp only [Option.some.injEq] at e2
            subst e2
            have := h1.uniq g1
            subst this
            simp at e

/-! ### cmp -/

def cmpI (a b : Nat) : Int := if a < b then -1 else if b < a then 1 else 0

theorem nv_cmp {x y : List Nat} {i : Nat} (hx : WF x) (hy : WF y) (hl : x.length = y.length) (hi : i < x.length) (hj : ∀ j, i < j → dg x j = dg y j) (hlt : dg x i < dg y i) : nv x < nv y := by
  have e1 := nv_split x (i + 1)
  have e2 := nv_split y (i + 1)
  have ed : x.drop (i + 1) = y.drop (i + 1) := by
    apply list_ext_dg (by simp [hl])
    intro j _
    rw [dg_drop, dg_drop]; exact hj _ (by omega)
  rw [Nat.min_eq_left (by omega)] at e1 e2
  rw [ed] at e1
  rw [nv_take_succ hi] at e1
  rw [nv_take_succ (by omega)] at e2
  have h1 := nv_lt (hx.take i)
  rw [List.length_take, Nat.min_eq_left (by omega)] at h1
  have h2 : BW ^ i * (dg x i + 1) ≤ BW ^ i * dg y i := Nat.mul_le_mul_left _ hlt
  rw [Nat.mul_add] at h2
  omega

theorem cmp_c {w : World} {a b : Option Addr} {ca cb : Nat} {lx ly : List Nat} (hx : Sv w a lx) (hy : Sv w b ly) (hl : lx.length = ly.length ∨ (Nrm lx ∧ Nrm ly)) (bx : lx.length ≤ 2000) (by_ : ly.length ≤ 2000) :
    CallX P 78 #[.slice a lx.length ca, .slice b ly.length cb] w fun v w' => (Fm (fun _ => False) w w' ∧ w'.heap.size = w.heap.size) ∧ v = .int .i64 (cmpI (nv lx) (nv ly)) := by
  refine calls_vc mo fn_78 rfl ok_78 (Nat.le_of_ble_eq_true rfl) nm_78 ?_
  refine ⟨_, _, ln se_54 _ _ _ _ _ _, ?_⟩
  refine ⟨_, _, ln se_54 _ _ _ _ _ _, ?_⟩
  rcases Nat.lt_trichotomy lx.length ly.length with h | h | h
  · obtain ⟨n1, n2⟩ := hl.resolve_left (by omega)
    have hlt := nv_lt_of_length hx.wf n2 h
    refine ⟨_, bNe (by omega), ?_⟩
    refine ⟨fun _ => ?_, fun hc => (by cases hc)⟩
    refine ⟨_, bLt (by omega), ?_⟩
    refine ⟨fun _ => ?_, fun hc => (by cases hc)⟩
    refine ⟨rfl, ⟨Fm.refl _ _, rfl⟩, ?_⟩
    simp [cmpI, hlt, tupV]
  · refine ⟨_, bNeF (by omega), ?_⟩
    rcases Nat.eq_zero_or_pos lx.length with h0 | h0
    · have ex : lx = [] := List.eq_nil_of_length_eq_zero h0
      have ey : ly = [] := List.eq_nil_of_length_eq_zero (by omega)
      subst ex; subst ey
      refine ⟨_, bEq rfl, ?_⟩
      refine ⟨fun _ => ?_, fun hc => (by cases hc)⟩
      refine ⟨_, bLtF (by omega), ?_⟩
      refine ⟨fun hc => (by cases hc), fun _ => ?_⟩
      refine ⟨_, bGtF (by omega), ?_⟩
      refine ⟨fun hc => (by cases hc), fun _ => ?_⟩
      refine ⟨rfl, ⟨Fm.refl _ _, rfl⟩, ?_⟩
      simp [cmpI, tupV]
    · refine ⟨_, bEqF (by omega), ?_⟩
      refine ⟨fun hc => (by cases hc), fun _ => ?_⟩
      obtain ⟨b1, o1, rfl, r1⟩ := hx.rd (by intro e; rw [e] at h0; simp at h0)
      obtain ⟨b2, o2, rfl, r2⟩ := hy.rd (by intro e; rw [e] at h; simp at h; rw [h] at h0; simp at h0)
      refine ⟨_, nSub lx.length 1 (by omega) (by omega), ?_⟩
      (repeat refine vcl_v _ rfl rfl ?_); (refine vcl_end ?_)
      refine vcut (by repeat (first | exact moE _ _ _ | exact moEd _ _ _ | apply moB | apply moL | apply moV)) Nat (fun i => ⟨[(0, .slice (some ⟨b1, o1, none⟩) lx.length ca), (1, .slice (some ⟨b2, o2, none⟩) ly.length cb), (4, .int .i64 0), (7, .int .i64 (i : Int))], []⟩)
        (fun i u => (Fm (fun _ => False) w u ∧ u.heap.size = w.heap.size) ∧ i < lx.length ∧ (∀ j, i < j → dg lx j = dg ly j) ∧ (i = 0 ∨ dg lx i ≠ dg ly i)) ?_ ?_
      · refine vloop Nat (fun i => ⟨[(0, .slice (some ⟨b1, o1, none⟩) lx.length ca), (1, .slice (some ⟨b2, o2, none⟩) ly.length cb), (4, .int .i64 0), (7, .int .i64 (i : Int))], []⟩)
          (fun i u => (Fm (fun _ => False) w u ∧ u.heap.size = w.heap.size) ∧ i < lx.length ∧ (∀ j, i < j → dg lx j = dg ly j)) (fun i => i) (lx.length - 1)
          ⟨⟨rfl, rfl, rfl, rfl, trivial⟩, rfl⟩ ⟨⟨Fm.refl _ _, rfl⟩, by omega, fun j hj => by rw [dg_ge (by omega), dg_ge (by omega)]⟩ ?_
        rintro i u ⟨⟨hf, hs⟩, hi, hj⟩
        have q1 := (r1.fm0 hf).cell hi
        have q2 := (r2.fm0 hf).cell (i := i) (by omega)
        refine ⟨.take 0 (.take 1 (.take 2 (.take 3 (.take 4 (.take 5 (.take 6 (.take 7 (.take 8 (.take 9 (.take 10 (.take 11 (.take 12 (.done))))))))))))), by kernel_rfl, ?_⟩
        rcases Nat.eq_zero_or_pos i with rfl | hip
        · refine ⟨_, bGtF (by omega), ?_⟩
          refine ⟨fun hc => (by cases hc), fun _ => ?_⟩
          exact ⟨0, ⟨⟨rfl, rfl, rfl, rfl, trivial⟩, rfl⟩, ⟨hf.dr, hs⟩, h0, hj, .inl rfl⟩
        · refine ⟨_, bGt (by omega), ?_⟩
          refine tkA (ia se_54 _ hi) ?_
          refine tkC na_101 q1 ?_
          refine tkA (ia se_54 _ (by omega)) ?_
          refine tkC na_101 q2 ?_
          rcases Classical.em (dg lx i = dg ly i) with he | he
          · refine ⟨_, bEq (by omega), ?_⟩
            refine ⟨fun _ => ?_, fun hc => (by cases hc)⟩
            refine ⟨_, nSub i 1 (by omega) (by omega), ?_⟩
            refine ⟨i - 1, ⟨⟨rfl, rfl, rfl, rfl, trivial⟩, rfl⟩, ⟨⟨hf.dr, hs⟩, by omega, fun j hj2 => ?_⟩, by omega⟩
            rcases Nat.eq_or_lt_of_le (show i ≤ j by omega) with h5 | h5
            · rw [← h5]; exact he
            · exact hj j h5
          · refine ⟨_, bEqF (by omega), ?_⟩
            refine ⟨fun hc => (by cases hc), fun _ => ?_⟩
            exact ⟨i, ⟨⟨rfl, rfl, rfl, rfl, trivial⟩, rfl⟩, ⟨hf.dr, hs⟩, hi, hj, .inr he⟩
      · rintro i u ⟨⟨hf, hs⟩, hi, hj, hstop⟩
        have q1 := (r1.fm0 hf).cell hi
        have q2 := (r2.fm0 hf).cell (i := i) (by omega)
        refine ⟨.take 0 (.take 1 (.take 2 (.take 3 (.take 4 (.take 5 (.take 6 (.take 7 (.take 8 (.take 9 (.done)))))))))), by kernel_rfl, ?_⟩
        refine tkA (ia se_54 _ hi) ?_
        refine tkC na_101 q1 ?_
        refine tkA (ia se_54 _ (by omega)) ?_
        refine tkC na_101 q2 ?_
        rcases Nat.lt_or_ge (dg lx i) (dg ly i) with hc | hc
        · refine ⟨_, bLt (by omega), ?_⟩
          refine ⟨fun _ => ?_, fun hc => (by cases hc)⟩
          refine ⟨rfl, ⟨hf.dr, hs⟩, ?_⟩
          have := nv_cmp hx.wf hy.wf h hi hj hc
          simp [cmpI, this, tupV]
        · refine ⟨_, bLtF (by omega), ?_⟩
          refine ⟨fun hc => (by cases hc), fun _ => ?_⟩
          have q3 := (r1.fm0 hf.dr).cell hi
          have q4 := (r2.fm0 hf.dr).cell (i := i) (by omega)
          refine ⟨.take 0 (.take 1 (.take 2 (.take 3 (.take 4 (.take 5 (.take 6 (.take 7 (.take 8 (.take 9 (.done)))))))))), by kernel_rfl, ?_⟩
          refine tkA (ia se_54 _ hi) ?_
          refine tkC na_101 q3 ?_
          refine tkA (ia se_54 _ (by omega)) ?_
          refine tkC na_101 q4 ?_
          rcases Nat.lt_or_ge (dg ly i) (dg lx i) with hc2 | hc2
          · refine ⟨_, bGt (by omega), ?_⟩
            refine ⟨fun _ => ?_, fun hc => (by cases hc)⟩
            refine ⟨rfl, ⟨hf.dr.dr, hs⟩, ?_⟩
            have := nv_cmp hy.wf hx.wf h.symm (by omega) (fun j hj2 => (hj j hj2).symm) hc2
            have h2 : ¬ nv lx < nv ly := by omega
            simp [cmpI, this, h2, tupV]
          · refine ⟨_, bGtF (by omega), ?_⟩
            refine ⟨fun hc => (by cases hc), fun _ => ?_⟩
            refine ⟨rfl, ⟨hf.dr.dr, hs⟩, ?_⟩
            have he : lx = ly := by
              apply list_ext_dg h
              intro j hj3
              have hi0 : i = 0 := hstop.resolve_right (by omega)
              subst hi0
              rcases Nat.eq_zero_or_pos j with rfl | h5
              · omega
              · exact hj j h5
            subst he
            simp [cmpI, tupV]
  · obtain ⟨n1, n2⟩ := hl.resolve_left (by omega)
    have hlt := nv_lt_of_length hy.wf n1 h
    have h2 : ¬ nv lx < nv ly := by omega
    refine ⟨_, bNe (by omega), ?_⟩
    refine ⟨fun _ => ?_, fun hc => (by cases hc)⟩
    refine ⟨_, bLtF (by omega), ?_⟩
    refine ⟨fun hc => (by cases hc), fun _ => ?_⟩
    refine ⟨_, bGt (by omega), ?_⟩
    refine ⟨fun _ => ?_, fun hc => (by cases hc)⟩
    refine ⟨rfl, ⟨Fm.refl _ _, rfl⟩, ?_⟩
    simp [cmpI, hlt, h2, tupV]

end Go.Vc
end

section
/- nat.add, nat.sub. -/
set_option linter.unusedSimpArgs false
set_option linter.unusedVariables false
set_option maxRecDepth 8000
namespace Go.Vc
open Go.Proofs

/-- What is read apart from what was written is as it was. -/
theorem Rd.keep {w u : World} {bz bx oz ox : Nat} {Z xs zs : List Nat} (hx : Rd w bx ox xs) (hZ : Wd w bz Z) (hu : Wd u bz (splice Z oz zs)) (f : Fm (· = bz) w u) (hz : oz + zs.length ≤ Z.length)
    (hd : bx = bz → ox + xs.length ≤ oz ∨ oz + zs.length ≤ ox) : Rd u bx ox xs := by
  rcases Classical.em (bx = bz) with e | e
  · subst e
    obtain ⟨full, h1, h2, h3⟩ := hx.all
    have := hZ.uniq h1
    subst this
    refine ⟨_, hu, by rw [splice_len hz]; exact h2, ?_⟩
    apply list_ext_dg (by simp [splice_len hz]; omega)
    intro i hi
    have hi2 : i < xs.length := by simp at hi; omega
    rw [dg_take hi2, dg_drop]
    have h4 : dg xs i = dg Z (ox + i) := by rw [← h3, dg_take hi2, dg_drop]
    rw [h4]
    rcases hd rfl with h | h
    · rw [dg_splice_low hz (by omega)]
    · rw [dg_splice_high hz (by omega)]
  · exact hx.fm f e

theorem nv_pair {n m c c1 X1 X2 Y : Nat} {l1 l2 : List Nat} (h1 : l1.length = n) (h2 : l2.length = m) (e1 : nv l1 + BW ^ n * c1 = X1 + Y) (e2 : nv l2 + BW ^ m * c = X2 + c1) :
    nv (l1 ++ l2) + BW ^ (n + m) * c = X1 + BW ^ n * X2 + Y := by
  rw [nv_append, h1, Nat.pow_add]
  have e3 : BW ^ n * (nv l2 + BW ^ m * c) = BW ^ n * (X2 + c1) := by rw [e2]
  simp only [Nat.mul_add, ← Nat.mul_assoc] at e3
  omega

theorem nv_pair2 {n m c c1 X1 X2 Y : Nat} {l1 l2 : List Nat} (h1 : l1.length = n) (h2 : l2.length = m) (e1 : nv l1 + Y = X1 + BW ^ n * c1) (e2 : nv l2 + c1 = X2 + BW ^ m * c) :
    nv (l1 ++ l2) + Y = X1 + BW ^ n * X2 + BW ^ (n + m) * c := by
  rw [nv_append, h1, Nat.pow_add]
  have e3 : BW ^ n * (nv l2 + c1) = BW ^ n * (X2 + BW ^ m * c) := by rw [e2]
  simp only [Nat.mul_add, ← Nat.mul_assoc] at e3
  omega

theorem take_splice_all {Z l : List Nat} (h : l.length ≤ Z.length) : (splice Z 0 l).take l.length = l := by
  have := splice_mid (Z := Z) (o := 0) (l := l) (by omega)
  rwa [List.drop_zero] at this

/-- The sum, the longer one first. -/
theorem add_ge {w : World} {z x y : Value} {d dx dy : Option Nat} {l0 lx ly : List Nat} (hz : Own w z d l0) (hx : Own w x dx lx) (hy : Own w y dy ly) (nx : Nrm lx) (hge : ly.length ≤ lx.length) (hn : lx.length ≤ 900) :
    CallX P 77 #[z, x, y] w fun v w' => Res w w' d v (nv lx + nv ly) := by
  obtain ⟨ax, cx, hxe, hcx, hcx2, hsx⟩ := hx.val
  obtain ⟨ay, cy, hye, hcy, hcy2, hsy⟩ := hy.val
  refine calls_vc mo fn_77 rfl ok_77 (Nat.le_of_ble_eq_true rfl) nm_77 ?_
  rw [hxe, hye]
  refine ⟨_, _, ln se_54 _ _ _ _ _ _, ?_⟩
  refine ⟨_, _, ln se_54 _ _ _ _ _ _, ?_⟩
  refine ⟨_, bLtF (by omega), ?_⟩
  refine ⟨fun hc => (by cases hc), fun _ => ?_⟩
  rcases Classical.em (lx = []) with e | e
  · subst e
    have : ly = [] := List.eq_nil_of_length_eq_zero (by simpa using hge)
    subst this
    refine ⟨_, bEq rfl, ?_⟩
    refine ⟨fun _ => ?_, fun hc => (by cases hc)⟩
    obtain ⟨a, c, n, rfl, hr⟩ := zero_res hz
    refine rnA (slHi (hi := 0) se_54 _ (Nat.zero_le _)) ?_
    exact ⟨rfl, hr⟩
  have hlx : 0 < lx.length := List.length_pos_iff.2 e
  refine ⟨_, bEqF (by omega), ?_⟩
  refine ⟨fun hc => (by cases hc), fun _ => ?_⟩
  rcases Classical.em (ly = []) with e2 | e2
  · subst e2
    refine ⟨_, bEq rfl, ?_⟩
    refine ⟨fun _ => ?_, fun hc => (by cases hc)⟩
    rw [← hxe]
    refine (set_c hz hx nx (by omega)).mono ?_
    rintro v w1 h
    exact ⟨rfl, h⟩
  have hly : 0 < ly.length := List.length_pos_iff.2 e2
  refine ⟨_, bEqF (by omega), ?_⟩
  refine ⟨fun hc => (by cases hc), fun _ => ?_⟩
  refine ⟨_, nAdd lx.length 1 (by omega), ?_⟩
  refine (make_c hz (n := lx.length + 1) (by omega) (by omega)).mono ?_
  rintro v w1 ⟨b, full, hm⟩
  have hv := hm.v
  subst hv
  obtain ⟨bx, cx', rfl, hxe', rx, _, _⟩ := hx.rd e
  obtain ⟨by_, cy', rfl, hye', ry, _, _⟩ := hy.rd e2
  rw [hxe] at hxe'; cases hxe'
  rw [hye] at hye'; cases hye'
  have hfn := hm.nl
  have rx1 := rx.fm0 hm.fm
  have ry1 := ry.fm0 hm.fm
  refine ⟨.take 0 (.take 1 (.take 2 (.take 3 (.take 4 (.take 5 (.take 6 (.take 7 (.take 8 (.one 9 [] (.take 10 (.done))))))))))), by kernel_rfl, ?_⟩
  refine tkA (slHi se_54 _ (by omega)) ?_
  refine tkA (slHi se_54 _ (by omega)) ?_
  refine tkA (slHi se_54 _ (by omega)) ?_
  have rxa := rx1.drew.sub 0 ly.length (by omega)
  rw [List.drop_zero] at rxa
  have hla : (lx.take ly.length).length = ly.length := by rw [List.length_take]; omega
  have ca := addVV_c (cz := full.length) (cx := cx) (cy := cy) hm.wd.drew rxa ry1.drew (by rw [hla]) (oz := 0) (by rw [hla]; omega) (fun _ => .inl (Nat.zero_le _)) (fun _ => .inl (Nat.zero_le _)) (by rw [hla]; omega)
  rw [hla] at ca
  refine ca.mono ?_
  rintro v w2 ⟨zs, c1, rfl, hc1, hzl, hW2, hv2, hF2, hs2⟩
  refine ⟨trivial, ?_⟩
  have hF2' := hF2.drew'
  refine vcuts (by repeat (first | exact moE _ _ _ | exact moEd _ _ _ | apply moB | apply moL | apply moV)) (List Nat × Nat) (fun p => ⟨[(0, .slice (some ⟨b, 0, none⟩) (lx.length + 1) full.length), (7, .int .i64 (lx.length : Int)), (9, vw p.2)], []⟩)
    (fun p u => p.2 ≤ 1 ∧ p.1.length = lx.length ∧ Wd u b (splice full 0 p.1) ∧ Fm (· = b) w1 u ∧ nv p.1 + BW ^ lx.length * p.2 = nv lx + nv ly) ?_ ?_
  · rcases Nat.lt_or_ge ly.length lx.length with hlt | hge2
    · refine ⟨_, bGt (by omega), ?_⟩
      refine ⟨fun _ => ?_, fun hc => (by cases hc)⟩
      refine ⟨.take 0 (.take 1 (.take 2 (.take 3 (.take 4 (.take 5 (.take 6 (.take 7 (.one 8 [] (.take 9 (.done)))))))))), by kernel_rfl, ?_⟩
      refine tkA (sl se_54 _ _ (by omega) (by omega)) ?_
      refine tkA (slLo se_54 _ (by omega)) ?_
      rw [subA_some (by omega), subA_some (by omega)]
      have hW2d := hW2.drew
      have hlen2 : (splice full 0 zs).length = full.length := splice_len (by omega)
      have rxb0 := rx1.sub ly.length (lx.length - ly.length) (by omega)
      have hdr : (lx.drop ly.length).take (lx.length - ly.length) = lx.drop ly.length := List.take_of_length_le (by rw [List.length_drop]; omega)
      rw [hdr] at rxb0
      have rxb : Rd w2 bx (0 + ly.length) (lx.drop ly.length) := rxb0.keep hm.wd hW2 hF2' (by omega) (fun _ => .inr (by omega))
      have hlb : (lx.drop ly.length).length = lx.length - ly.length := List.length_drop
      have cb := addVW_c (y := c1) (cz := full.length - ly.length) (cx := cx - ly.length) hW2d rxb.drew (by unfold BW; omega) (by omega) (oz := 0 + ly.length) (by rw [hlb, hlen2]; omega) (fun _ => rfl) (by rw [hlb]; omega) (by omega) (by omega)
      rw [hlb] at cb
      refine cb.mono ?_
      rintro v w3 ⟨zs2, c2, rfl, hc2, hzl2, hW3, hv3, hF3, hs3⟩
      refine ⟨trivial, ?_⟩
      refine ⟨(zs ++ zs2, c2), ⟨⟨rfl, rfl, rfl, trivial⟩, rfl⟩, hc2, by simp [hzl, hzl2]; omega, ?_, hF2'.trans hF3.drew' (fun _ _ h => h), ?_⟩
      · have := splice_append (Z := full) (o := 0) (l := zs) (r := zs2) (by omega)
        rw [hzl] at this
        rw [← this]; exact hW3
      · have := nv_pair hzl hzl2 hv2 hv3
        rw [show ly.length + (lx.length - ly.length) = lx.length by omega] at this
        have e5 := nv_split lx ly.length
        rw [Nat.min_eq_left (by omega)] at e5
        dsimp only
        rw [this, e5]
    · have hll : ly.length = lx.length := by omega
      refine ⟨_, bGtF (by omega), ?_⟩
      refine ⟨fun hc => (by cases hc), fun _ => ?_⟩
      refine ⟨(zs, c1), ⟨⟨rfl, rfl, rfl, trivial⟩, rfl⟩, hc1, by rw [hzl, hll], hW2, hF2', ?_⟩
      rw [hll, List.take_length] at hv2
      exact hv2
  rintro ⟨zs, c⟩ u ⟨hc, hzl, hW, hF, hv⟩
  dsimp only at hc hzl hW hv ⊢
  refine rnA (ia se_54 _ (by omega)) ?_
  obtain ⟨w4, e4, hW4, hF4, hs4⟩ := hW.st (i := 0 + lx.length) (by rw [splice_len (by omega)]; omega) (x := c) (by unfold BW; omega)
  refine ⟨w4, e4, ?_⟩
  have es := splice_snoc (Z := full) (o := 0) (l := zs) (by omega) c
  rw [hzl] at es
  rw [es] at hW4
  have hsl : (splice full 0 (zs ++ [c])).length = full.length := splice_len (by simp; omega)
  have cn := norm_res (w := w) (d := d) (n := lx.length + 1) (x := nv lx + nv ly) hW4 (by rw [hsl]; omega) (by rw [hsl]; exact hm.c) (hm.fd (hF.trans hF4 (fun _ _ h => h))) hm.nd (by
    have : lx.length + 1 = (zs ++ [c]).length := by simp [hzl]
    rw [this, take_splice_all (by simp; omega), nv_append, hzl]
    simp only [nv, Nat.mul_zero, Nat.add_zero]
    exact hv)
  rw [hsl] at cn
  refine cn.mono ?_
  rintro v w5 h
  exact ⟨rfl, h⟩

theorem add_c {w : World} {z x y : Value} {d dx dy : Option Nat} {l0 lx ly : List Nat} (hz : Own w z d l0) (hx : Own w x dx lx) (hy : Own w y dy ly) (nx : Nrm lx) (ny : Nrm ly) (hn : lx.length ≤ 900) (hn2 : ly.length ≤ 900) :
    CallX P 77 #[z, x, y] w fun v w' => Res w w' d v (nv lx + nv ly) := by
  rcases Nat.lt_or_ge lx.length ly.length with h | h
  · obtain ⟨ax, cx, hxe, hcx, hcx2, hsx⟩ := hx.val
    obtain ⟨ay, cy, hye, hcy, hcy2, hsy⟩ := hy.val
    refine calls_vc mo fn_77 rfl ok_77 (Nat.le_of_ble_eq_true rfl) nm_77 ?_
    rw [hxe, hye]
    refine ⟨_, _, ln se_54 _ _ _ _ _ _, ?_⟩
    refine ⟨_, _, ln se_54 _ _ _ _ _ _, ?_⟩
    refine ⟨_, bLt (by omega), ?_⟩
    refine ⟨fun _ => ?_, fun hc => (by cases hc)⟩
    rw [← hxe, ← hye]
    refine (add_ge hz hy hx ny (by omega) hn2).mono ?_
    rintro v w1 h
    refine ⟨rfl, ?_⟩
    rw [Nat.add_comm]; exact h
  · exact add_ge hz hx hy nx h hn

/-- The difference of a number and one that is not greater. -/
theorem sub_c {w : World} {z x y : Value} {d dx dy : Option Nat} {l0 lx ly : List Nat} (hz : Own w z d l0) (hx : Own w x dx lx) (hy : Own w y dy ly) (nx : Nrm lx) (hle : nv ly ≤ nv lx) (hge : ly.length ≤ lx.length) (hn : lx.length ≤ 900) :
    CallX P 79 #[z, x, y] w fun v w' => Res w w' d v (nv lx - nv ly) := by
  obtain ⟨ax, cx, hxe, hcx, hcx2, hsx⟩ := hx.val
  obtain ⟨ay, cy, hye, hcy, hcy2, hsy⟩ := hy.val
  refine calls_vc mo fn_79 rfl ok_79 (Nat.le_of_ble_eq_true rfl) nm_79 ?_
  rw [hxe, hye]
  refine ⟨_, _, ln se_54 _ _ _ _ _ _, ?_⟩
  refine ⟨_, _, ln se_54 _ _ _ _ _ _, ?_⟩
  refine ⟨_, bLtF (by omega), ?_⟩
  refine ⟨fun hc => (by cases hc), fun _ => ?_⟩
  rcases Classical.em (lx = []) with e | e
  · subst e
    have : ly = [] := List.eq_nil_of_length_eq_zero (by simpa using hge)
    subst this
    refine ⟨_, bEq rfl, ?_⟩
    refine ⟨fun _ => ?_, fun hc => (by cases hc)⟩
    obtain ⟨a, c, n, rfl, hr⟩ := zero_res hz
    refine rnA (slHi (hi := 0) se_54 _ (Nat.zero_le _)) ?_
    exact ⟨rfl, hr⟩
  have hlx : 0 < lx.length := List.length_pos_iff.2 e
  refine ⟨_, bEqF (by omega), ?_⟩
  refine ⟨fun hc => (by cases hc), fun _ => ?_⟩
  rcases Classical.em (ly = []) with e2 | e2
  · subst e2
    refine ⟨_, bEq rfl, ?_⟩
    refine ⟨fun _ => ?_, fun hc => (by cases hc)⟩
    rw [← hxe]
    refine (set_c hz hx nx (by omega)).mono ?_
    rintro v w1 h
    exact ⟨rfl, h⟩
  have hly : 0 < ly.length := List.length_pos_iff.2 e2
  refine ⟨_, bEqF (by omega), ?_⟩
  refine ⟨fun hc => (by cases hc), fun _ => ?_⟩
  refine (make_c hz (n := lx.length) (by omega) (by omega)).mono ?_
  rintro v w1 ⟨b, full, hm⟩
  have hv := hm.v
  subst hv
  obtain ⟨bx, cx', rfl, hxe', rx, _, _⟩ := hx.rd e
  obtain ⟨by_, cy', rfl, hye', ry, _, _⟩ := hy.rd e2
  rw [hxe] at hxe'; cases hxe'
  rw [hye] at hye'; cases hye'
  have hfn := hm.nl
  have rx1 := rx.fm0 hm.fm
  have ry1 := ry.fm0 hm.fm
  refine ⟨.take 0 (.take 1 (.take 2 (.take 3 (.take 4 (.take 5 (.take 6 (.take 7 (.take 8 (.one 9 [] (.take 10 (.done))))))))))), by kernel_rfl, ?_⟩
  refine tkA (slHi se_54 _ (by omega)) ?_
  refine tkA (slHi se_54 _ (by omega)) ?_
  refine tkA (slHi se_54 _ (by omega)) ?_
  have rxa := rx1.drew.sub 0 ly.length (by omega)
  rw [List.drop_zero] at rxa
  have hla : (lx.take ly.length).length = ly.length := by rw [List.length_take]; omega
  have ca := subVV_c (cz := full.length) (cx := cx) (cy := cy) hm.wd.drew rxa ry1.drew (by rw [hla]) (oz := 0) (by rw [hla]; omega) (fun _ => .inl (Nat.zero_le _)) (fun _ => .inl (Nat.zero_le _)) (by rw [hla]; omega)
  rw [hla] at ca
  refine ca.mono ?_
  rintro v w2 ⟨zs, c1, rfl, hc1, hzl, hW2, hv2, hF2, hs2⟩
  refine ⟨trivial, ?_⟩
  have hF2' := hF2.drew'
  refine vcuts (by repeat (first | exact moE _ _ _ | exact moEd _ _ _ | apply moB | apply moL | apply moV)) (List Nat × Nat) (fun p => ⟨[(0, .slice (some ⟨b, 0, none⟩) lx.length full.length), (7, .int .i64 (lx.length : Int)), (9, vw p.2)], []⟩)
    (fun p u => p.2 ≤ 1 ∧ p.1.length = lx.length ∧ Wd u b (splice full 0 p.1) ∧ Fm (· = b) w1 u ∧ nv p.1 + nv ly = nv lx + BW ^ lx.length * p.2) ?_ ?_
  · rcases Nat.lt_or_ge ly.length lx.length with hlt | hge2
    · refine ⟨_, bGt (by omega), ?_⟩
      refine ⟨fun _ => ?_, fun hc => (by cases hc)⟩
      refine ⟨.take 0 (.take 1 (.take 2 (.take 3 (.take 4 (.take 5 (.take 6 (.one 7 [] (.take 8 (.done))))))))), by kernel_rfl, ?_⟩
      refine tkA (slLo se_54 _ (by omega)) ?_
      refine tkA (slLo se_54 _ (by omega)) ?_
      rw [subA_some (by omega), subA_some (by omega)]
      have hW2d := hW2.drew
      have hlen2 : (splice full 0 zs).length = full.length := splice_len (by omega)
      have rxb0 := rx1.sub ly.length (lx.length - ly.length) (by omega)
      have hdr : (lx.drop ly.length).take (lx.length - ly.length) = lx.drop ly.length := List.take_of_length_le (by rw [List.length_drop]; omega)
      rw [hdr] at rxb0
      have rxb : Rd w2 bx (0 + ly.length) (lx.drop ly.length) := rxb0.keep hm.wd hW2 hF2' (by omega) (fun _ => .inr (by omega))
      have hlb : (lx.drop ly.length).length = lx.length - ly.length := List.length_drop
      have cb := subVW_c (y := c1) (cz := full.length - ly.length) (cx := cx - ly.length) hW2d rxb.drew (by unfold BW; omega) (by omega) (oz := 0 + ly.length) (by rw [hlb, hlen2]; omega) (fun _ => rfl) (by rw [hlb]; omega) (by omega) (by omega)
      rw [hlb] at cb
      refine cb.mono ?_
      rintro v w3 ⟨zs2, c2, rfl, hc2, hzl2, hW3, hv3, hF3, hs3⟩
      refine ⟨trivial, ?_⟩
      refine ⟨(zs ++ zs2, c2), ⟨⟨rfl, rfl, rfl, trivial⟩, rfl⟩, hc2, by simp [hzl, hzl2]; omega, ?_, hF2'.trans hF3.drew' (fun _ _ h => h), ?_⟩
      · have := splice_append (Z := full) (o := 0) (l := zs) (r := zs2) (by omega)
        rw [hzl] at this
        rw [← this]; exact hW3
      · have := nv_pair2 hzl hzl2 hv2 hv3
        rw [show ly.length + (lx.length - ly.length) = lx.length by omega] at this
        have e5 := nv_split lx ly.length
        rw [Nat.min_eq_left (by omega)] at e5
        dsimp only
        rw [this, e5]
    · have hll : ly.length = lx.length := by omega
      refine ⟨_, bGtF (by omega), ?_⟩
      refine ⟨fun hc => (by cases hc), fun _ => ?_⟩
      refine ⟨(zs, c1), ⟨⟨rfl, rfl, rfl, trivial⟩, rfl⟩, hc1, by rw [hzl, hll], hW2, hF2', ?_⟩
      rw [hll, List.take_length] at hv2
      exact hv2
  rintro ⟨zs, c⟩ u ⟨hc, hzl, hW, hF, hv⟩
  dsimp only at hc hzl hW hv ⊢
  have hc0 : c = 0 := by
    rcases Nat.eq_zero_or_pos c with h | h
    · exact h
    · have h1 : BW ^ lx.length * 1 ≤ BW ^ lx.length * c := Nat.mul_le_mul_left _ h
      have h2 := nv_lt ((rd_spliced hW (by omega)).wf)
      rw [hzl] at h2
      omega
  subst hc0
  refine ⟨_, bNeF rfl, ?_⟩
  refine ⟨fun hc => (by cases hc), fun _ => ?_⟩
  have hsl : (splice full 0 zs).length = full.length := splice_len (by omega)
  have cn := norm_res (w := w) (d := d) (n := lx.length) (x := nv lx - nv ly) hW (by rw [hsl]; omega) (by rw [hsl]; exact hm.c) (hm.fd hF) hm.nd (by
    rw [← hzl, take_splice_all (by omega)]; omega)
  rw [hsl] at cn
  refine cn.mono ?_
  rintro v w5 h
  exact ⟨rfl, h⟩

end Go.Vc
end

section
/- Products of numbers. -/
set_option linter.unusedSimpArgs false
set_option linter.unusedVariables false
set_option maxRecDepth 8000
namespace Go.Vc
open Go.Proofs

/-- What the package's variables hold. -/
structure Gl (w : World) : Prop where
  k : Cl w 5 [.int .i64 40] 3
  s : Cl w 3 [.int .i64 12] 3
  q : Cl w 4 [.int .i64 80] 3
  r : Cl w 6 [.int .i64 40] 3

theorem Cl.ne_wd {w : World} {g b : Nat} {cs : List Value} {l : List Nat} (h : Cl w g cs 3) (hw : Wd w b l) : g ≠ b := by
  intro e
  subst e
  have := h.symm.trans hw.cl
  simp at this

theorem Gl.fm {S : Nat → Prop} {w w' : World} (h : Gl w) (f : Fm S w w') (hs : ∀ b, b < w.heap.size → S b → ∃ l, Wd w b l) : Gl w' := by
  have go : ∀ {g : Nat} {cs : List Value}, Cl w g cs 3 → Cl w' g cs 3 := fun {g cs} hc => by
    refine f.obj hc (fun hS => ?_)
    obtain ⟨l, hl⟩ := hs g (lt_of_obj hc) hS
    exact hc.ne_wd hl rfl
  exact ⟨go h.k, go h.s, go h.q, go h.r⟩

theorem Gl.fd {w w' : World} {z : Value} {d : Option Nat} {l : List Nat} (h : Gl w) (hz : Own w z d l) (f : Fd d w w') : Gl w' := by
  refine h.fm f (fun b _ e => ?_)
  subst e
  obtain ⟨full, _, hw, _⟩ := hz
  exact ⟨full, hw⟩
theorem Gl.fm0 {w w' : World} (h : Gl w) (f : Fm (fun _ => False) w w') : Gl w' := h.fm f (fun _ _ h => h.elim)

theorem splice_over {Z p r : List Nat} {i : Nat} (hp : p.length ≤ Z.length) (hi : i + r.length = p.length) : splice (splice Z 0 p) i r = splice Z 0 (p.take i ++ r) := by
  have e : (p.take i).length = i := by rw [List.length_take]; omega
  have h1 : (splice Z 0 p).length = Z.length := splice_len (by omega)
  have h2 : (p.take i ++ r).length = p.length := by rw [List.length_append, e]; exact hi
  apply list_ext_dg (by rw [splice_len (by omega), h1, splice_len (by omega)])
  intro j hj
  rw [splice_len (by omega), h1] at hj
  rcases Nat.lt_or_ge j i with h3 | h3
  · rw [dg_splice_low (by omega) h3]
    have a := dg_splice_in (Z := Z) (o := 0) (l := p) (by omega) (i := j) (by omega)
    have b := dg_splice_in (Z := Z) (o := 0) (l := p.take i ++ r) (by omega) (i := j) (by omega)
    rw [Nat.zero_add] at a b
    rw [a, b, dg_append_left (by omega), dg_take h3]
  · rcases Nat.lt_or_ge j p.length with h4 | h4
    · have a := dg_splice_in (Z := splice Z 0 p) (o := i) (l := r) (by omega) (i := j - i) (by omega)
      have b := dg_splice_in (Z := Z) (o := 0) (l := p.take i ++ r) (by omega) (i := j) (by omega)
      rw [show i + (j - i) = j by omega] at a
      rw [Nat.zero_add] at b
      rw [a, b, dg_append_right (by omega), e]
    · rw [dg_splice_high (by omega) (by omega), dg_splice_high (by omega) (by omega), dg_splice_high (by omega) (by omega)]

theorem splice_same {Z p : List Nat} {x : Nat} (hp : p.length < Z.length) (hx : dg Z p.length = x) : splice Z 0 (p ++ [x]) = splice Z 0 p := by
  have h1 : (p ++ [x]).length = p.length + 1 := by simp
  apply list_ext_dg (by rw [splice_len (by omega), splice_len (by omega)])
  intro j hj
  rw [splice_len (by omega)] at hj
  rcases Nat.lt_trichotomy j p.length with h | h | h
  · have a := dg_splice_in (Z := Z) (o := 0) (l := p) (by omega) (i := j) h
    have b := dg_splice_in (Z := Z) (o := 0) (l := p ++ [x]) (by omega) (i := j) (by omega)
    rw [Nat.zero_add] at a b
    rw [a, b, dg_append_left h]
  · subst h
    have b := dg_splice_in (Z := Z) (o := 0) (l := p ++ [x]) (by omega) (i := p.length) (by omega)
    rw [Nat.zero_add] at b
    rw [b, dg_append_right (Nat.le_refl _), dg_splice_high (by omega) (by omega), hx]
    simp [dg]
  · rw [dg_splice_high (by omega) (by omega), dg_splice_high (by omega) (by omega)]

theorem mulAddWW_c {w : World} {z x : Value} {d dx : Option Nat} {l0 lx : List Nat} (hz : Own w z d l0) (hx : Own w x dx lx) (hn : lx.length ≤ 900) {y r : Nat} (hy : y < BW) (hr : r < BW) :
    CallX P 104 #[z, x, vw y, vw r] w fun v w' => Res w w' d v (nv lx * y + r) := by
  obtain ⟨ax, cx, hxe, hcx, hcx2, hsx⟩ := hx.val
  refine calls_vc mo fn_104 rfl ok_104 (Nat.le_of_ble_eq_true rfl) nm_104 ?_
  rw [hxe]
  refine ⟨_, _, ln se_54 _ _ _ _ _ _, ?_⟩
  rcases Classical.em (lx = []) with e | e
  · subst e
    refine ⟨_, bEq rfl, ?_⟩
    refine ⟨fun _ => ?_, fun hc => (by cases hc)⟩
    refine (setWord_c hz hr).mono ?_
    rintro v w1 h
    refine ⟨rfl, ?_⟩
    show Res w w1 d v _
    simpa [nv] using h
  have hlx : 0 < lx.length := List.length_pos_iff.2 e
  refine ⟨_, bEqF (by omega), ?_⟩
  rcases Nat.eq_zero_or_pos y with rfl | hyp
  · refine ⟨_, bEq rfl, ?_⟩
    refine ⟨fun _ => ?_, fun hc => (by cases hc)⟩
    refine (setWord_c hz hr).mono ?_
    rintro v w1 h
    refine ⟨rfl, ?_⟩
    show Res w w1 d v _
    simpa using h
  refine ⟨_, bEqF (by omega), ?_⟩
  refine ⟨fun hc => (by cases hc), fun _ => ?_⟩
  refine ⟨_, nAdd lx.length 1 (by omega), ?_⟩
  refine (make_c hz (n := lx.length + 1) (by omega) (by omega)).mono ?_
  rintro v w1 ⟨b, full, hm⟩
  have hv := hm.v
  subst hv
  obtain ⟨bx, cx', rfl, hxe', rx, _, _⟩ := hx.rd e
  rw [hxe] at hxe'; cases hxe'
  have hfn := hm.nl
  refine rnA (sl (lo := 0) se_54 _ _ (Nat.zero_le _) (by omega)) ?_
  rw [subA_zero]
  refine (mulAddVWW_c (cz := full.length) (cx := cx) hm.wd (rx.fm0 hm.fm) hy hr (oz := 0) (by omega) (fun _ => .inl (Nat.zero_le _)) (by omega)).mono ?_
  rintro v w2 ⟨zs, c1, rfl, hc1, hzl, hW2, hv2, hF2, hs2⟩
  refine rnA (ia se_54 _ (by omega)) ?_
  obtain ⟨w4, e4, hW4, hF4, hs4⟩ := hW2.st (i := 0 + lx.length) (by rw [splice_len (by omega)]; omega) hc1
  refine ⟨w4, e4, ?_⟩
  have es := splice_snoc (Z := full) (o := 0) (l := zs) (by omega) c1
  rw [hzl] at es
  rw [es] at hW4
  have hsl : (splice full 0 (zs ++ [c1])).length = full.length := splice_len (by simp; omega)
  have cn := norm_res (w := w) (d := d) (n := lx.length + 1) (x := nv lx * y + r) hW4 (by rw [hsl]; omega) (by rw [hsl]; exact hm.c) (hm.fd (hF2.trans hF4 (fun _ _ h => h))) hm.nd (by
    have : lx.length + 1 = (zs ++ [c1]).length := by simp [hzl]
    rw [this, take_splice_all (by simp; omega), nv_append, hzl]
    simp only [nv, Nat.mul_zero, Nat.add_zero]
    exact hv2)
  rw [hsl] at cn
  refine cn.mono ?_
  rintro v w5 h
  exact ⟨rfl, h⟩

/-- The product, written to a block of its own. -/
theorem basicMul_c {w : World} {b bx by_ ox oy cx cy : Nat} {Z lx ly : List Nat} (hZ : Wd w b Z) (hx : Rd w bx ox lx) (hy : Rd w by_ oy ly) (nx : bx ≠ b) (ny : by_ ≠ b) (hn : lx.length + ly.length ≤ Z.length) (hb : Z.length ≤ 9223372036854775807 ∧ lx.length + ly.length ≤ 100000) (n : Nat) (hn2 : lx.length + ly.length ≤ n) (hn3 : n ≤ Z.length) (hx0 : 0 < lx.length) :
    CallX P 117 #[.slice (some ⟨b, 0, none⟩) n Z.length, .slice (some ⟨bx, ox, none⟩) lx.length cx, .slice (some ⟨by_, oy, none⟩) ly.length cy] w fun v w' =>
      ∃ zs, zs.length = lx.length + ly.length ∧ Wd w' b (splice Z 0 zs) ∧ nv zs = nv lx * nv ly ∧ Fm (· = b) w w' := by
  refine calls_vc mo fn_117 rfl ok_117 (Nat.le_of_ble_eq_true rfl) nm_117 ?_
  refine ⟨_, _, ln se_54 _ _ _ _ _ _, ?_⟩
  refine ⟨_, _, ln se_54 _ _ _ _ _ _, ?_⟩
  refine ⟨_, nAdd lx.length ly.length (by omega), ?_⟩
  refine rnA (sl (lo := 0) se_54 _ _ (Nat.zero_le _) (by omega)) ?_
  rw [subA_zero]
  obtain ⟨v, w1, e1, hW1, hF1, hs1⟩ := clr se_54 (by kernel_rfl) hZ (oz := 0) (n := lx.length + ly.length - 0) (c := Z.length - 0) (by omega) _ _
  refine ⟨v, w1, e1, ?_⟩
  rw [Nat.sub_zero] at hW1
  refine ⟨_, _, ln se_54 _ _ _ _ _ _, ?_⟩
  have hrl : (List.replicate (lx.length + ly.length) 0).length = lx.length + ly.length := List.length_replicate
  have hZ0l : (splice Z 0 (List.replicate (lx.length + ly.length) 0)).length = Z.length := splice_len (by omega)
  have hz0 : ∀ j, j < lx.length + ly.length → dg (splice Z 0 (List.replicate (lx.length + ly.length) 0)) j = 0 := fun j hj => by
    have := dg_splice_in (Z := Z) (o := 0) (l := List.replicate (lx.length + ly.length) 0) (by omega) (i := j) (by omega)
    rw [Nat.zero_add] at this
    rw [this, dg_replicate _ _ _ hj]
  have hsp : ∀ zs : List Nat, zs.length = lx.length + ly.length → splice (splice Z 0 (List.replicate (lx.length + ly.length) 0)) 0 zs = splice Z 0 zs := fun zs hl => by
    have := splice_over (Z := Z) (p := List.replicate (lx.length + ly.length) 0) (r := zs) (i := 0) (by omega) (by omega)
    rw [this]; simp
  generalize hZ0 : splice Z 0 (List.replicate (lx.length + ly.length) 0) = Z0 at *
  have rx1 := hx.fm hF1 nx
  have ry1 := hy.fm hF1 ny
  have i0 : splice Z0 0 (List.replicate lx.length 0) = Z0 := by
    apply splice_self (by simp; omega)
    apply list_ext_dg (by simp; omega)
    intro j hj
    have hj2 : j < lx.length := by simp at hj; omega
    rw [List.length_replicate, dg_take hj2, dg_drop, dg_replicate _ _ _ hj2, Nat.zero_add, hz0 _ (by omega)]
  refine vloop (List Nat) (fun p => ⟨[(0, .slice (some ⟨b, 0, none⟩) n Z.length), (1, .slice (some ⟨bx, ox, none⟩) lx.length cx), (15, .slice (some ⟨by_, oy, none⟩) ly.length cy), (16, .int .i64 (ly.length : Int)), (17, .int .i64 ((p.length - lx.length : Nat) : Int))], []⟩)
    (fun p u => lx.length ≤ p.length ∧ p.length ≤ lx.length + ly.length ∧ Wd u b (splice Z0 0 p) ∧ Fm (· = b) w1 u ∧ nv p = nv lx * nv (ly.take (p.length - lx.length))) (fun p => lx.length + ly.length - p.length) (List.replicate lx.length 0)
    ⟨⟨rfl, rfl, rfl, rfl, by simp; rfl, trivial⟩, rfl⟩ ⟨by simp, by simp, by rw [i0]; exact hW1, Fm.refl _ _, by simp [nv_replicate_zero, nv]⟩ ?_
  rintro p u ⟨h1, h2, hW, hF, hv⟩
  generalize hi : p.length - lx.length = i at *
  have hpl : p.length = lx.length + i := by omega
  rcases Nat.lt_or_ge i ly.length with hlt | hge
  · refine ⟨_, bLt (by omega), ?_⟩
    refine ⟨fun _ => ?_, fun hc => (by cases hc)⟩
    refine rnA (ia se_54 _ hlt) ?_
    refine rnC na_101 ((ry1.fm hF ny).cell hlt) ?_
    have hyd := ry1.wf.dg i
    have etk := nv_take_succ hlt
    rcases Nat.eq_zero_or_pos (dg ly i) with h0 | h0
    · refine ⟨_, bNeF (by rw [h0]; rfl), ?_⟩
      refine ⟨fun hc => (by cases hc), fun _ => ?_⟩
      refine ⟨_, nAdd i 1 (by omega), ?_⟩
      have hl1 : (p ++ [0]).length - lx.length = i + 1 := by simp; omega
      refine ⟨p ++ [0], ⟨⟨rfl, rfl, rfl, rfl, ?_, trivial⟩, rfl⟩, ⟨by simp; omega, by simp; omega, ?_, hF, ?_⟩, by simp; omega⟩
      · show some (Value.int .i64 ((i + 1 : Nat) : Int)) = some (Value.int .i64 (((p ++ [0]).length - lx.length : Nat) : Int))
        rw [hl1]
      · rw [splice_same (by omega) (hz0 _ (by omega))]; exact hW
      · rw [hl1, nv_append, etk, h0, hv]; simp [nv]
    · refine ⟨_, bNe (by omega), ?_⟩
      refine ⟨fun _ => ?_, fun hc => (by cases hc)⟩
      refine ⟨.take 0 (.take 1 (.take 2 (.take 3 (.take 4 (.take 5 (.take 6 (.take 7 (.take 8 (.take 9 (.take 10 (.take 11 (.take 12 (.take 13 (.take 14 (.take 15 (.take 16 (.take 17 (.take 18 (.take 19 (.take 20 (.one 21 [4, 3, 2, 1, 0] (.take 22 (.one 23 [] (.done)))))))))))))))))))))))), by kernel_rfl, ?_⟩
      refine ⟨_, fun w' => ln se_54 _ _ _ _ _ w', ?_⟩
      refine ⟨_, nAdd lx.length i (by omega), ?_⟩
      refine ⟨_, fun w' => ln se_54 _ _ _ _ _ w', ?_⟩
      refine ⟨_, nAdd i lx.length (by omega), ?_⟩
      refine tkA (sl se_54 _ _ (by omega) (by omega)) ?_
      refine ⟨_, fun w' => ln se_54 _ _ _ _ _ w', ?_⟩
      refine ⟨_, nAdd i lx.length (by omega), ?_⟩
      refine tkA (sl se_54 _ _ (by omega) (by omega)) ?_
      rw [subA_some (by omega), Nat.add_sub_cancel_left]
      have rz0 := rd_spliced hW (by omega)
      have rz := rz0.sub i lx.length (by omega)
      have hdr : (p.drop i).take lx.length = p.drop i := List.take_of_length_le (by rw [List.length_drop]; omega)
      rw [hdr] at rz
      have hdl : (p.drop i).length = lx.length := by rw [List.length_drop]; omega
      have hlen : (splice Z0 0 p).length = Z.length := by rw [splice_len (by omega)]; exact hZ0l
      have ca := addMulVVWW_c (cz := Z.length - i) (cx := Z.length - i) (cy := cx) (m := dg ly i) (a := 0) hW.drew rz.drew (rx1.fm hF nx).drew (by rw [hdl]) hyd BW_pos (oz := 0 + i) (by rw [hdl, hlen]; omega) (fun _ => .inl (Nat.le_refl _)) (fun e => absurd e nx) (by omega)
      rw [hdl] at ca
      refine ca.mono ?_
      rintro v w2 ⟨zs, c, rfl, hc, hzl, hW2, hv2, hF2, hs2⟩
      refine ⟨trivial, ?_⟩
      refine tkA (ia se_54 _ (by omega)) ?_
      rw [Nat.zero_add] at hW2
      rw [splice_over (by omega) (by omega)] at hW2
      have hql : (p.take i ++ zs).length = lx.length + i := by rw [List.length_append, List.length_take]; omega
      obtain ⟨w3, e3, hW3, hF3, hs3⟩ := hW2.st (i := 0 + (lx.length + i)) (by rw [splice_len (by omega)]; omega) hc
      refine ⟨w3, e3, ?_⟩
      have es := splice_snoc (Z := Z0) (o := 0) (l := p.take i ++ zs) (by omega) c
      rw [hql] at es
      rw [es] at hW3
      refine ⟨trivial, ?_⟩
      refine ⟨_, nAdd i 1 (by omega), ?_⟩
      have hll : (p.take i ++ zs ++ [c]).length - lx.length = i + 1 := by rw [List.length_append, hql]; simp; omega
      refine ⟨p.take i ++ zs ++ [c], ⟨⟨rfl, rfl, rfl, rfl, ?_, trivial⟩, rfl⟩, ⟨by rw [List.length_append, hql]; simp; omega, by rw [List.length_append, hql]; simp; omega, hW3, hF.trans (hF2.drew'.trans hF3 (fun _ _ h => h)) (fun _ _ h => h), ?_⟩, by rw [List.length_append, hql]; simp; omega⟩
      · show some (Value.int .i64 ((i + 1 : Nat) : Int)) = some (Value.int .i64 (((p.take i ++ zs ++ [c]).length - lx.length : Nat) : Int))
        rw [hll]
      · rw [hll, etk, nv_append, nv_append, hql]
        have e5 := nv_split p i
        rw [Nat.min_eq_left (by omega)] at e5
        rw [List.length_take, Nat.min_eq_left (by omega)]
        simp only [nv, Nat.mul_zero, Nat.add_zero]
        have e6 : BW ^ i * (nv zs + BW ^ lx.length * c) = BW ^ i * (nv (p.drop i) + nv lx * dg ly i + 0) := by rw [hv2]
        have e7 : BW ^ (lx.length + i) = BW ^ i * BW ^ lx.length := by rw [Nat.add_comm, Nat.pow_add]
        rw [e7, Nat.mul_add, ← hv, e5]
        have e8 : nv lx * (BW ^ i * dg ly i) = BW ^ i * (nv lx * dg ly i) := by rw [← Nat.mul_assoc, Nat.mul_comm (nv lx), Nat.mul_assoc]
        rw [e8]
        simp only [Nat.mul_add, ← Nat.mul_assoc, Nat.add_zero] at e6 ⊢
        omega
  · have hie : i = ly.length := by omega
    refine ⟨_, bLtF (by omega), ?_⟩
    refine ⟨fun hc => (by cases hc), fun _ => ?_⟩
    refine ⟨rfl, ?_⟩
    refine ⟨p, by omega, ?_, ?_, hF1.trans hF (fun _ _ h => h)⟩
    · rw [← hsp p (by omega)]; exact hW
    · rw [hie, List.take_length] at hv; exact hv

end Go.Vc
end

section
/- nat.mul and nat.sqr, where the shorter one is short. -/
set_option linter.unusedSimpArgs false
set_option linter.unusedVariables false
set_option maxRecDepth 8000
namespace Go.Vc
open Go.Proofs

theorem Res.weak {w w' : World} {d d' : Option Nat} {v : Value} {x : Nat} (h : Res w w' d' v x) (e : d' = d ∨ d' = none) : Res w w' d v x := by
  rcases e with rfl | rfl
  · exact h
  · obtain ⟨d2, l, h1, h2, h3, h4, h5⟩ := h
    refine ⟨d2, l, h1, h2, h3, ?_, h5.mono (fun b _ h => by cases h)⟩
    rcases h4 with h | h | h
    · exact .inl h
    · exact .inl h
    · exact .inr (.inr h)

theorem Res.drew {w w' : World} {d : Option Nat} {v : Value} {x : Nat} (h : Res w.drew w' d v x) : Res w w' d v x := by
  obtain ⟨d2, l, h1, h2, h3, h4, h5⟩ := h
  exact ⟨d2, l, h1, h2, h3, h4, h5.drew'⟩

theorem Res.fm0 {w w1 w' : World} {d : Option Nat} {v : Value} {x : Nat} (h : Res w1 w' d v x) (f : Fm (fun _ => False) w w1) : Res w w' d v x := by
  obtain ⟨d2, l, h1, h2, h3, h4, h5⟩ := h
  refine ⟨d2, l, h1, h2, h3, ?_, (f.mono (S2 := fun b => d = some b) (fun _ _ h => h.elim)).trans h5 (fun _ _ h => h)⟩
  rcases h4 with h | h | ⟨b, h, h6, h7⟩
  · exact .inl h
  · exact .inr (.inl h)
  · exact .inr (.inr ⟨b, h, Nat.le_trans f.size h6, h7⟩)

theorem mul_ge {w : World} {z x y sk : Value} {d dx dy : Option Nat} {l0 lx ly : List Nat} (hg : Gl w) (hz : Own w z d l0) (hx : Own w x dx lx) (hy : Own w y dy ly) (hge : ly.length ≤ lx.length) (h40 : ly.length < 40) (hn : lx.length ≤ 400) :
    CallX P 99 #[z, sk, x, y] w fun v w' => Res w w' d v (nv lx * nv ly) := by
  obtain ⟨ax, cx, hxe, hcx, hcx2, hsx⟩ := hx.val
  obtain ⟨ay, cy, hye, hcy, hcy2, hsy⟩ := hy.val
  refine calls_vc mo fn_99 rfl ok_99 (Nat.le_of_ble_eq_true rfl) nm_99 ?_
  rw [hxe, hye]
  refine ⟨_, _, ln se_54 _ _ _ _ _ _, ?_⟩
  refine ⟨_, _, ln se_54 _ _ _ _ _ _, ?_⟩
  refine ⟨_, bLtF (by omega), ?_⟩
  refine ⟨fun hc => (by cases hc), fun _ => ?_⟩
  have nil : ∀ l : List Nat, l.length = 0 → l = [] := fun l h => List.eq_nil_of_length_eq_zero h
  rcases Nat.eq_zero_or_pos lx.length with h0 | hlx
  · refine ⟨_, bEq (by omega), ?_⟩
    refine ⟨fun _ => ?_, fun hc => (by cases hc)⟩
    obtain ⟨a, c, n, rfl, hr⟩ := zero_res hz
    refine rnA (slHi (hi := 0) se_54 _ (Nat.zero_le _)) ?_
    refine ⟨rfl, ?_⟩
    show Res w w d _ _
    rw [nil lx h0]; simpa [nv, tupV] using hr
  refine ⟨_, bEqF (by omega), ?_⟩
  rcases Nat.eq_zero_or_pos ly.length with h0 | hly
  · refine ⟨_, bEq (by omega), ?_⟩
    refine ⟨fun _ => ?_, fun hc => (by cases hc)⟩
    obtain ⟨a, c, n, rfl, hr⟩ := zero_res hz
    refine rnA (slHi (hi := 0) se_54 _ (Nat.zero_le _)) ?_
    refine ⟨rfl, ?_⟩
    show Res w w d _ _
    rw [nil ly h0]; simpa [nv, tupV] using hr
  refine ⟨_, bEqF (by omega), ?_⟩
  refine ⟨fun hc => (by cases hc), fun _ => ?_⟩
  have ex : lx ≠ [] := by intro e; rw [e] at hlx; simp at hlx
  have ey : ly ≠ [] := by intro e; rw [e] at hly; simp at hly
  obtain ⟨bx, cx', rfl, hxe', rx, _, _⟩ := hx.rd ex
  obtain ⟨by_, cy', rfl, hye', ry, _, _⟩ := hy.rd ey
  rw [hxe] at hxe'; cases hxe'
  rw [hye] at hye'; cases hye'
  rcases Nat.lt_or_ge ly.length 2 with h1 | h2
  · refine ⟨_, bEq (by omega), ?_⟩
    refine ⟨fun _ => ?_, fun hc => (by cases hc)⟩
    refine rnA (ia (i := 0) se_54 _ (by omega)) ?_
    refine rnC na_101 (ry.cell (by omega)) ?_
    rw [← hxe]
    refine (mulAddWW_c hz hx (by omega) (ry.wf.dg 0) BW_pos).mono ?_
    rintro v w1 h
    refine ⟨rfl, ?_⟩
    show Res w w1 d v _
    have : nv ly = dg ly 0 := by
      have := nv_take_succ (l := ly) (i := 0) (by omega)
      rw [show ly.take (0 + 1) = ly from List.take_of_length_le (by omega)] at this
      rw [this]; simp [nv]
    rw [this]; simpa using h
  refine ⟨_, bEqF (by omega), ?_⟩
  refine ⟨fun hc => (by cases hc), fun _ => ?_⟩
  rw [← hxe, ← hye]
  refine vcut (by repeat (first | exact moE _ _ _ | exact moEd _ _ _ | apply moB | apply moL | apply moV)) (Value × Option Nat × List Nat) (fun p => ⟨[(0, p.1), (1, sk), (2, x), (3, y), (9, .int .i64 (lx.length : Int)), (10, .int .i64 (ly.length : Int))], []⟩)
    (fun p u => Own u p.1 p.2.1 p.2.2 ∧ (p.2.1 = d ∨ p.2.1 = none) ∧ p.2.1 ≠ some bx ∧ p.2.1 ≠ some by_ ∧ Fm (fun _ => False) w u) ?_ ?_
  · refine (alias_c hz hx).mono ?_
    rintro v w1 ⟨rfl, t, rfl, ht1, ht2⟩
    cases t with
    | true =>
      refine ⟨fun _ => ?_, fun hc => (by cases hc)⟩
      exact ⟨(.slice none 0 0, none, []), ⟨⟨rfl, rfl, rfl, rfl, rfl, rfl, trivial⟩, rfl⟩, Own.nil _, .inr rfl, by simp, by simp, Fm.drew _ _⟩
    | false =>
      refine (alias_c hz.drew hy.drew).mono ?_
      rintro v w1 ⟨rfl, t, rfl, ht3, ht4⟩
      cases t with
      | true =>
        refine ⟨fun _ => ?_, fun hc => (by cases hc)⟩
        exact ⟨(.slice none 0 0, none, []), ⟨⟨rfl, rfl, rfl, rfl, rfl, rfl, trivial⟩, rfl⟩, Own.nil _, .inr rfl, by simp, by simp, (Fm.drew _ _).dr⟩
      | false =>
        refine ⟨fun hc => (by cases hc), fun _ => ?_⟩
        exact ⟨(z, d, l0), ⟨⟨rfl, rfl, rfl, rfl, rfl, rfl, trivial⟩, rfl⟩, hz.drew.drew, .inl rfl, fun e => ex (ht2 rfl e), fun e => ey (ht4 rfl e), (Fm.drew _ _).dr⟩
  rintro ⟨z', d', l'⟩ u ⟨hz', hd', hdx, hdy, hf⟩
  dsimp only at hz' hd' hdx hdy ⊢
  refine ⟨_, nAdd lx.length ly.length (by omega), ?_⟩
  refine (make_c hz' (n := lx.length + ly.length) (by omega) (by omega)).mono ?_
  rintro v w1 ⟨b, full, hm⟩
  have hv := hm.v
  subst hv
  have hfn := hm.nl
  have nbx : bx ≠ b := by
    rcases hm.nd with h | h
    · intro e; subst e; exact hdx h
    · have := rx.lt; have := hf.size; omega
  have nby : by_ ≠ b := by
    rcases hm.nd with h | h
    · intro e; subst e; exact hdy h
    · have := ry.lt; have := hf.size; omega
  have hg1 := (hg.fm0 hf).fm0 hm.fm
  refine rnL na_3 hg1.k rfl ?_
  refine ⟨_, bLt (by omega), ?_⟩
  refine ⟨fun _ => ?_, fun hc => (by cases hc)⟩
  rw [hxe, hye]
  refine (basicMul_c (cx := cx) (cy := cy) hm.wd ((rx.fm0 hf).fm0 hm.fm) ((ry.fm0 hf).fm0 hm.fm) nbx nby hm.nl (by have := hm.c; omega) (lx.length + ly.length) (Nat.le_refl _) hm.nl hlx).mono ?_
  rintro v w2 ⟨zs, hzl, hW2, hv2, hF2⟩
  have hsl : (splice full 0 zs).length = full.length := splice_len (by omega)
  have cn := norm_res (w := u) (d := d') (n := lx.length + ly.length) (x := nv lx * nv ly) hW2 (by rw [hsl]; omega) (by rw [hsl]; exact hm.c) (hm.fd hF2) hm.nd (by
    rw [← hzl, take_splice_all (by omega)]; exact hv2)
  rw [hsl] at cn
  refine cn.mono ?_
  rintro v w5 h
  exact ⟨rfl, (h.fm0 hf).weak hd'⟩

theorem mul_c {w : World} {z x y sk : Value} {d dx dy : Option Nat} {l0 lx ly : List Nat} (hg : Gl w) (hz : Own w z d l0) (hx : Own w x dx lx) (hy : Own w y dy ly) (hn : lx.length < 40) (hn2 : ly.length < 40) :
    CallX P 99 #[z, sk, x, y] w fun v w' => Res w w' d v (nv lx * nv ly) := by
  rcases Nat.lt_or_ge lx.length ly.length with h | h
  · obtain ⟨ax, cx, hxe, hcx, hcx2, hsx⟩ := hx.val
    obtain ⟨ay, cy, hye, hcy, hcy2, hsy⟩ := hy.val
    refine calls_vc mo fn_99 rfl ok_99 (Nat.le_of_ble_eq_true rfl) nm_99 ?_
    rw [hxe, hye]
    refine ⟨_, _, ln se_54 _ _ _ _ _ _, ?_⟩
    refine ⟨_, _, ln se_54 _ _ _ _ _ _, ?_⟩
    refine ⟨_, bLt (by omega), ?_⟩
    refine ⟨fun _ => ?_, fun hc => (by cases hc)⟩
    rw [← hxe, ← hye]
    refine (mul_ge hg hz hy hx (by omega) hn (by omega)).mono ?_
    rintro v w1 h
    refine ⟨rfl, ?_⟩
    rw [Nat.mul_comm]; exact h
  · exact mul_ge hg hz hx hy h hn2 (by omega)

theorem sqr_c {w : World} {z x sk : Value} {d dx : Option Nat} {l0 lx : List Nat} (hg : Gl w) (hz : Own w z d l0) (hx : Own w x dx lx) (hn : lx.length < 12) :
    CallX P 98 #[z, sk, x] w fun v w' => Res w w' d v (nv lx * nv lx) := by
  obtain ⟨ax, cx, hxe, hcx, hcx2, hsx⟩ := hx.val
  refine calls_vc mo fn_98 rfl ok_98 (Nat.le_of_ble_eq_true rfl) nm_98 ?_
  rw [hxe]
  refine ⟨_, _, ln se_54 _ _ _ _ _ _, ?_⟩
  rcases Nat.eq_zero_or_pos lx.length with h0 | hlx
  · refine ⟨_, bEq (by omega), ?_⟩
    refine ⟨fun _ => ?_, fun hc => (by cases hc)⟩
    obtain ⟨a, c, n, rfl, hr⟩ := zero_res hz
    refine rnA (slHi (hi := 0) se_54 _ (Nat.zero_le _)) ?_
    refine ⟨rfl, ?_⟩
    show Res w w d _ _
    rw [List.eq_nil_of_length_eq_zero h0]; simpa [nv, tupV] using hr
  refine ⟨_, bEqF (by omega), ?_⟩
  refine ⟨fun hc => (by cases hc), fun _ => ?_⟩
  have ex : lx ≠ [] := by intro e; rw [e] at hlx; simp at hlx
  obtain ⟨bx, cx', rfl, hxe', rx, _, _⟩ := hx.rd ex
  rw [hxe] at hxe'; cases hxe'
  rcases Nat.lt_or_ge lx.length 2 with h1 | h2
  · refine ⟨_, bEq (by omega), ?_⟩
    refine ⟨fun _ => ?_, fun hc => (by cases hc)⟩
    refine rnA (ia (i := 0) se_54 _ (by omega)) ?_
    refine rnC na_101 (rx.cell (by omega)) ?_
    refine (make_c hz (n := 2) (by omega) (by omega)).mono ?_
    rintro v w1 ⟨b, full, hm⟩
    have hv := hm.v
    subst hv
    have hfn := hm.nl
    refine (mulWW_c (rx.wf.dg 0) (rx.wf.dg 0) w1).mono ?_
    rintro v w2 ⟨rfl, hi, lo, rfl, b1, b2, e⟩
    refine rnA (ia (i := 1) se_54 _ (by omega)) ?_
    obtain ⟨w3, e3, hW3, hF3, hs3⟩ := hm.wd.st (i := 0 + 1) (by omega) b1
    refine ⟨w3, e3, ?_⟩
    refine rnA (ia (i := 0) se_54 _ (by omega)) ?_
    obtain ⟨w4, e4, hW4, hF4, hs4⟩ := hW3.st (i := 0 + 0) (by rw [List.length_set]; omega) b2
    refine ⟨w4, e4, ?_⟩
    have hsl : ((full.set (0 + 1) hi).set (0 + 0) lo).length = full.length := by simp
    have hnv : nv lx = dg lx 0 := by
      have := nv_take_succ (l := lx) (i := 0) (by omega)
      rw [show lx.take (0 + 1) = lx from List.take_of_length_le (by omega)] at this
      rw [this]; simp [nv]
    have cn := norm_res (w := w) (d := d) (n := 2) (x := nv lx * nv lx) hW4 (by rw [hsl]; omega) (by rw [hsl]; exact hm.c) (hm.fd (hF3.trans hF4 (fun _ _ h => h))) hm.nd (by
      have : ((full.set (0 + 1) hi).set (0 + 0) lo).take 2 = [lo, hi] := by
        match full, hfn with
        | [], h => simp at h
        | [p], h => simp at h
        | p :: q :: r, _ => simp
      rw [this, hnv]; simp only [nv, Nat.mul_zero, Nat.add_zero]; exact e)
    rw [hsl] at cn
    refine cn.mono ?_
    rintro v w5 h
    exact ⟨rfl, h⟩
  refine ⟨_, bEqF (by omega), ?_⟩
  refine ⟨fun hc => (by cases hc), fun _ => ?_⟩
  rw [← hxe]
  refine vcut (by repeat (first | exact moE _ _ _ | exact moEd _ _ _ | apply moB | apply moL | apply moV)) (Value × Option Nat × List Nat) (fun p => ⟨[(0, p.1), (1, sk), (2, x), (7, .int .i64 (lx.length : Int))], []⟩)
    (fun p u => Own u p.1 p.2.1 p.2.2 ∧ (p.2.1 = d ∨ p.2.1 = none) ∧ p.2.1 ≠ some bx ∧ Fm (fun _ => False) w u) ?_ ?_
  · refine (alias_c hz hx).mono ?_
    rintro v w1 ⟨rfl, t, rfl, ht1, ht2⟩
    cases t with
    | true =>
      refine ⟨fun _ => ?_, fun hc => (by cases hc)⟩
      exact ⟨(.slice none 0 0, none, []), ⟨⟨rfl, rfl, rfl, rfl, trivial⟩, rfl⟩, Own.nil _, .inr rfl, by simp, Fm.drew _ _⟩
    | false =>
      refine ⟨fun hc => (by cases hc), fun _ => ?_⟩
      exact ⟨(z, d, l0), ⟨⟨rfl, rfl, rfl, rfl, trivial⟩, rfl⟩, hz.drew, .inl rfl, fun e => ex (ht2 rfl e), Fm.drew _ _⟩
  rintro ⟨z', d', l'⟩ u ⟨hz', hd', hdx, hf⟩
  dsimp only at hz' hd' hdx ⊢
  refine ⟨_, nMul 2 lx.length (by omega), ?_⟩
  refine (make_c hz' (n := 2 * lx.length) (by omega) (by omega)).mono ?_
  rintro v w1 ⟨b, full, hm⟩
  have hv := hm.v
  subst hv
  have hfn := hm.nl
  have nbx : bx ≠ b := by
    rcases hm.nd with h | h
    · intro e; subst e; exact hdx h
    · have := rx.lt; have := hf.size; omega
  have hg1 := (hg.fm0 hf).fm0 hm.fm
  refine rnL na_3 hg1.s rfl ?_
  refine ⟨_, bLt (by omega), ?_⟩
  refine rnL na_3 hg1.q rfl ?_
  refine ⟨_, bLt (by omega), ?_⟩
  refine ⟨fun _ => ?_, fun hc => (by cases hc)⟩
  rw [hxe]
  refine (basicMul_c (cx := cx) (cy := cx) hm.wd ((rx.fm0 hf).fm0 hm.fm) ((rx.fm0 hf).fm0 hm.fm) nbx nbx (by omega) (by have := hm.c; omega) (2 * lx.length) (by omega) hm.nl hlx).mono ?_
  rintro v w2 ⟨zs, hzl, hW2, hv2, hF2⟩
  have hsl : (splice full 0 zs).length = full.length := splice_len (by omega)
  have cn := norm_res (w := u) (d := d') (n := 2 * lx.length) (x := nv lx * nv lx) hW2 (by rw [hsl]; omega) (by rw [hsl]; exact hm.c) (hm.fd hF2) hm.nd (by
    rw [show 2 * lx.length = zs.length by omega, take_splice_all (by omega)]; exact hv2)
  rw [hsl] at cn
  refine cn.mono ?_
  rintro v w5 h
  exact ⟨rfl, (h.fm0 hf).weak hd'⟩

end Go.Vc
end

section
/- nat.lsh, nat.rsh. -/
set_option linter.unusedSimpArgs false
set_option linter.unusedVariables false
set_option maxRecDepth 8000
namespace Go.Vc
open Go.Proofs

theorem splice_under {Z p r : List Nat} (h : p.length + r.length ≤ Z.length) : splice (splice Z p.length r) 0 p = splice Z 0 (p ++ r) := by
  have h1 : (splice Z p.length r).length = Z.length := splice_len h
  have h2 : (p ++ r).length = p.length + r.length := List.length_append
  apply list_ext_dg (by rw [splice_len (by omega), h1, splice_len (by omega)])
  intro j hj
  rw [splice_len (by omega), h1] at hj
  rcases Nat.lt_or_ge j p.length with h3 | h3
  · have a := dg_splice_in (Z := splice Z p.length r) (o := 0) (l := p) (by omega) (i := j) h3
    have b := dg_splice_in (Z := Z) (o := 0) (l := p ++ r) (by omega) (i := j) (by omega)
    rw [Nat.zero_add] at a b
    rw [a, b, dg_append_left h3]
  · rw [dg_splice_high (by omega) (by omega)]
    rcases Nat.lt_or_ge j (p.length + r.length) with h4 | h4
    · have a := dg_splice_in (Z := Z) (o := p.length) (l := r) h (i := j - p.length) (by omega)
      have b := dg_splice_in (Z := Z) (o := 0) (l := p ++ r) (by omega) (i := j) (by omega)
      rw [show p.length + (j - p.length) = j by omega] at a
      rw [Nat.zero_add] at b
      rw [a, b, dg_append_right h3]
    · rw [dg_splice_high h h4, dg_splice_high (by omega) (by omega)]

theorem lsh_c {w : World} {z x : Value} {d dx : Option Nat} {l0 lx : List Nat} (hz : Own w z d l0) (hx : Own w x dx lx) (hn : lx.length ≤ 400) {s : Nat} (hs : 0 < s) (hs2 : s ≤ 6400) :
    CallX P 151 #[z, x, vw s] w fun v w' => Res w w' d v (nv lx * 2 ^ s) := by
  obtain ⟨ax, cx, hxe, hcx, hcx2, hsx⟩ := hx.val
  refine calls_vc mo fn_151 rfl ok_151 (Nat.le_of_ble_eq_true rfl) nm_151 ?_
  refine ⟨_, bEqF (by omega), ?_⟩
  refine ⟨fun hc => (by cases hc), fun _ => ?_⟩
  rw [hxe]
  refine ⟨_, _, ln se_54 _ _ _ _ _ _, ?_⟩
  rcases Classical.em (lx = []) with e | e
  · subst e
    refine ⟨_, bEq rfl, ?_⟩
    refine ⟨fun _ => ?_, fun hc => (by cases hc)⟩
    obtain ⟨a, c, n, rfl, hr⟩ := zero_res hz
    refine rnA (slHi (hi := 0) se_54 _ (Nat.zero_le _)) ?_
    refine ⟨rfl, ?_⟩
    show Res w w d _ _
    simpa [nv, tupV] using hr
  have hlx : 0 < lx.length := List.length_pos_iff.2 e
  refine ⟨_, bEqF (by omega), ?_⟩
  refine ⟨fun hc => (by cases hc), fun _ => ?_⟩
  have hk : s / 64 ≤ 100 := by omega
  have hr64 : s % 64 < 64 := Nat.mod_lt _ (by omega)
  have hpow : 2 ^ s = BW ^ (s / 64) * 2 ^ (s % 64) := by
    rw [BW_two, ← Nat.pow_mul, ← Nat.pow_add]
    congr 1; omega
  refine ⟨_, wQuo s 64 (by omega) (by omega), ?_⟩
  refine rnA (cv cv_60_3 (wrap64_in (by omega))) ?_
  refine ⟨_, nAdd lx.length (s / 64) (by omega), ?_⟩
  refine ⟨_, nAdd (lx.length + s / 64) 1 (by omega), ?_⟩
  obtain ⟨bx, cx', rfl, hxe', rx, _, _⟩ := hx.rd e
  rw [hxe] at hxe'; cases hxe'
  refine (make_c hz (n := lx.length + s / 64 + 1) (by omega) (by omega)).mono ?_
  rintro v w1 ⟨b, full, hm⟩
  have hv := hm.v
  subst hv
  have hfn := hm.nl
  refine ⟨_, wRem s 64 (by omega), ?_⟩
  generalize hkk : s / 64 = k at *
  generalize hrr : s % 64 = r at *
  (repeat refine vcl_v _ rfl rfl ?_); (refine vcl_end ?_)
  refine vcuts (by repeat (first | exact moE _ _ _ | exact moEd _ _ _ | apply moB | apply moL | apply moV)) (List Nat) (fun l => ⟨[(0, .slice (some ⟨b, 0, none⟩) (lx.length + k + 1) full.length), (7, .int .i64 (lx.length : Int)), (8, .int .i64 ((lx.length + k : Nat) : Int))], []⟩)
    (fun l u => l.length = lx.length + 1 ∧ Wd u b (splice full k l) ∧ Fm (· = b) w1 u ∧ nv l = nv lx * 2 ^ r) ?_ ?_
  · rcases Nat.eq_zero_or_pos r with hr0 | hrp
    · subst hr0
      refine ⟨_, bEq rfl, ?_⟩
      refine ⟨fun _ => ?_, fun hc => (by cases hc)⟩
      refine ⟨_, nSub (lx.length + k) lx.length (by omega) (by omega), ?_⟩
      rw [Nat.add_sub_cancel_left]
      refine rnA (sl se_54 _ _ (by omega) (by omega)) ?_
      rw [subA_some (by omega)]
      obtain ⟨w2, e2, hW2, hF2, hs2'⟩ := cpy se_54 (oz := 0 + k) (dn := lx.length + k - k) (sn := lx.length) (dc := full.length - k) (sc := cx) hm.wd (rx.fm0 hm.fm) (by omega) (by omega) _ _ _
      refine ⟨_, w2, e2, ?_⟩
      refine rnA (ia se_54 _ (by omega)) ?_
      rw [Nat.zero_add] at hW2
      obtain ⟨w3, e3, hW3, hF3, hs3⟩ := hW2.st (i := 0 + (lx.length + k)) (by rw [splice_len (by omega)]; omega) BW_pos
      refine ⟨w3, e3, ?_⟩
      rw [show 0 + (lx.length + k) = k + lx.length by omega, splice_snoc (by omega)] at hW3
      refine ⟨lx ++ [0], ⟨⟨rfl, rfl, rfl, trivial⟩, rfl⟩, by simp, hW3, hF2.trans hF3 (fun _ _ h => h), ?_⟩
      rw [nv_append]; simp [nv]
    · refine ⟨_, bEqF (by omega), ?_⟩
      refine ⟨fun hc => (by cases hc), fun _ => ?_⟩
      refine ⟨_, nSub (lx.length + k) lx.length (by omega) (by omega), ?_⟩
      rw [Nat.add_sub_cancel_left]
      refine rnA (sl se_54 _ _ (by omega) (by omega)) ?_
      rw [subA_some (by omega), Nat.add_sub_cancel]
      refine (lshVU_c (cz := full.length - k) (cx := cx) hm.wd (rx.fm0 hm.fm) hr64 hlx (oz := 0 + k) (by omega) (fun _ => .inl (Nat.zero_le _)) (by omega)).mono ?_
      rintro v w2 ⟨zs, c, rfl, hc, hzl, hW2, hv2, hF2, hs2'⟩
      rw [Nat.zero_add] at hW2
      refine rnA (ia se_54 _ (by omega)) ?_
      have hcB : c < BW := Nat.lt_of_lt_of_le hc (by rw [BW_two]; exact Nat.pow_le_pow_right (by omega) (by omega))
      obtain ⟨w3, e3, hW3, hF3, hs3⟩ := hW2.st (i := 0 + (lx.length + k)) (by rw [splice_len (by omega)]; omega) hcB
      refine ⟨w3, e3, ?_⟩
      have es := splice_snoc (Z := full) (o := k) (l := zs) (by omega) c
      rw [show 0 + (lx.length + k) = k + zs.length by omega, es] at hW3
      refine ⟨zs ++ [c], ⟨⟨rfl, rfl, rfl, trivial⟩, rfl⟩, by simp [hzl], hW3, hF2.trans hF3 (fun _ _ h => h), ?_⟩
      rw [nv_append, hzl]; simpa [nv] using hv2
  rintro l u ⟨hll, hW, hF, hvl⟩
  refine ⟨_, nSub (lx.length + k) lx.length (by omega) (by omega), ?_⟩
  rw [Nat.add_sub_cancel_left]
  refine rnA (sl (lo := 0) se_54 _ _ (Nat.zero_le _) (by omega)) ?_
  rw [subA_zero]
  obtain ⟨v, w4, e4, hW4, hF4, hs4⟩ := clr se_54 (by kernel_rfl) hW (oz := 0) (n := k - 0) (c := full.length - 0) (by rw [splice_len (by omega)]; omega) _ _
  refine ⟨v, w4, e4, ?_⟩
  rw [Nat.sub_zero] at hW4
  have hrl : (List.replicate k 0).length = k := List.length_replicate
  have eu := splice_under (Z := full) (p := List.replicate k 0) (r := l) (by omega)
  rw [hrl] at eu
  rw [eu] at hW4
  have hpl : (List.replicate k 0 ++ l).length = lx.length + k + 1 := by rw [List.length_append, hrl]; omega
  have hsl : (splice full 0 (List.replicate k 0 ++ l)).length = full.length := splice_len (by omega)
  have cn := norm_res (w := w) (d := d) (n := lx.length + k + 1) (x := nv lx * 2 ^ s) hW4 (by rw [hsl]; omega) (by rw [hsl]; exact hm.c) (hm.fd (hF.trans hF4 (fun _ _ h => h))) hm.nd (by
    rw [← hpl, take_splice_all (by omega), nv_append, nv_replicate_zero, hrl, hvl, hpow, Nat.zero_add, ← Nat.mul_assoc, ← Nat.mul_assoc, Nat.mul_comm (nv lx)])
  rw [hsl] at cn
  refine cn.mono ?_
  rintro v w5 h
  exact ⟨rfl, h⟩

theorem rsh_c {w : World} {z x : Value} {d dx : Option Nat} {l0 lx : List Nat} (hz : Own w z d l0) (hx : Own w x dx lx) (hn : lx.length ≤ 400) {s : Nat} (hs : 0 < s) (hs2 : s < 64) :
    CallX P 81 #[z, x, vw s] w fun v w' => Res w w' d v (nv lx / 2 ^ s) := by
  obtain ⟨ax, cx, hxe, hcx, hcx2, hsx⟩ := hx.val
  refine calls_vc mo fn_81 rfl ok_81 (Nat.le_of_ble_eq_true rfl) nm_81 ?_
  refine ⟨_, bEqF (by omega), ?_⟩
  refine ⟨fun hc => (by cases hc), fun _ => ?_⟩
  rw [hxe]
  refine ⟨_, _, ln se_54 _ _ _ _ _ _, ?_⟩
  have e64 : s / 64 = 0 := Nat.div_eq_of_lt hs2
  have m64 : s % 64 = s := Nat.mod_eq_of_lt hs2
  refine ⟨_, wQuo s 64 (by omega) (by omega), ?_⟩
  refine rnA (cv cv_60_3 (wrap64_in (by omega))) ?_
  rw [e64]
  refine ⟨_, nSub lx.length 0 (by omega) (by omega), ?_⟩
  rw [Nat.sub_zero]
  rcases Classical.em (lx = []) with e | e
  · subst e
    refine ⟨_, bLe (by simp), ?_⟩
    refine ⟨fun _ => ?_, fun hc => (by cases hc)⟩
    obtain ⟨a, c, n, rfl, hr⟩ := zero_res hz
    refine rnA (slHi (hi := 0) se_54 _ (Nat.zero_le _)) ?_
    refine ⟨rfl, ?_⟩
    show Res w w d _ _
    simpa [nv, tupV] using hr
  have hlx : 0 < lx.length := List.length_pos_iff.2 e
  refine ⟨_, bLeF (by omega), ?_⟩
  refine ⟨fun hc => (by cases hc), fun _ => ?_⟩
  obtain ⟨bx, cx', rfl, hxe', rx, _, _⟩ := hx.rd e
  rw [hxe] at hxe'; cases hxe'
  refine (make_c hz (n := lx.length) (by omega) (by omega)).mono ?_
  rintro v w1 ⟨b, full, hm⟩
  have hv := hm.v
  subst hv
  have hfn := hm.nl
  refine ⟨_, wRem s 64 (by omega), ?_⟩
  rw [m64]
  refine ⟨_, bEqF (by omega), ?_⟩
  refine ⟨fun hc => (by cases hc), fun _ => ?_⟩
  refine ⟨_, nSub lx.length lx.length (by omega) (by omega), ?_⟩
  rw [Nat.sub_self]
  refine rnA (slLo (lo := 0) se_54 _ (Nat.zero_le _)) ?_
  rw [subA_zero]
  refine (rshVU_c (cz := full.length) (cx := cx) hm.wd (rx.fm0 hm.fm) hs2 hlx (oz := 0) (by omega) (fun _ => .inl (Nat.zero_le _)) (by omega)).mono ?_
  rintro v w2 ⟨zs, c, rfl, hzl, hW2, hv2, hF2, hs2⟩
  have hsl : (splice full 0 zs).length = full.length := splice_len (by omega)
  have cn := norm_res (w := w) (d := d) (n := lx.length) (x := nv lx / 2 ^ s) hW2 (by rw [hsl]; omega) (by rw [hsl]; exact hm.c) (hm.fd hF2) hm.nd (by
    rw [← hzl, take_splice_all (by omega)]; exact hv2)
  rw [hsl] at cn
  refine cn.mono ?_
  rintro v w5 h
  exact ⟨rfl, h⟩

end Go.Vc
end
