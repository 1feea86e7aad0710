/- expNNMontgomery: the walk, as far as the numbers that are made ready. -/
import Derived.Test.YthahnloabllniaaGreatDoorM09
section
set_option linter.unusedSimpArgs false
set_option linter.unusedVariables false
set_option maxRecDepth 8000
set_option maxHeartbeats 2000000
namespace Go.Vc
open Go.Proofs

theorem uNeg {x : Nat} (hx : x < 18446744073709551616) (w : World) : (Op.unary .neg (.int .u64 (x : Int))).run P w = .ok (vw ((18446744073709551616 - x) % 18446744073709551616)) w := by
  have e : IntKind.u64.wrap (0 - (x : Int)) = (((18446744073709551616 - x) % 18446744073709551616 : Nat) : Int) := by
    rw [wrapU]; omega
  simp only [Op.unary, Op.intArith, pure, Sem.run, e]

theorem make_re {w : World} {b l c n : Nat} (h : n ≤ c) : CallX P 45 #[.slice (some ⟨b, 0, none⟩) l c, .int .i64 (n : Int)] w fun v w' => w = w' ∧ v = .slice (some ⟨b, 0, none⟩) n c := by
  refine calls_vc mo fn_45 rfl ok_45 (Nat.le_of_ble_eq_true rfl) nm_45 ?_
  refine ⟨_, _, cp se_54 _ _ _ _ _ _, ?_⟩
  refine ⟨_, bLe (by omega), ?_⟩
  refine ⟨fun _ => ?_, fun hc => (by cases hc)⟩
  refine rnA (slHi se_54 _ h) ?_
  exact ⟨rfl, rfl, rfl⟩

theorem nv_pad {n : Nat} {l : List Nat} (h : l.length ≤ n) : nv (splice (List.replicate n 0) 0 l) = nv l := by
  unfold splice
  rw [List.take_zero, List.nil_append, nv_append, Nat.zero_add, List.drop_replicate, nv_replicate_zero, Nat.mul_zero, Nat.add_zero]

theorem take_pad {fz lr : List Nat} {n : Nat} (h : fz.take n = List.replicate n 0) (hl : lr.length ≤ n) (hn : n ≤ fz.length) : (splice fz 0 lr).take n = splice (List.replicate n 0) 0 lr := by
  have l1 : (splice fz 0 lr).length = fz.length := splice_len (by omega)
  have l2 : (splice (List.replicate n 0) 0 lr).length = n := by rw [splice_len (by simp; omega), List.length_replicate]
  apply list_ext_dg (by rw [l2, List.length_take, l1]; omega)
  intro i hi
  rw [List.length_take, l1] at hi
  rw [dg_take (by omega)]
  rcases Nat.lt_or_ge i lr.length with h3 | h3
  · have a := dg_splice_in (Z := fz) (o := 0) (l := lr) (by omega) h3
    have b := dg_splice_in (Z := List.replicate n 0) (o := 0) (l := lr) (by simp; omega) h3
    rw [Nat.zero_add] at a b
    rw [a, b]
  · rw [dg_splice_high (by omega) (by omega), dg_splice_high (by simp; omega) (by omega), ← h, dg_take (by omega)]

theorem nv_eq_zero {l : List Nat} (h : nv l = 0) : ∀ i, dg l i = 0 := by
  induction l with
  | nil => intro i; exact dg_nil i
  | cons x r ih =>
    simp only [nv] at h
    have hx : x = 0 := by omega
    have h2 : BW * nv r = 0 := by omega
    have h3 : nv r = 0 := by
      rcases Nat.mul_eq_zero.1 h2 with e | e
      · exact absurd e (Nat.pos_iff_ne_zero.1 BW_pos)
      · exact e
    intro i
    cases i with
    | zero => simp [dg, hx]
    | succ j => have := ih h3 j; simpa [dg] using this

/-- A power of the base: below it all words are nothing. -/
theorem pow_take {l : List Nat} {m n : Nat} (hw : WF l) (h : nv l = BW ^ m) (hn : n ≤ m) (hl : n ≤ l.length) : l.take n = List.replicate n 0 := by
  have e := nv_split l n
  rw [Nat.min_eq_left hl] at e
  have h1 := nv_lt (hw.take n)
  rw [List.length_take, Nat.min_eq_left hl] at h1
  have h2 : BW ^ m = BW ^ n * BW ^ (m - n) := by rw [← Nat.pow_add]; congr 1; omega
  have h3 : nv (l.take n) = 0 := by
    have a : (nv (l.take n) + BW ^ n * nv (l.drop n)) % BW ^ n = 0 := by rw [← e, h, h2, Nat.mul_mod_right]
    rw [Nat.add_mul_mod_self_left, Nat.mod_eq_of_lt h1] at a
    exact a
  apply list_ext_dg (by rw [List.length_take, List.length_replicate, Nat.min_eq_left hl])
  intro i hi
  rw [nv_eq_zero h3 i]
  rw [List.length_take, Nat.min_eq_left hl] at hi
  rw [dg_replicate _ _ _ hi]

theorem bShl1 {j : Nat} (h : j < 6) : binV .shl .i64 .u64 ((2 ^ j : Nat) : Int) 1 = some (.int .i64 ((2 ^ (j + 1) : Nat) : Int)) := by
  have h : j = 0 ∨ j = 1 ∨ j = 2 ∨ j = 3 ∨ j = 4 ∨ j = 5 := by omega
  rcases h with rfl | rfl | rfl | rfl | rfl | rfl <;> rfl

/-- The stack's part of a state. -/
def SkAt (w u : World) (bs : Nat) (st st1 : Option Sk) : Prop := St u bs st1 ∧ lenOf st1 ≤ lenOf st ∧ (∀ b, inSt bs st1 b → inSt bs st b ∨ w.heap.size ≤ b) ∧ Fm (inSt bs st) w u

theorem SkAt.len {w u : World} {bs : Nat} {st st1 : Option Sk} (h : SkAt w u bs st st1) : lenOf st1 ≤ lenOf st := h.2.1

theorem lle {st st1 : Option Sk} (h : st1 = none ∨ lenOf st1 = lenOf st) : lenOf st1 ≤ lenOf st := by
  rcases h with e | e
  · rw [e]; exact Nat.zero_le _
  · omega

theorem SkAt.refl {w : World} {bs : Nat} {st : Option Sk} (h : St w bs st) : SkAt w w bs st st := ⟨h, Nat.le_refl _, fun _ h => .inl h, Fm.refl _ _⟩

/-- Only what is new has been written. -/
theorem SkAt.new {S : Nat → Prop} {w u u' : World} {bs : Nat} {st st1 : Option Sk} (h : SkAt w u bs st st1) (f : Fm S u u') (hS : ∀ b, b < u.heap.size → S b → w.heap.size ≤ b ∧ ¬ inSt bs st1 b) : SkAt w u' bs st st1 :=
  ⟨h.1.fm f (fun b hb hs => (hS b (by obtain ⟨cs, T, hc, _⟩ := inSt_cl h.1 hb; exact lt_of_obj hc) hs).2 hb), h.2.1, h.2.2.1, h.2.2.2.trans f (fun b hb hs => by
    have hsz := h.2.2.2.size
    have := (hS b (by omega) hs).1
    omega)⟩

theorem Own.cut {w : World} {a : Option Addr} {c m : Nat} {d : Option Nat} {l : List Nat} (h : Own w (.slice a l.length c) d l) (hm : m ≤ l.length) : Own w (.slice a m c) d (l.take m) := by
  rcases h.cases with ⟨rfl, e, rfl⟩ | ⟨b, full, rfl, e, h1, h2, h3, h4⟩
  · simp only [Value.slice.injEq] at e
    obtain ⟨rfl, _, rfl⟩ := e
    have : m = 0 := by simpa using hm
    subst this
    exact ⟨rfl, rfl⟩
  · simp only [Value.slice.injEq, true_and] at e
    obtain ⟨rfl, rfl⟩ := e
    have e2 : l.take m = full.take m := by
      rw [← h2, List.take_take, Nat.min_eq_left hm]
    rw [e2]
    exact Own.mk' h1 (by omega) ⟨h4.1, by omega⟩

theorem zpow : zeroOf 199 = some (.agg (List.replicate 16 (Value.slice none 0 0)).toArray) := by kernel_rfl
theorem cpow : (Value.agg (List.replicate 16 (Value.slice none 0 0)).toArray).cells = (List.replicate 16 (Value.slice none 0 0)).toArray := by rfl

/-- The table of powers, as far as i. -/
structure Pw (E M X n s pb : Nat) (u : World) (vals : List Value) (i : Nat) : Prop where
  cl : Cl u pb vals 199
  len : vals.length = 16
  done : ∀ j, j < i → ∃ b c rs, vals[j]? = some (.slice (some ⟨b, 0, none⟩) n c) ∧ Rd u b 0 rs ∧ rs.length = n ∧ Mf E M (nv rs) (X ^ j) ∧ s ≤ b
  rest : ∀ j, i ≤ j → j < 16 → vals[j]? = some (.slice none 0 0)

theorem Pw.fm {E M X n s pb : Nat} {u u' : World} {vals : List Value} {i : Nat} {S : Nat → Prop} (h : Pw E M X n s pb u vals i) (f : Fm S u u') (hp : ¬ S pb) (hS : ∀ b l, S b → b < u.heap.size → Wd u b l → b < s) : Pw E M X n s pb u' vals i := by
  refine ⟨f.obj h.cl hp, h.len, fun j hj => ?_, h.rest⟩
  obtain ⟨b, c, rs, h1, h2, h3, h4, h5⟩ := h.done j hj
  refine ⟨b, c, rs, h1, h2.fm f (fun hs => ?_), h3, h4, h5⟩
  obtain ⟨full, hw, _⟩ := h2.all
  have := hS b full hs h2.lt hw
  omega

theorem Pw.put {E M X n s pb : Nat} {u u' : World} {vals : List Value} {i : Nat} (h : Pw E M X n s pb u vals i) (hi : i < 16) {b c : Nat} {rs : List Nat} (hr : Rd u b 0 rs) (hl : rs.length = n) (hf : Mf E M (nv rs) (X ^ i)) (hs : s ≤ b)
    (hc : Cl u' pb (vals.set i (.slice (some ⟨b, 0, none⟩) n c)) 199) (f : Fm (· = pb) u u') : Pw E M X n s pb u' (vals.set i (.slice (some ⟨b, 0, none⟩) n c)) (i + 1) := by
  have nep : ∀ {b2 : Nat} {l : List Nat}, Rd u b2 0 l → b2 ≠ pb := fun hr e => by
    obtain ⟨full, hw, _⟩ := hr.all
    exact hw.cl.ne_T h.cl (by decide) e
  refine ⟨hc, by rw [List.length_set]; exact h.len, fun j hj => ?_, fun j h1 h2 => ?_⟩
  · rcases Nat.eq_or_lt_of_le (Nat.le_of_lt_succ hj) with e | e
    · subst e
      refine ⟨b, c, rs, ?_, hr.fm f (nep hr), hl, hf, hs⟩
      rw [List.getElem?_set_self (by rw [h.len]; exact hi)]
    · obtain ⟨b2, c2, rs2, h1, h2, h3, h4, h5⟩ := h.done j e
      refine ⟨b2, c2, rs2, ?_, h2.fm f (nep h2), h3, h4, h5⟩
      rw [List.getElem?_set_ne (by omega)]; exact h1
  · rw [List.getElem?_set_ne (by omega)]
    exact h.rest j (by omega) h2

theorem nrm_of_ge {l : List Nat} (hw : WF l) (h0 : l ≠ []) (h : BW ^ (l.length - 1) ≤ nv l) : Nrm l := by
  right
  intro e
  have h1 := nv_top h0
  rw [e, Nat.mul_zero, Nat.add_zero] at h1
  have h2 := nv_lt (hw.take (l.length - 1))
  rw [List.length_take, Nat.min_eq_left (by omega)] at h2
  omega

theorem ge_of_cmp {a b : Nat} : 0 ≤ cmpI a b ↔ b ≤ a := by
  unfold cmpI
  split
  · simp; omega
  · split <;> simp <;> omega

theorem expM_c {w : World} {bs : Nat} {st : Option Sk} (hst : St w bs st) (hsl : lenOf st ≤ 3700) (hg : Gl w) {z : Value} {d dx : Option Nat} {l0 lx ly lm : List Nat} (hz : Own w z d l0) {xv : Value} (hx : Own w xv dx lx) (nx : Nrm lx) (hxl : lx.length ≤ 400) {by_ cy bm cm n k : Nat} (hy : Rd w by_ 0 ly) (hm : Own w (.slice (some ⟨bm, 0, none⟩) n cm) (some bm) lm) (nm : Nrm lm) (hml : lm.length = n) (hnk : n = k + 2) (hn : n ≤ 39) (hodd : nv lm % 2 = 1) (hy0 : 0 < ly.length) (hyl : ly.length ≤ 100) (ax : dx ≠ some bm) (ad : ∀ b, d = some b → dx ≠ some b ∧ b ≠ by_ ∧ b ≠ bm) (s1 : ∀ b, inSt bs st b → d ≠ some b ∧ dx ≠ some b ∧ b ≠ by_ ∧ b ≠ bm) :
    CallX P 126 #[z, .pointer (some ⟨bs, 0, none⟩), xv, .slice (some ⟨by_, 0, none⟩) ly.length cy, .slice (some ⟨bm, 0, none⟩) n cm] w fun v w' =>
      ∃ d' l st', Own w' v d' l ∧ Nrm l ∧ nv l = nv lx ^ nv ly % nv lm ∧ Nd w w' d d' ∧ St w' bs st' ∧ Fm (fun b => d = some b ∨ inSt bs st b) w w' ∧ (∀ b, inSt bs st' b → (inSt bs st b ∨ w.heap.size ≤ b) ∧ d' ≠ some b) := by
  have hM0 : lm ≠ [] := by intro e; rw [e] at hml; simp at hml; omega
  have hMp := nv_pos nm hM0
  have hMB : nv lm < BW ^ n := by have := nv_lt hm.wf; rwa [hml] at this
  have hRmw : Rd w bm 0 lm := by
    obtain ⟨b', c', e1, e2, h, _, _⟩ := hm.rd hM0
    cases e1; exact h
  have hRm : ∀ {u : World} {st1 : Option Sk}, SkAt w u bs st st1 → Rd u bm 0 lm := fun h => hRmw.fm h.2.2.2 (fun hb => (s1 _ hb).2.2.2 rfl)
  refine calls_vc mo fn_126 rfl ok_126 (Nat.le_of_ble_eq_true rfl) nm_126 ?_
  refine ⟨_, _, ln se_54 _ _ _ _ _ _, ?_⟩
  (repeat refine vcl_v _ rfl rfl ?_); (refine vcl_end ?_)
  refine vcut (by repeat (first | exact moE _ _ _ | exact moEd _ _ _ | apply moB | apply moL | apply moV)) (Value) (fun x => ⟨(2, x) :: [(0, z), (1, .pointer (some ⟨bs, 0, none⟩)), (3, .slice (some ⟨by_, 0, none⟩) ly.length cy), (4, .slice (some ⟨bm, 0, none⟩) n cm), (11, .int .i64 (n : Int))], []⟩)
    (fun x u => ∃ d1 l1 st1, SkAt w u bs st st1 ∧ Own u x d1 l1 ∧ Nrm l1 ∧ l1.length ≤ n ∧ nv l1 % nv lm = nv lx % nv lm ∧ (d1 = dx ∨ ∀ b, d1 = some b → w.heap.size ≤ b) ∧ (∀ b, inSt bs st1 b → d1 ≠ some b)) ?_ ?_
  · obtain ⟨ax', cx', hxe, hxc, hxc2, hsx⟩ := hx.val
    rw [hxe]
    refine ⟨_, _, ln se_54 _ _ _ _ _ _, ?_⟩
    rcases Nat.lt_or_ge n lx.length with h | h
    · refine ⟨_, bGt (by omega), ?_⟩
      refine ⟨fun _ => ?_, fun hc => (by cases hc)⟩
      have hge : nv lm ≤ nv lx := Nat.le_of_lt (nv_lt_of_length hm.wf nx (by omega))
      rw [← hxe]
      have cd := div_s hg hst (by omega) (Own.nil w) (Own.nil w) hx hm nx nm hM0 (by omega) hxl (fun b e => by cases e) (fun b e => by cases e) (k := k) (by omega) hge (fun b hb => ⟨by simp, by simp, (s1 b hb).2.1, by have := (s1 b hb).2.2.2; simpa [eq_comm] using this⟩)
      refine cd.mono ?_
      rintro v u ⟨vq, vr, dq, dr, lq, lr, st1, rfl, oq, nq, eq, or, nr, er, ndq, ndr, hne, hst1, hl1, hF1, hS1⟩
      have hF1' : Fm (inSt bs st) w u := hF1.mono (fun b _ h => by rcases h with h | h | h; cases h; cases h; exact h)
      refine ⟨vr, ⟨⟨rfl, rfl, rfl, rfl, rfl, rfl, trivial⟩, rfl⟩, dr, lr, st1, ⟨hst1, lle hl1, fun b h => (hS1 b h).1, hF1'⟩, or, nr, ?_, by rw [er, Nat.mod_mod], ?_, fun b h => (hS1 b h).2.2⟩
      · exact nv_length_le nr (by rw [er]; exact Nat.lt_trans (Nat.mod_lt _ hMp) hMB)
      · right
        rintro b rfl
        rcases ndr with h | h | ⟨b', h, h2, _⟩
        · cases h
        · cases h
        · cases h; exact h2
    · refine ⟨_, bGtF (by omega), ?_⟩
      refine ⟨fun hc => (by cases hc), fun _ => ?_⟩
      rw [← hxe]
      exact ⟨xv, ⟨⟨rfl, rfl, rfl, rfl, rfl, rfl, trivial⟩, rfl⟩, dx, lx, st, SkAt.refl hst, hx, nx, h, rfl, .inl rfl, fun b hb => (s1 b hb).2.1⟩
  rintro x u ⟨d1, l1, st1, hsk, hx1, nx1, hl1, hv1, hd1, hS1⟩
  refine vcut (by repeat (first | exact moE _ _ _ | exact moEd _ _ _ | apply moB | apply moL | apply moV)) (Nat × Nat) (fun p => ⟨(2, .slice (some ⟨p.1, 0, none⟩) n p.2) :: [(0, z), (1, .pointer (some ⟨bs, 0, none⟩)), (3, .slice (some ⟨by_, 0, none⟩) ly.length cy), (4, .slice (some ⟨bm, 0, none⟩) n cm), (11, .int .i64 (n : Int))], []⟩)
    (fun p u => ∃ xs st1, SkAt w u bs st st1 ∧ Rd u p.1 0 xs ∧ xs.length = n ∧ nv xs % nv lm = nv lx % nv lm ∧ (∀ b, inSt bs st1 b → b ≠ p.1)) ?_ ?_
  · obtain ⟨ax', cx', rfl, hxc, hxc2, hsx⟩ := hx1.val
    have hfr : ∀ b, inSt bs st1 b → b ≠ u.heap.size := fun b hb e => by
      obtain ⟨cs, T, hc, _⟩ := inSt_cl hsk.1 hb
      have := lt_of_obj hc
      omega
    refine ⟨_, _, ln se_54 _ _ _ _ _ _, ?_⟩
    rcases Nat.lt_or_ge l1.length n with h | h
    · refine ⟨_, bLt (by omega), ?_⟩
      refine ⟨fun _ => ?_, fun hc => (by cases hc)⟩
      obtain ⟨u1, e1, hW1, hF1, hs1⟩ := mkW se_54 (l := n) (c := n) .i64 .i64 (Nat.le_refl _) (by omega) u
      refine ⟨_, u1, e1, ?_⟩
      have hRn : ∀ {u2 : World}, Wd u2 u.heap.size (splice (List.replicate n 0) 0 l1) → Rd u2 u.heap.size 0 (splice (List.replicate n 0) 0 l1) := fun {u2} hW => by
        have hl : (splice (List.replicate n 0) 0 l1).length = n := by rw [splice_len (by simp; omega), List.length_replicate]
        have := hW.rd 0 n (by omega)
        rwa [List.drop_zero, List.take_of_length_le (by omega)] at this
      have hl : (splice (List.replicate n 0) 0 l1).length = n := by rw [splice_len (by simp; omega), List.length_replicate]
      rcases Classical.em (l1 = []) with e | e
      · subst e
        refine ⟨_, u1, cpy0 se_54 (dn := n) (sn := 0) (by omega) _ _ _ u1, ?_⟩
        refine ⟨(u.heap.size, n), ⟨⟨rfl, rfl, rfl, rfl, rfl, rfl, trivial⟩, rfl⟩, splice (List.replicate n 0) 0 [], st1, hsk.new hF1 (fun _ _ h => h.elim), hRn (by rw [splice_nil]; exact hW1), hl, ?_, hfr⟩
        rw [nv_pad (by simp)]; exact hv1
      · obtain ⟨bx1, cx1, rfl, he, hrd, _, _⟩ := hx1.rd e
        cases he
        obtain ⟨u2, e2, hW2, hF2, hs2⟩ := cpy se_54 (oz := 0) (dn := n) (sn := l1.length) (dc := n) (sc := cx') hW1 (hrd.fm0 hF1) (by omega) (by simp; omega) _ _ _
        refine ⟨_, u2, e2, ?_⟩
        refine ⟨(u.heap.size, n), ⟨⟨rfl, rfl, rfl, rfl, rfl, rfl, trivial⟩, rfl⟩, splice (List.replicate n 0) 0 l1, st1, hsk.new ((hF1.mono (S2 := fun b => b = u.heap.size) (fun _ _ h => h.elim)).trans hF2 (fun _ _ h => h)) (fun b hb h => by omega), hRn hW2, hl, ?_, hfr⟩
        rw [nv_pad (by omega)]; exact hv1
    · refine ⟨_, bLtF (by omega), ?_⟩
      refine ⟨fun hc => (by cases hc), fun _ => ?_⟩
      have hln : l1.length = n := by omega
      obtain ⟨bx1, cx1, rfl, he, hrd, _, _⟩ := hx1.rd (by intro e; rw [e] at hln; simp at hln; omega)
      cases he
      rw [hln]
      exact ⟨(bx1, cx'), ⟨⟨rfl, rfl, rfl, rfl, rfl, rfl, trivial⟩, rfl⟩, l1, st1, hsk, hrd, hln, hv1, fun b hb e => hS1 b hb (by rw [e])⟩
  clear hx1 nx1 hl1 hv1 hd1 hS1 hsk
  rintro ⟨bx, cx⟩ u ⟨xs, st1, hsk, hRx, hxl', hxv, hxS⟩
  dsimp only at hRx hxS ⊢
  have hRm1 := hRm hsk
  refine rnA (ia (i := 0) se_54 _ (by omega)) ?_
  refine rnC na_101 (hRm1.cell (i := 0) (by omega)) ?_
  have hm0B := hm.wf.dg 0
  have hm0 : dg lm 0 % 2 = 1 := by
    rw [← nv_mod hm.wf, BW_eq]; omega
  generalize hm0e : dg lm 0 = m0 at *
  have hm0B' : m0 < 18446744073709551616 := hm0B
  refine ⟨_, wSub 2 m0 (by omega), ?_⟩
  refine rnA (ia (i := 0) se_54 _ (by omega)) ?_
  refine rnC na_101 (hRm1.cell (i := 0) (by omega)) ?_
  rw [hm0e]
  refine ⟨_, wSub' (x := m0) (y := 1) (by omega) hm0B', ?_⟩
  (repeat refine vcl_v _ rfl rfl ?_); (refine vcl_end ?_)
  refine vcut (by repeat (first | exact moE _ _ _ | exact moEd _ _ _ | apply moB | apply moL | apply moV)) (Nat × Nat) (fun p => ⟨(13, vw p.1) :: (14, vw p.2) :: (2, .slice (some ⟨bx, 0, none⟩) n cx) :: [(0, z), (1, .pointer (some ⟨bs, 0, none⟩)), (3, .slice (some ⟨by_, 0, none⟩) ly.length cy), (4, .slice (some ⟨bm, 0, none⟩) n cm), (11, .int .i64 (n : Int))], []⟩)
    (fun p u' => u' = u ∧ p.1 < BW ∧ p.2 < BW ∧ (p.1 * m0 + p.2 * p.2) % BW = 1 ∧ p.2 = 0) ?_ ?_
  · have hst0 : ((2 + (18446744073709551616 - m0)) % 18446744073709551616 * m0 + (m0 - 1) * (m0 - 1)) % BW = 1 := by
      rcases Nat.lt_or_ge m0 3 with h | h
      · have : m0 = 1 := by omega
        subst this; rfl
      · have e := k_start (t := m0 - 1) (k := 2 + (18446744073709551616 - m0)) (a := 1) (by unfold BW; omega)
        rw [show m0 - 1 + 1 = m0 by omega] at e
        have hmod : (2 + (18446744073709551616 - m0)) % 18446744073709551616 = 2 + (18446744073709551616 - m0) := Nat.mod_eq_of_lt (by omega)
        rw [hmod]
        exact e
    have hkB : (2 + (18446744073709551616 - m0)) % 18446744073709551616 < BW := Nat.mod_lt _ (by omega)
    generalize (2 + (18446744073709551616 - m0)) % 18446744073709551616 = kk0 at *
    refine vloop (Nat × Nat × Nat) (fun p => ⟨(15, .int .i64 ((2 ^ p.1 : Nat) : Int)) :: (13, vw p.2.1) :: (14, vw p.2.2) :: (2, .slice (some ⟨bx, 0, none⟩) n cx) :: [(0, z), (1, .pointer (some ⟨bs, 0, none⟩)), (3, .slice (some ⟨by_, 0, none⟩) ly.length cy), (4, .slice (some ⟨bm, 0, none⟩) n cm), (11, .int .i64 (n : Int))], []⟩)
      (fun p u' => u' = u ∧ p.1 ≤ 6 ∧ p.2.1 < BW ∧ p.2.2 < BW ∧ (p.2.1 * m0 + p.2.2 * p.2.2) % BW = 1 ∧ 2 ^ (2 ^ p.1) ∣ p.2.2) (fun p => 6 - p.1) (0, kk0, m0 - 1)
      ⟨⟨rfl, rfl, rfl, rfl, rfl, rfl, rfl, rfl, rfl, trivial⟩, rfl⟩ ⟨rfl, by omega, hkB, by show m0 - 1 < BW; omega, hst0, by show 2 ^ (2 ^ 0) ∣ m0 - 1; omega⟩ ?_
    rintro ⟨j, kq, t⟩ u' ⟨rfl, hj, hkq, htB, hkt, hd⟩
    dsimp only at hj hkq htB hkt hd ⊢
    have e6 : (2 : Nat) ^ 6 = 64 := by decide
    rcases Nat.eq_or_lt_of_le hj with rfl | hj6
    · refine ⟨_, bLtF (by rw [e6]; omega), ?_⟩
      refine ⟨fun hc => (by cases hc), fun _ => ?_⟩
      rw [e6] at hd
      exact ⟨(kq, t), ⟨⟨rfl, rfl, rfl, rfl, rfl, rfl, rfl, rfl, trivial⟩, rfl⟩, rfl, hkq, htB, hkt, t_done hd htB⟩
    · have hlt : 2 ^ j < 64 := by
        have := Nat.pow_lt_pow_right (a := 2) (by omega) hj6
        rwa [e6] at this
      refine ⟨_, bLt (by omega), ?_⟩
      refine ⟨fun _ => ?_, fun hc => (by cases hc)⟩
      refine ⟨_, wMul _ _, ?_⟩
      have htB2 : (t * t) % 18446744073709551616 < BW := Nat.mod_lt _ (by omega)
      have hd2 := t_two (e := 2 ^ j) (t := t) (by have : 2 ^ j ≤ 2 ^ 5 := Nat.pow_le_pow_right (by omega) (by omega); have e5 : (2 : Nat) ^ 5 = 32 := by decide
                                                  rw [e5] at this; omega) hd
      rw [← Nat.pow_succ] at hd2
      generalize htt : (t * t) % 18446744073709551616 = t' at *
      have hd3 : 2 ^ (2 ^ (j + 1)) ∣ t' := by rw [← htt]; exact hd2
      refine ⟨_, wAdd _ _, ?_⟩
      refine ⟨_, wMul _ _, ?_⟩
      have hkB2 : (kq * ((t' + 1) % 18446744073709551616)) % 18446744073709551616 < BW := Nat.mod_lt _ (by omega)
      generalize hkk : (kq * ((t' + 1) % 18446744073709551616)) % 18446744073709551616 = k' at *
      refine ⟨_, bShl1 hj6, ?_⟩
      exact ⟨(j + 1, k', t'), ⟨⟨rfl, rfl, rfl, rfl, rfl, rfl, rfl, rfl, rfl, trivial⟩, rfl⟩, ⟨rfl, hj6, hkB2, htB2, k_round hkt htt.symm hkk.symm, hd3⟩, by show 6 - (j + 1) < 6 - j; omega⟩
  rintro ⟨kq, t⟩ u' ⟨rfl, hkq, htB, hkt, ht0⟩
  dsimp only at hkq htB hkt ht0 ⊢
  have hkf : ∃ c, (18446744073709551616 - kq) % 18446744073709551616 + kq = BW * c := by
    have hkq' : kq < 18446744073709551616 := hkq
    rcases Nat.eq_zero_or_pos kq with e | e
    · subst e; exact ⟨0, by decide⟩
    · exact ⟨1, by rw [Nat.mod_eq_of_lt (by omega)]; unfold BW; omega⟩
  obtain ⟨ckf, hkf⟩ := hkf
  have hk0 := k_end hkt ht0 hkf
  refine rnA (uNeg hkq) ?_
  have hkfB : (18446744073709551616 - kq) % 18446744073709551616 < BW := Nat.mod_lt _ (by omega)
  generalize (18446744073709551616 - kq) % 18446744073709551616 = kf at *
  clear hkf hkt hkq htB ht0
  refine (setWord_c (Own.nil u') (x := 1) (by unfold BW; omega)).mono ?_
  rintro v1 u1 hr1
  obtain ⟨d1, l1, ho1, hn1, he1, hnd1, hF1⟩ := hr1.all
  have nof : ∀ b, d1 = some b → u'.heap.size ≤ b := fun b e => by
    rcases hnd1 with h | h | ⟨b', h, h2, _⟩
    · rw [h] at e; cases e
    · rw [h] at e; cases e
    · rw [h] at e; cases e; exact h2
  have hF1' : Fm (fun _ => False) u' u1 := hF1.mono (fun _ _ h => by cases h)
  refine ⟨_, nMul 2 n (by omega), ?_⟩
  refine ⟨_, nMul (2 * n) 64 (by omega), ?_⟩
  refine rnA (cv cv_3_60 (wrapU_nat (by omega))) ?_
  have hl1len : l1.length ≤ 1 := nv_length_le hn1 (by rw [he1, Nat.pow_one]; unfold BW; omega)
  refine (lsh_c (Own.nil u1) ho1 (by omega) (s := 2 * n * 64) (by omega) (by omega)).mono ?_
  rintro v2 u2 hr2
  obtain ⟨d2, l2, ho2, hn2, he2, hnd2, hF2⟩ := hr2.all
  have hsz1 := hF1.size
  have nof2 : ∀ b, d2 = some b → u1.heap.size ≤ b := fun b e => by
    rcases hnd2 with h | h | ⟨b', h, h2, _⟩
    · rw [h] at e; cases e
    · rw [h] at e; cases e
    · rw [h] at e; cases e; exact h2
  have hF2' : Fm (fun _ => False) u1 u2 := hF2.mono (fun _ _ h => by cases h)
  have hpw : 2 ^ (2 * n * 64) = BW ^ (n + n) := by
    rw [BW_two, ← Nat.pow_mul]; congr 1; omega
  rw [he1, Nat.one_mul, hpw] at he2
  have hsk2 : SkAt w u2 bs st st1 := (hsk.new hF1' (fun _ _ h => h.elim)).new hF2' (fun _ _ h => h.elim)
  have hsz2 := hF2.size
  have hszw := hsk.2.2.2.size
  have hl2 : l2.length = n + n + 1 := by
    have h1 : l2.length ≤ n + n + 1 := nv_length_le hn2 (by rw [he2]; exact Nat.pow_lt_pow_right (by unfold BW; omega) (by omega))
    have h2 : BW ^ (n + n) < BW ^ l2.length := by rw [← he2]; exact nv_lt ho2.wf
    have h3 := (Nat.pow_lt_pow_iff_right (a := BW) (by unfold BW; omega)).1 h2
    omega
  have hm2 : Own u2 (.slice (some ⟨bm, 0, none⟩) n cm) (some bm) lm := hm.fm hsk2.2.2.2 (fun b e h => by cases e; exact (s1 _ h).2.2.2 rfl)
  have hS2 : ∀ b, inSt bs st1 b → b < u'.heap.size := fun b hb => by obtain ⟨cs, T, hc, _⟩ := inSt_cl hsk.1 hb; exact lt_of_obj hc
  have hbm : bm < w.heap.size := hRmw.lt
  have cd := div_s ((hg.fmT hsk2.2.2.2 (fun b _ h => inSt_cl hst h))) hsk2.1 (by have := hsk2.len; omega) (Own.nil u2) (ho1.fm hF2' (fun _ _ h => h)) ho2 hm2 hn2 nm hM0 (by omega) (by omega) (fun b e => by cases e) (fun b e e2 => by cases e2; have := nof _ e; omega) (k := k) (by omega)
    (by rw [he2]; exact Nat.le_of_lt (Nat.lt_of_lt_of_le hMB (pow_le_pow (by omega)))) (fun b hb => ⟨by simp, fun e => by have := nof _ e; have := hS2 b hb; omega, fun e => by have := nof2 _ e; have := hS2 b hb; omega, fun e => by cases e; exact (hsk2.2.2.1 _ hb).elim (fun h => (s1 _ h).2.2.2 rfl) (fun h => by omega)⟩)
  refine cd.mono ?_
  rintro v u3 ⟨vq, vr, dq, dr, lq, lr, st3, rfl, oq, nq, eq, or, nr, er, ndq, ndr, hne, hst3, hl3, hF3, hS3⟩
  have hF3n : ∀ b, b < u2.heap.size → (none = some b ∨ d1 = some b ∨ inSt bs st1 b) → d1 = some b ∨ inSt bs st1 b := fun b _ h => by
    rcases h with h | h
    · cases h
    · exact h
  have hsz3 := hF3.size
  have hsk3 : SkAt w u3 bs st st3 := ⟨hst3, Nat.le_trans (lle hl3) hsk2.len, fun b h => (hS3 b h).1.elim (hsk2.2.2.1 b) (fun h => .inr (by omega)), hsk2.2.2.2.trans hF3 (fun b hb h => by
    rcases hF3n b (by omega) h with h | h
    · have := nof b h; omega
    · exact (hsk2.2.2.1 b h).elim id (fun h => by omega))⟩
  have hRx3 : Rd u3 bx 0 xs := ((hRx.fm hF1' (fun h => h)).fm hF2' (fun h => h)).fm hF3 (fun h => by
    have := hRx.lt
    rcases h with h | h | h
    · cases h
    · have := nof _ h; omega
    · exact hxS _ h rfl)
  have hzz3 : Own u3 v2 d2 l2 := ho2.fm hF3 (fun b e h => by
    have := nof2 b e
    rcases h with h | h | h
    · cases h
    · subst h; have := ho1.blt; omega
    · have := hS2 b h; omega)
  have hl2w := ho2.wf
  have hbxz : ∀ {b}, d2 = some b → bx ≠ b := fun {b} e e2 => by have := nof2 b e; have := hRx.lt; omega
  have hd2 : ∀ b, d2 = some b → w.heap.size ≤ b ∧ ¬ inSt bs st3 b := fun b e => ⟨by have := nof2 b e; omega, fun h => by
    have h1 := nof2 b e
    subst e
    have h2 := ho2.blt
    rcases (hS3 b h).1 with h | h
    · have := hS2 b h; omega
    · omega⟩
  have hdr : ∀ b, dr = some b → w.heap.size ≤ b ∧ ¬ inSt bs st3 b := fun b e => ⟨by
    rcases ndr with h | h | ⟨b', h, h2, _⟩
    · rw [h] at e; cases e
    · rw [h] at e; have := nof b e; omega
    · rw [h] at e; cases e; omega, fun h => (hS3 b h).2.2 e⟩
  have hlr : lr.length ≤ n := nv_length_le nr (by rw [er]; exact Nat.lt_trans (Nat.mod_lt _ hMp) hMB)
  have hrv : nv lr % nv lm = (BW ^ n * BW ^ n) % nv lm := by rw [er, Nat.mod_mod, he2, Nat.pow_add]
  clear hF3 hF2' hF1' hF2 hF1 hsk2 hsk ho1 ho2 hr1 hr2 oq nq eq hS3 nof nof2 ndq ndr hm2 hl1len hn1 he1 hnd1 hnd2 hne hF3n cd hst3 hl3
  (repeat refine vcl_v _ rfl rfl ?_); (refine vcl_end ?_)
  refine vcut (by repeat (first | exact moE _ _ _ | exact moEd _ _ _ | apply moB | apply moL | apply moV)) (Nat × Nat × Value) (fun p => ⟨(16, .slice (some ⟨p.1, 0, none⟩) n p.2.1) :: (17, p.2.2) :: (13, vw kf) :: (2, .slice (some ⟨bx, 0, none⟩) n cx) :: [(0, z), (1, .pointer (some ⟨bs, 0, none⟩)), (3, .slice (some ⟨by_, 0, none⟩) ly.length cy), (4, .slice (some ⟨bm, 0, none⟩) n cm), (11, .int .i64 (n : Int))], []⟩)
    (fun p u => ∃ rs dzz lzz, SkAt w u bs st st3 ∧ Rd u bx 0 xs ∧ Rd u p.1 0 rs ∧ rs.length = n ∧ nv rs % nv lm = (BW ^ n * BW ^ n) % nv lm ∧ Own u p.2.2 dzz lzz ∧ (∀ b, dzz = some b → w.heap.size ≤ b ∧ ¬ inSt bs st3 b)) ?_ ?_
  · obtain ⟨bz, cz, rfl, rfl, hRz, hzc, hzc2⟩ := hzz3.rd (by intro e; rw [e] at hl2; simp at hl2)
    obtain ⟨fz, hze, hWz, htz, hlz, hcz⟩ := hzz3
    have hcf : cz = fz.length := by simpa using hze
    subst hcf
    obtain ⟨ar, cr', rfl, hrc, hrc2, hsr⟩ := or.val
    refine ⟨_, _, ln se_54 _ _ _ _ _ _, ?_⟩
    rcases Nat.lt_or_ge lr.length n with h | h
    · refine ⟨_, bLt (by omega), ?_⟩
      refine ⟨fun _ => ?_, fun hc => (by cases hc)⟩
      refine (make_re (b := bz) (l := l2.length) (c := fz.length) (n := n) (by omega)).mono ?_
      rintro v u5 ⟨rfl, rfl⟩
      have hf0 : fz.take n = List.replicate n 0 := by
        have := pow_take (n := n) hl2w he2 (by omega) (by omega)
        rw [← htz, List.take_take, Nat.min_eq_left (by omega)] at this
        exact this
      have fin : ∀ {u6 : World}, Wd u6 bz (splice fz 0 lr) → Fm (· = bz) u3 u6 → Rd u6 bz 0 (splice (List.replicate n 0) 0 lr) ∧ Own u6 (.slice (some ⟨bz, 0, none⟩) n fz.length) (some bz) (splice (List.replicate n 0) 0 lr) ∧ SkAt w u6 bs st st3 ∧ Rd u6 bx 0 xs := fun {u6} hW hF => by
        have l1 : (splice fz 0 lr).length = fz.length := splice_len (by omega)
        have hr := hW.rd 0 n (by omega)
        rw [List.drop_zero, take_pad hf0 hlr (by omega)] at hr
        have ho := Own.mk' hW (n := n) (by omega) (by omega)
        rw [l1, take_pad hf0 hlr (by omega)] at ho
        refine ⟨hr, ho, hsk3.new hF (fun b _ e => by rw [e]; exact hd2 bz rfl), hRx3.fm hF (fun e => ?_)⟩
        have := (hd2 bz rfl).1
        exact hbxz rfl e
      have lP : (splice (List.replicate n 0) 0 lr).length = n := by rw [splice_len (by simp; omega), List.length_replicate]
      rcases Classical.em (lr = []) with e | e
      · subst e
        obtain ⟨f1, f2, f3, f4⟩ := fin (by rw [splice_nil]; exact hWz) (Fm.refl _ _)
        refine ⟨_, u3, cpy0 se_54 (dn := n) (sn := 0) (by omega) _ _ _ u3, ?_⟩
        exact ⟨(bz, fz.length, _), ⟨⟨rfl, rfl, rfl, rfl, rfl, rfl, rfl, rfl, rfl, trivial⟩, rfl⟩, _, some bz, _, f3, f4, f1, lP, by rw [nv_pad hlr]; exact hrv, f2, hd2⟩
      · obtain ⟨br, cr2, rfl, he, hrd, _, _⟩ := or.rd e
        cases he
        obtain ⟨u6, e6, hW6, hF6, hs6⟩ := cpy se_54 (oz := 0) (dn := n) (sn := lr.length) (dc := fz.length) (sc := cr') hWz hrd (by omega) (by omega) _ _ _
        obtain ⟨f1, f2, f3, f4⟩ := fin hW6 hF6
        refine ⟨_, u6, e6, ?_⟩
        exact ⟨(bz, fz.length, _), ⟨⟨rfl, rfl, rfl, rfl, rfl, rfl, rfl, rfl, rfl, trivial⟩, rfl⟩, _, some bz, _, f3, f4, f1, lP, by rw [nv_pad hlr]; exact hrv, f2, hd2⟩
    · refine ⟨_, bLtF (by omega), ?_⟩
      refine ⟨fun hc => (by cases hc), fun _ => ?_⟩
      have hln : lr.length = n := by omega
      obtain ⟨br, cr2, rfl, he, hrd, _, _⟩ := or.rd (by intro e; rw [e] at hln; simp at hln; omega)
      cases he
      rw [hln]
      exact ⟨(br, cr', _), ⟨⟨rfl, rfl, rfl, rfl, rfl, rfl, rfl, rfl, rfl, trivial⟩, rfl⟩, lr, some bz, l2, hsk3, hRx3, hrd, hln, hrv, ⟨fz, rfl, hWz, htz, hlz, hcz⟩, hd2⟩
  rintro ⟨br, cr, vzz⟩ u4 ⟨rs, dzz, lzz, hsk4, hRx4, hRr4, hrl4, hrv4, hzz4, hdz4⟩
  dsimp only at hRr4 hzz4 ⊢
  have hRm4 := hRm hsk4
  have hcop := odd_cop hodd n
  have hszw4 := hsk4.2.2.2.size
  clear hRx3 hzz3 hd2 hdr hlr hrv hbxz hl2w or nr er hsk3 hS2 hn2 he2 hRx hRm1 hxS hl2 hsz1 hsz2 hszw hsz3 hpw
  obtain ⟨u5, e5, hW5, hF5, hs5⟩ := mkW se_54 (l := n) (c := n) .i64 .i64 (Nat.le_refl _) (by omega) u4
  refine ⟨_, u5, e5, ?_⟩
  refine rnA (ia (i := 0) se_54 _ (by omega)) ?_
  obtain ⟨u6, e6, hW6, hF6, hs6⟩ := hW5.st (i := 0 + 0) (by simp; omega) (x := 1) (by unfold BW; omega)
  refine ⟨u6, e6, ?_⟩
  obtain ⟨one, hone⟩ : ∃ o, (List.replicate n 0).set (0 + 0) 1 = o := ⟨_, rfl⟩
  rw [hone] at hW6
  have hone1 : one.length = n ∧ nv one = 1 := by
    rw [← hone, hnk, List.replicate_succ]
    simp only [Nat.add_zero, List.set_cons_zero, List.length_cons, List.length_replicate, nv, nv_replicate_zero, Nat.mul_zero, true_and]
  have hF46 : Fm (fun _ => False) u4 u6 := hF5.trans hF6 (fun b hb h => by omega)
  have hRo6 : Rd u6 u4.heap.size 0 one := by
    have := hW6.rd 0 n (by omega)
    rwa [List.drop_zero, List.take_of_length_le (by omega)] at this
  obtain ⟨u7, e7, hc7, hF7, hs7⟩ := nw zpow cpow u6
  refine ⟨_, u7, e7, ?_⟩
  have hF47 : Fm (fun _ => False) u4 u7 := hF46.trans hF7 (fun _ _ h => h)
  generalize hs4 : u4.heap.size = s4 at *
  generalize hpb : u6.heap.size = pb at *
  have hsz7 : s4 ≤ u7.heap.size := by have := hF47.size; omega
  have hP7 : Pw (BW ^ n) (nv lm) (nv lx) n s4 pb u7 (List.replicate 16 (.slice none 0 0)) 0 := ⟨hc7, by simp, fun j hj => by omega, fun j _ hj => by rw [List.getElem?_replicate, if_pos hj]⟩
  have hRo7 := hRo6.fm0 hF7
  have hRm7 := hRm4.fm0 hF47
  have hRr7 := hRr4.fm0 hF47
  have hRx7 := hRx4.fm0 hF47
  clear hF5 hF6 hF7 hW5 hW6 e5 e6 e7 hRo6
  have hpbs : s4 ≤ pb := by have := hF46.size; omega
  refine rnA (ixA ar_pow sz_54 (i := 0) _ (by omega)) ?_
  refine rnL na_54 hP7.cl (by exact hP7.rest 0 (by omega) (by omega)) ?_
  refine (montgomery_c (Own.nil u7) hRo7 hRr7 hRm7 hone1.1 hrl4 hml (by omega) (by omega) (by rw [hm0e]; exact hk0) (by simp) (by simp) (by simp)).mono ?_
  rintro v u8 ⟨zb0, rs0, c0, rfl, ho0, hl0', hv0, hnd0, hF8⟩
  refine rnA (ixA ar_pow sz_54 (i := 0) _ (by omega)) ?_
  have hF8' : Fm (fun _ => False) u7 u8 := hF8.mono (fun _ _ h => by cases h)
  have hP8 := hP7.fm hF8' (fun h => h) (fun _ _ h => h.elim)
  obtain ⟨u9, e9, hc9, hF9, hs9⟩ := Vc.st sz_54 hP8.cl (i := 0 + 0) (by simp) (v := .slice (some ⟨zb0, 0, none⟩) n c0) rfl
  refine ⟨u9, e9, ?_⟩
  have hP9 := hP8.put (i := 0) (by omega) ho0.rd0 hl0' (by
    have h1 : Mf (BW ^ n) (nv lm) (nv rs0) 1 := Mf.enter hcop (a := 1) rfl hrv4 (by rw [hv0, hone1.2])
    rwa [Nat.pow_zero]) (hnd0.elim (fun h => by cases h) (fun h => by omega)) hc9 hF9
  -- only the table and what is new has been written
  have nep : ∀ {u : World} {b : Nat} {l vals : List Nat} {cs : List Value}, Cl u pb cs 199 → Rd u b 0 l → b ≠ pb := fun hc hr e => by
    obtain ⟨full, hw, _⟩ := hr.all
    exact hw.cl.ne_T hc (by decide) e
  have hF79 : Fm (fun b => b = pb) u7 u9 := (hF8'.mono (fun _ _ h => h.elim)).trans hF9 (fun _ _ h => h)
  refine rnA (ixA ar_pow sz_54 (i := 1) _ (by omega)) ?_
  refine rnL na_54 hP9.cl (by exact hP9.rest 1 (by omega) (by omega)) ?_
  have hRx9 := hRx7.fm hF79 (nep (vals := []) hP7.cl hRx7)
  have hRr9 := hRr7.fm hF79 (nep (vals := []) hP7.cl hRr7)
  have hRm9 := hRm7.fm hF79 (nep (vals := []) hP7.cl hRm7)
  have hRo9 := hRo7.fm hF79 (nep (vals := []) hP7.cl hRo7)
  have hsz9 := hF79.size
  refine (montgomery_c (Own.nil u9) hRx9 hRr9 hRm9 hxl' hrl4 hml (by omega) (by omega) (by rw [hm0e]; exact hk0) (by simp) (by simp) (by simp)).mono ?_
  rintro v u10 ⟨zb1, rs1, c1, rfl, ho1, hl1', hv1, hnd1, hF10⟩
  refine rnA (ixA ar_pow sz_54 (i := 1) _ (by omega)) ?_
  have hF10' : Fm (fun _ => False) u9 u10 := hF10.mono (fun _ _ h => by cases h)
  have hP10 := hP9.fm hF10' (fun h => h) (fun _ _ h => h.elim)
  obtain ⟨u11, e11, hc11, hF11, hs11⟩ := Vc.st sz_54 hP10.cl (i := 0 + 1) (by rw [hP10.len]; omega) (v := .slice (some ⟨zb1, 0, none⟩) n c1) rfl
  refine ⟨u11, e11, ?_⟩
  have hP11 := hP10.put (i := 1) (by omega) ho1.rd0 hl1' (by
    have h1 : Mf (BW ^ n) (nv lm) (nv rs1) (nv lx) := Mf.enter hcop hxv hrv4 hv1
    rwa [Nat.pow_one]) (hnd1.elim (fun h => by cases h) (fun h => by omega)) hc11 hF11
  have hF711 : Fm (fun b => b = pb) u7 u11 := (hF79.trans (hF10'.mono (S2 := fun b => b = pb) (fun _ _ h => h.elim)) (fun _ _ h => h)).trans hF11 (fun _ _ h => h)
  have hn0 : 0 < n := by omega
  have hn100 : n ≤ 100 := by omega
  have hkm : (dg lm 0 * kf + 1) % BW = 0 := by rw [hm0e]; exact hk0
  clear hP8 hP9 hP10 hF8 hF9 hF10 hF8' hF10' hc9 hc11 hF11 hRx9 hRr9 hRm9 hRo9 ho0 ho1 hv0 hv1 hnd0 hnd1 e9 e11 hl0' hl1' hF79
  generalize hvals : ((List.replicate 16 (Value.slice none 0 0)).set (0 + 0) (.slice (some ⟨zb0, 0, none⟩) n c0)).set (0 + 1) (.slice (some ⟨zb1, 0, none⟩) n c1) = vals1 at *
  (repeat refine vcl_v _ rfl rfl ?_); (refine vcl_end ?_)
  refine vcut (by repeat (first | exact moE _ _ _ | exact moEd _ _ _ | apply moB | apply moL | apply moV)) Unit (fun _ => ⟨(18, .slice (some ⟨s4, 0, none⟩) n n) :: (19, .pointer (some ⟨pb, 0, none⟩)) :: (17, vzz) :: (13, vw kf) :: [(0, z), (1, .pointer (some ⟨bs, 0, none⟩)), (3, .slice (some ⟨by_, 0, none⟩) ly.length cy), (4, .slice (some ⟨bm, 0, none⟩) n cm), (11, .int .i64 (n : Int))], []⟩)
    (fun _ u => ∃ vals, Pw (BW ^ n) (nv lm) (nv lx) n s4 pb u vals 16 ∧ Fm (fun b => b = pb) u7 u) ?_ ?_
  · (refine vsr ?_)
    (repeat refine vcl_v _ rfl rfl ?_); (refine vcl_end ?_)
    refine vloop (Nat × List Value) (fun p => ⟨(20, .int .i64 (p.1 : Int)) :: (18, .slice (some ⟨s4, 0, none⟩) n n) :: (19, .pointer (some ⟨pb, 0, none⟩)) :: (17, vzz) :: (13, vw kf) :: [(0, z), (1, .pointer (some ⟨bs, 0, none⟩)), (3, .slice (some ⟨by_, 0, none⟩) ly.length cy), (4, .slice (some ⟨bm, 0, none⟩) n cm), (11, .int .i64 (n : Int))], []⟩)
      (fun p u => 2 ≤ p.1 ∧ p.1 ≤ 16 ∧ Pw (BW ^ n) (nv lm) (nv lx) n s4 pb u p.2 p.1 ∧ Fm (fun b => b = pb) u7 u) (fun p => 16 - p.1) (2, vals1)
      ⟨⟨rfl, rfl, rfl, rfl, rfl, rfl, rfl, rfl, rfl, rfl, trivial⟩, rfl⟩ ⟨Nat.le_refl _, by show 2 ≤ 16; omega, hP11, hF711⟩ ?_
    rintro ⟨i, vals⟩ u ⟨hi2, hi16, hP, hF⟩
    dsimp only at hi2 hi16 hP ⊢
    rcases Nat.eq_or_lt_of_le hi16 with rfl | hi
    · refine ⟨_, bLtF (by omega), ?_⟩
      refine ⟨fun hc => (by cases hc), fun _ => ?_⟩
      exact ⟨(), ⟨⟨rfl, rfl, rfl, rfl, rfl, rfl, rfl, rfl, rfl, trivial⟩, rfl⟩, vals, hP, hF⟩
    refine ⟨_, bLt (by omega), ?_⟩
    refine ⟨fun _ => ?_, fun hc => (by cases hc)⟩
    have hRm1 := hRm7.fm hF (nep (vals := []) hP7.cl hRm7)
    obtain ⟨ba, ca, ra, hga, hra, hla, hfa, hsa⟩ := hP.done (i - 1) (by omega)
    obtain ⟨bb, cb, rb, hgb, hrb, hlb, hfb, hsb⟩ := hP.done 1 (by omega)
    refine ⟨.take 0 (.take 1 (.take 2 (.take 3 (.take 4 (.take 5 (.take 6 (.take 7 (.take 8 (.take 9 (.take 10 (.take 11 (.take 12 (.one 13 [0] (.take 14 (.one 15 [] (.done)))))))))))))))), by kernel_rfl, ?_⟩
    refine tkA (ixA ar_pow sz_54 _ hi) ?_
    rw [Nat.zero_add]
    refine tkL na_54 hP.cl (hP.rest i (Nat.le_refl _) hi) ?_
    refine ⟨_, nSub i 1 (by omega) (by omega), ?_⟩
    refine tkA (ixA ar_pow sz_54 _ (by omega)) ?_
    rw [Nat.zero_add]
    refine tkL na_54 hP.cl hga ?_
    refine tkA (ixA ar_pow sz_54 (i := 1) _ (by omega)) ?_
    refine tkL na_54 hP.cl hgb ?_
    refine (montgomery_c (Own.nil u.drew) hra.drew hrb.drew hRm1.drew hla hlb hml hn0 hn100 hkm (by simp) (by simp) (by simp)).mono ?_
    rintro v u2 ⟨zb2, rs2, c2, rfl, ho2, hl2', hv2, hnd2, hF2⟩
    refine ⟨trivial, ?_⟩
    refine tkA (ixA ar_pow sz_54 _ hi) ?_
    have hF2' : Fm (fun _ => False) u u2 := (hF2.mono (fun _ _ h => by cases h)).drew'
    have hP2 := hP.fm hF2' (fun h => h) (fun _ _ h => h.elim)
    obtain ⟨u3, e3, hc3, hF3, hs3⟩ := Vc.st sz_54 hP2.cl (i := 0 + i) (by rw [hP2.len]; omega) (v := .slice (some ⟨zb2, 0, none⟩) n c2) rfl
    refine ⟨u3, e3, ?_⟩
    refine ⟨trivial, ?_⟩
    rw [Nat.zero_add] at hc3
    have hszu := hF.size
    have hP3 := hP2.put hi ho2.rd0 hl2' (by
      have h1 := Mf.pow (A := 0) (Mf.mul hcop hfa hfb hv2)
      rwa [show i - 1 + 1 = i by omega] at h1) (hnd2.elim (fun h => by cases h) (fun h => by have : u.heap.size ≤ zb2 := h; omega)) hc3 hF3
    have hFF : Fm (fun b => b = pb) u7 u3 := (hF.trans (hF2'.mono (S2 := fun b => b = pb) (fun _ _ h => h.elim)) (fun _ _ h => h)).trans hF3 (fun _ _ h => h)
    refine ⟨_, nAdd i 1 (by omega), ?_⟩
    exact ⟨(i + 1, _), ⟨⟨rfl, rfl, rfl, rfl, rfl, rfl, rfl, rfl, rfl, rfl, trivial⟩, rfl⟩, ⟨by show 2 ≤ i + 1; omega, hi, hP3, hFF⟩, by show 16 - (i + 1) < 16 - i; omega⟩
  clear hP11 hF711
  rintro _ u ⟨vals, hP, hF⟩
  have hF4u : Fm (fun b => b = pb) u4 u := (hF47.mono (fun _ _ h => h.elim)).trans hF (fun _ _ h => h)
  have hszu := hF4u.size
  have hskU : SkAt w u bs st st3 := hsk4.new hF4u (fun b hb e => by omega)
  have hRmU := hRm hskU
  have hRoU := hRo7.fm hF (nep (vals := []) hP7.cl hRo7)
  have hzU : Own u z d l0 := hz.fm hskU.2.2.2 (fun b e h => (s1 b h).1 e)
  have hzzU : Own u vzz dzz lzz := hzz4.fm hF4u (fun b e h => by subst e; have := hzz4.blt; omega)
  have hzzs : ∀ b, dzz = some b → b < s4 := fun b e => by subst e; have := hzz4.blt; omega
  have hRyU : Rd u by_ 0 ly := hy.fm hskU.2.2.2 (fun h => (s1 _ h).2.2.1 rfl)
  clear hP7 hRo7 hRm7 hRr7 hRx7 hzz4 hRr4 hRx4 hRm4 hF47 hF46 hsk4 hF4u hs4 hpb hrv4 hrl4 hxv hxl'
  have hdlt : ∀ b, d = some b → b < w.heap.size := fun b e => by subst e; exact hz.blt
  have hbylt : by_ < w.heap.size := hy.lt
  obtain ⟨s5, hs5⟩ : ∃ s, s = u.heap.size := ⟨_, rfl⟩
  have hpblt : pb < u.heap.size := lt_of_obj hP.cl
  have hs4lt : s4 < u.heap.size := hRoU.lt
  have hK0 : Kc w bs st3 st d bm by_ s4 s5 pb lm ly one vals (BW ^ n) (nv lx) n u := by
    refine ⟨hskU.1, hRmU, hRyU, hRoU, hP.cl, by omega, ⟨hpbs, by omega⟩, fun j hj => ?_, hskU.2.2.2.mono (fun _ _ h => .inr h), by omega⟩
    obtain ⟨b, c, rs, h1, h2, h3, h4, h5⟩ := hP.done j hj
    exact ⟨b, c, rs, h1, h2, h3, h4, h5, by have := h2.lt; omega⟩
  have hwu := hskU.2.2.2.size
  have okd : ∀ b, d = some b → OkB w bs st3 d bm by_ s4 s5 b := fun b e => by
    have h1 := hdlt b e
    exact ⟨(ad b e).2.2, (ad b e).2.1, .inl (by omega), fun h => (hskU.2.2.1 b h).elim (fun h => (s1 b h).1 e) (fun h => by omega), fun _ => e⟩
  have okz : ∀ b, dzz = some b → OkB w bs st3 d bm by_ s4 s5 b := fun b e => by
    have h1 := hzzs b e
    have h2 := hdz4 b e
    exact ⟨by omega, by omega, .inl h1, h2.2, fun h => by omega⟩
  have dzne : ∀ b, d = some b → dzz ≠ some b := fun b e e2 => by have := hdlt b e; have := (hdz4 b e2).1; omega
  obtain ⟨b0, c0', r0, hg0, hr0, hl0, hf0, hb0⟩ := hP.done 0 (by omega)
  have hb0lt := hr0.lt
  have hPcl := hP.cl
  have hin3 := hskU.2.2.1
  have hlen3 := hskU.2.1
  clear hP hskU hRmU hRoU hRyU hF hdz4
  refine (make_c hzU (n := n) (by omega) (by omega)).mono ?_
  rintro v u12 ⟨bz, fz, hMz⟩
  have hv := hMz.v
  subst hv
  have okbz : OkB w bs st3 d bm by_ s4 s5 bz := by
    rcases hMz.nd with h | h
    · exact okd _ h
    · exact hK0.new h
  have hK1 := hK0.fm' okbz (hMz.fm.mono (fun _ _ h => h.elim))
  have nzb0 : bz ≠ b0 := fun e => by
    have := okbz.op
    omega
  refine rnA (ixA ar_pow sz_54 (i := 0) _ (by omega)) ?_
  refine rnL na_54 hK1.kcl (by exact hg0) ?_
  obtain ⟨u13, e13, hW13, hF13, hs13⟩ := cpy se_54 (oz := 0) (dn := n) (sn := n) (dc := fz.length) (sc := c0') hMz.wd (hr0.fm0 hMz.fm) (by omega) (by have := hMz.nl; omega) _ _ _
  refine ⟨_, u13, e13, ?_⟩
  have hK2 := hK1.fm' okbz hF13
  have hfn := hMz.nl
  have hoz : Own u13 (.slice (some ⟨bz, 0, none⟩) n fz.length) (some bz) r0 := by
    have l1 : (splice fz 0 r0).length = fz.length := splice_len (by omega)
    have ho := Own.mk' hW13 (n := n) (by omega) (by have := hMz.c; omega)
    have ht := splice_mid (Z := fz) (o := 0) (l := r0) (by omega)
    rw [List.drop_zero, hl0] at ht
    rwa [l1, ht] at ho
  have hsz12 := hMz.fm.size
  have hsz13 := hF13.size
  have hzz13 : Own u13 vzz dzz lzz := (hzzU.fm hMz.fm (fun _ _ h => h)).fm hF13 (fun b e e2 => by
    subst e2
    rcases hMz.nd with h | h
    · exact dzne _ h e
    · subst e; have := hzzU.blt; omega)
  refine (make_c hzz13 (n := n) (by omega) (by omega)).mono ?_
  rintro v u14 ⟨bq, fq, hMq⟩
  have hv := hMq.v
  subst hv
  have okbq : OkB w bs st3 d bm by_ s4 s5 bq := by
    rcases hMq.nd with h | h
    · exact okz _ h
    · exact hK2.new h
  have hK3 := hK2.fm' okbq (hMq.fm.mono (fun _ _ h => h.elim))
  have hZ3 : Zs (OkB w bs st3 d bm by_ s4 s5) (BW ^ n) (nv lm) (nv lx) n u14 bz fz.length (.slice (some ⟨bq, 0, none⟩) n fq.length) 0 :=
    ⟨r0, bq, _, hoz.fm hMq.fm (fun _ _ h => h), hl0, hf0, okbz, Own.mk' hMq.wd hMq.nl hMq.c, okbq, fun e => by
      subst e
      rcases hMq.nd with h | h
      · rcases hMz.nd with h2 | h2
        · exact dzne _ h2 h
        · subst h; have := hzzU.blt; omega
      · have := hoz.blt; omega⟩
  clear hoz hzz13 hK2 hK1 hF13 hW13 e13 hMz hMq okbz okbq hg0 hr0 hf0 hzzU hzU
  (repeat refine vcl_v _ rfl rfl ?_); (refine vcl_end ?_)
  refine vcut (by repeat (first | exact moE _ _ _ | exact moEd _ _ _ | apply moB | apply moL | apply moV)) (Nat × Nat × Value) (fun p => ⟨(0, .slice (some ⟨p.1, 0, none⟩) n p.2.1) :: (17, p.2.2) :: (18, .slice (some ⟨s4, 0, none⟩) n n) :: (13, vw kf) :: (1, .pointer (some ⟨bs, 0, none⟩)) :: (4, .slice (some ⟨bm, 0, none⟩) n cm) :: (11, .int .i64 (n : Int)) :: [], []⟩)
    (fun p u => Kc w bs st3 st d bm by_ s4 s5 pb lm ly one vals (BW ^ n) (nv lx) n u ∧ Zs (OkB w bs st3 d bm by_ s4 s5) (BW ^ n) (nv lm) (nv lx) n u p.1 p.2.1 p.2.2 (nv ly)) ?_ ?_
  · (refine vsr ?_)
    refine ⟨_, _, ln se_54 _ _ _ _ _ _, ?_⟩
    refine ⟨_, nSub ly.length 1 (by omega) (by omega), ?_⟩
    rw [show ((ly.length - 1 : Nat) : Int) = ((ly.length : Nat) : Int) - 1 by omega]
    (repeat refine vcl_v _ rfl rfl ?_); (refine vcl_end ?_)
    refine vloop (Nat × Nat × Nat × Value) (fun p => ⟨(21, .int .i64 ((p.1 : Int) - 1)) :: (0, .slice (some ⟨p.2.1, 0, none⟩) n p.2.2.1) :: (17, p.2.2.2) :: [(18, .slice (some ⟨s4, 0, none⟩) n n), (13, vw kf), (1, .pointer (some ⟨bs, 0, none⟩)), (4, .slice (some ⟨bm, 0, none⟩) n cm), (11, .int .i64 (n : Int)), (19, .pointer (some ⟨pb, 0, none⟩)), (3, .slice (some ⟨by_, 0, none⟩) ly.length cy)], []⟩)
      (fun p u => p.1 ≤ ly.length ∧ Kc w bs st3 st d bm by_ s4 s5 pb lm ly one vals (BW ^ n) (nv lx) n u ∧ Zs (OkB w bs st3 d bm by_ s4 s5) (BW ^ n) (nv lm) (nv lx) n u p.2.1 p.2.2.1 p.2.2.2 (nv (ly.drop p.1))) (fun p => p.1) (ly.length, bz, fz.length, _)
      ⟨⟨rfl, rfl, rfl, rfl, rfl, rfl, rfl, rfl, rfl, rfl, trivial⟩, rfl⟩ ⟨Nat.le_refl _, hK3, by rw [List.drop_of_length_le (Nat.le_refl _)]; exact hZ3⟩ ?_
    rintro ⟨i1, zb, zc, vq⟩ u ⟨hi, hK, hZ⟩
    dsimp only at hi hZ ⊢
    rcases Nat.eq_zero_or_pos i1 with rfl | hip
    · refine ⟨_, bGeF (by omega), ?_⟩
      refine ⟨fun hc => (by cases hc), fun _ => ?_⟩
      rw [List.drop_zero] at hZ
      exact ⟨(zb, zc, vq), ⟨⟨rfl, rfl, rfl, rfl, rfl, rfl, rfl, trivial⟩, rfl⟩, hK, hZ⟩
    obtain ⟨i, rfl⟩ : ∃ i, i1 = i + 1 := ⟨i1 - 1, by omega⟩
    refine ⟨_, bGe (by omega), ?_⟩
    refine ⟨fun _ => ?_, fun hc => (by cases hc)⟩
    rw [show ((i + 1 : Nat) : Int) - 1 = (i : Int) by omega]
    (refine sqn ?_)
    (refine vsb ?_)
    (refine vsr ?_)
    refine rnA (ia se_54 _ (by omega)) ?_
    refine rnC na_101 (hK.ky.cell (by omega)) ?_
    have hyB := hy.wf.dg i
    have hnd := nv_drop (l := ly) (i := i) (by omega)
    generalize dg ly i = yi0 at *
    (repeat refine vcl_v _ rfl rfl ?_); (refine vcl_end ?_)
    (refine vsr ?_)
    (repeat refine vcl_v _ rfl rfl ?_); (refine vcl_end ?_)
    refine vloop (Nat × Nat × Nat × Value × Nat × Nat) (fun p => ⟨(23, .int .i64 ((4 * p.1 : Nat) : Int)) :: (22, vw (p.2.2.2.2.1 * 2 ^ (4 * p.1))) :: (21, .int .i64 (i : Int)) :: (0, .slice (some ⟨p.2.1, 0, none⟩) n p.2.2.1) :: (17, p.2.2.2.1) :: [(18, .slice (some ⟨s4, 0, none⟩) n n), (13, vw kf), (1, .pointer (some ⟨bs, 0, none⟩)), (4, .slice (some ⟨bm, 0, none⟩) n cm), (11, .int .i64 (n : Int)), (19, .pointer (some ⟨pb, 0, none⟩)), (3, .slice (some ⟨by_, 0, none⟩) ly.length cy)], []⟩)
      (fun p u => p.1 ≤ 16 ∧ Kc w bs st3 st d bm by_ s4 s5 pb lm ly one vals (BW ^ n) (nv lx) n u ∧ Zs (OkB w bs st3 d bm by_ s4 s5) (BW ^ n) (nv lm) (nv lx) n u p.2.1 p.2.2.1 p.2.2.2.1 p.2.2.2.2.2 ∧ p.2.2.2.2.2 * 2 ^ (64 - 4 * p.1) + p.2.2.2.2.1 = nv (ly.drop i) ∧ p.2.2.2.2.1 < 2 ^ (64 - 4 * p.1)) (fun p => 16 - p.1) (0, zb, zc, vq, yi0, nv (ly.drop (i + 1)))
      ⟨⟨rfl, ?_, rfl, rfl, rfl, rfl, rfl, rfl, rfl, rfl, rfl, rfl, trivial⟩, rfl⟩ ⟨Nat.zero_le _, hK, hZ, ?_, hyB⟩ ?_
    · show some (vw yi0) = some (vw (yi0 * 2 ^ (4 * 0)))
      rw [Nat.mul_zero, Nat.pow_zero, Nat.mul_one]
    · show nv (ly.drop (i + 1)) * 2 ^ (64 - 4 * 0) + yi0 = _
      rw [hnd, show 64 - 4 * 0 = 64 by omega, ← BW_two, Nat.mul_comm, Nat.add_comm]
    rintro ⟨j, za, zd, vr, r, e⟩ u2 ⟨hj, hK2, hZ2, he, hr⟩
    dsimp only at hj hZ2 he hr ⊢
    rcases Nat.eq_or_lt_of_le hj with rfl | hj16
    · refine ⟨_, bLtF (by omega), ?_⟩
      refine ⟨fun hc => (by cases hc), fun _ => ?_⟩
      refine ⟨_, bSub (by omega), ?_⟩
      have hr0 : r = 0 := by
        rw [show 64 - 4 * 16 = 0 by omega, Nat.pow_zero] at hr; omega
      rw [hr0, show 64 - 4 * 16 = 0 by omega, Nat.pow_zero, Nat.mul_one, Nat.add_zero] at he
      rw [he] at hZ2
      exact ⟨(i, za, zd, vr), ⟨⟨rfl, rfl, rfl, rfl, rfl, rfl, rfl, rfl, rfl, rfl, trivial⟩, rfl⟩, ⟨by show i ≤ ly.length; omega, hK2, hZ2⟩, by show i < i + 1; omega⟩
    refine ⟨_, bLt (by omega), ?_⟩
    refine ⟨fun _ => ?_, fun hc => (by cases hc)⟩
    (refine sqn ?_)
    refine vbk ?_
    refine vcut (by repeat (first | exact moE _ _ _ | exact moEd _ _ _ | apply moB | apply moL | apply moV)) (Nat × Nat × Value) (fun p => ⟨(23, .int .i64 ((4 * j : Nat) : Int)) :: (22, vw (r * 2 ^ (4 * j))) :: (21, .int .i64 (i : Int)) :: (0, .slice (some ⟨p.1, 0, none⟩) n p.2.1) :: (17, p.2.2) :: [(18, .slice (some ⟨s4, 0, none⟩) n n), (13, vw kf), (1, .pointer (some ⟨bs, 0, none⟩)), (4, .slice (some ⟨bm, 0, none⟩) n cm), (11, .int .i64 (n : Int)), (19, .pointer (some ⟨pb, 0, none⟩)), (3, .slice (some ⟨by_, 0, none⟩) ly.length cy)], []⟩)
      (fun p u => Kc w bs st3 st d bm by_ s4 s5 pb lm ly one vals (BW ^ n) (nv lx) n u ∧ Zs (OkB w bs st3 d bm by_ s4 s5) (BW ^ n) (nv lm) (nv lx) n u p.1 p.2.1 p.2.2 (16 * e)) ?_ ?_
    · (refine vsr ?_)
      refine ⟨_, _, ln se_54 _ _ _ _ _ _, ?_⟩
      refine ⟨_, nSub ly.length 1 (by omega) (by omega), ?_⟩
      rcases Classical.em (i = ly.length - 1) with hi1 | hi1
      · refine ⟨_, bNeF (by omega), ?_⟩
        rcases Nat.eq_zero_or_pos j with rfl | hjp
        · refine ⟨_, bNeF (by omega), ?_⟩
          refine ⟨fun hc => (by cases hc), fun _ => ?_⟩
          have he0 : e = 0 := by
            rw [hnd, List.drop_of_length_le (by omega)] at he
            simp only [nv, Nat.mul_zero, Nat.add_zero] at he
            rw [← BW_two] at he
            rcases Nat.eq_zero_or_pos e with h | h
            · exact h
            · have : 1 * BW ≤ e * BW := Nat.mul_le_mul_right _ h
              omega
          subst he0
          exact ⟨(za, zd, vr), ⟨⟨rfl, rfl, rfl, rfl, rfl, rfl, rfl, rfl, rfl, rfl, rfl, rfl, trivial⟩, rfl⟩, hK2, hZ2⟩
        · refine ⟨_, bNe (by omega), ?_⟩
          refine ⟨fun _ => ?_, fun hc => (by cases hc)⟩
          (refine (mm_sq hK2 hZ2 hml hn0 hn100 hcop hkm).mono ?_; rintro _ ua ⟨z1, c1, rfl, hKa, hZa⟩; refine (mm_sq hKa hZa hml hn0 hn100 hcop hkm).mono ?_; rintro _ ub ⟨z2, c2, rfl, hKb, hZb⟩; refine (mm_sq hKb hZb hml hn0 hn100 hcop hkm).mono ?_; rintro _ uc ⟨z3, c3, rfl, hKc, hZc⟩; refine (mm_sq hKc hZc hml hn0 hn100 hcop hkm).mono ?_; rintro _ ud ⟨z4, c4, rfl, hKd, hZd⟩; exact ⟨(z4, c4, _), ⟨⟨rfl, rfl, rfl, rfl, rfl, rfl, rfl, rfl, rfl, rfl, rfl, rfl, trivial⟩, rfl⟩, hKd, by rw [show 16 * e = e + e + (e + e) + (e + e + (e + e)) + (e + e + (e + e) + (e + e + (e + e))) by omega]; exact hZd⟩)
      · refine ⟨_, bNe (by omega), ?_⟩
        refine ⟨fun _ => ?_, fun hc => (by cases hc)⟩
        (refine (mm_sq hK2 hZ2 hml hn0 hn100 hcop hkm).mono ?_; rintro _ ua ⟨z1, c1, rfl, hKa, hZa⟩; refine (mm_sq hKa hZa hml hn0 hn100 hcop hkm).mono ?_; rintro _ ub ⟨z2, c2, rfl, hKb, hZb⟩; refine (mm_sq hKb hZb hml hn0 hn100 hcop hkm).mono ?_; rintro _ uc ⟨z3, c3, rfl, hKc, hZc⟩; refine (mm_sq hKc hZc hml hn0 hn100 hcop hkm).mono ?_; rintro _ ud ⟨z4, c4, rfl, hKd, hZd⟩; exact ⟨(z4, c4, _), ⟨⟨rfl, rfl, rfl, rfl, rfl, rfl, rfl, rfl, rfl, rfl, rfl, rfl, trivial⟩, rfl⟩, hKd, by rw [show 16 * e = e + e + (e + e) + (e + e + (e + e)) + (e + e + (e + e) + (e + e + (e + e))) by omega]; exact hZd⟩)
    rintro ⟨za, zd, vr⟩ u3 ⟨hK3', hZ3'⟩
    dsimp only at hZ3' ⊢
    have hj60 : 4 * j ≤ 60 := by omega
    obtain ⟨hw16, r', hr', hsh, hrw⟩ := win_step hj60 hr
    have hpw4 : (2 : Nat) ^ (64 - 4 * j) = 16 * 2 ^ (60 - 4 * j) := by
      rw [show 64 - 4 * j = 4 + (60 - 4 * j) by omega, Nat.pow_add]
    (refine vsr ?_)
    refine ⟨_, wShr _ 60 _ (by omega), ?_⟩
    generalize hwe : r * 2 ^ (4 * j) / 2 ^ 60 = wd at *
    refine rnA (ixA ar_pow sz_54 _ hw16) ?_
    obtain ⟨b2, c2, rs2, hg2, hr2, hl2, hf2, hb2⟩ := hK3'.kpw wd hw16
    refine rnL na_54 hK3'.kcl (by rw [Nat.zero_add]; exact hg2) ?_
    refine (mm_pw hK3' hZ3' hml hn0 hn100 hcop hkm (c2 := c2) hr2 hl2 hf2 hb2).mono ?_
    rintro _ u4 ⟨zb4, zc4, rfl, hK4, hZ4⟩
    refine ⟨_, wShl _ 4 _ (by omega), ?_⟩
    rw [hsh]
    refine ⟨_, nAdd (4 * j) 4 (by omega), ?_⟩
    rw [show 4 * j + 4 = 4 * (j + 1) by omega] at hr' ⊢
    refine ⟨(j + 1, zb4, zc4, _, r', 16 * e + wd), ⟨⟨rfl, rfl, rfl, rfl, rfl, rfl, rfl, rfl, rfl, rfl, rfl, rfl, trivial⟩, rfl⟩, ⟨hj16, hK4, hZ4, ?_, hr'⟩, by show 16 - (j + 1) < 16 - j; omega⟩
    show (16 * e + wd) * 2 ^ (64 - 4 * (j + 1)) + r' = _
    rw [← he, hrw, hpw4, show 64 - 4 * (j + 1) = 60 - 4 * j by omega, Nat.add_mul, Nat.add_assoc, Nat.mul_comm 16 e, Nat.mul_assoc]
  rintro ⟨bz2, cz2, vq⟩ uz ⟨hK, hZ⟩
  dsimp only at hZ ⊢
  obtain ⟨rz, bq2, lq, oz, lz, fz2, kz, oq, kq, hne2⟩ := hZ.all
  (refine vsr ?_)
  refine (montgomery_c oq oz.rd0 hK.ko hK.km lz hone1.1 hml hn0 hn100 hkm (fun e => hne2 (by cases e; rfl)) (fun e => by cases e; have := kq.op; have := hK.ks4; omega) (fun e => kq.om (by cases e; rfl))).mono ?_
  rintro v u1 ⟨zb, rs, c, rfl, ho, hl, hv, hnd, hF⟩
  have hF' : Fm (fun b => b = bq2) uz u1 := hF.mono (fun b _ e => by cases e; rfl)
  have okz' : OkB w bs st3 d bm by_ s4 s5 zb := by
    rcases hnd with e | e
    · cases e; exact kq
    · exact hK.new e
  have hK1 := hK.fm' kq hF'
  have hval : nv rs % nv lm = nv lx ^ nv ly % nv lm := Mf.leave hcop fz2 (by rw [hv, hone1.2])
  clear hv hF' hF oz oq fz2 kz kq hnd hK hZ
  have hmu : ∀ {u : World}, Kc w bs st3 st d bm by_ s4 s5 pb lm ly one vals (BW ^ n) (nv lx) n u → Own u (.slice (some ⟨bm, 0, none⟩) n cm) (some bm) lm := fun h => hm.fm h.kfm (fun b e h => by
    cases e
    rcases h with h | h
    · exact (ad bm h).2.2 rfl
    · exact (s1 bm h).2.2.2 rfl)
  have ndz : ∀ {u : World} {d' : Option Nat}, (∀ b, d' = some b → OkB w bs st3 d bm by_ s4 s5 b ∧ b < u.heap.size) → Nd w u d d' := fun {u} {d'} h => by
    cases d' with
    | none => exact .inl rfl
    | some b =>
      obtain ⟨h1, h2⟩ := h b rfl
      rcases Nat.lt_or_ge b w.heap.size with h3 | h3
      · exact .inr (.inl (h1.od h3).symm)
      · exact .inr (.inr ⟨b, rfl, h3, h2⟩)
  (repeat refine vcl_v _ rfl rfl ?_); (refine vcl_end ?_)
  refine vcut (by repeat (first | exact moE _ _ _ | exact moEd _ _ _ | apply moB | apply moL | apply moV)) Value (fun v => ⟨[(17, v)], []⟩)
    (fun v u => ∃ d' l st', Own u v d' l ∧ nv l = nv lx ^ nv ly % nv lm ∧ Nd w u d d' ∧ St u bs st' ∧ Fm (fun b => d = some b ∨ inSt bs st b) w u ∧ (∀ b, inSt bs st' b → (inSt bs st b ∨ w.heap.size ≤ b) ∧ d' ≠ some b)) ?_ ?_
  · (refine vsr ?_)
    have ch := cmp_c (ca := c) (cb := cm) (Sv.of_rd ho.rd0) (Sv.of_rd hK1.km) (.inl (by omega)) (by omega) (by omega)
    rw [hl, hml] at ch
    refine ch.mono ?_
    rintro v u2 ⟨⟨hF2, hs2⟩, rfl⟩
    have hK2 := hK1.fm' okz' (hF2.mono (fun _ _ h => h.elim))
    have ho2 := ho.fm hF2 (fun _ _ h => h)
    rcases Nat.lt_or_ge (nv rs) (nv lm) with hlt | hge
    · refine ⟨_, bGeF (fun h => by have := ge_of_cmp.1 h; omega), ?_⟩
      refine ⟨fun hc => (by cases hc), fun _ => ?_⟩
      exact ⟨_, ⟨⟨rfl, trivial⟩, rfl⟩, some zb, rs, st3, ho2, by rw [← hval, Nat.mod_eq_of_lt hlt], ndz (fun b e => by cases e; exact ⟨okz', ho2.blt⟩), hK2.kst, hK2.kfm, fun b hb => ⟨hin3 b hb, fun e => by cases e; exact okz'.ost hb⟩⟩
    refine ⟨_, bGe (ge_of_cmp.2 hge), ?_⟩
    refine ⟨fun _ => ?_, fun hc => (by cases hc)⟩
    have hmge : BW ^ (n - 1) ≤ nv lm := by have := nm.ge hM0; rwa [hml] at this
    have hrn : Nrm rs := nrm_of_ge ho.wf (by intro e; rw [e] at hl; simp at hl; omega) (by rw [hl]; omega)
    refine (sub_c ho2 ho2 (hmu hK2) hrn hge (by omega) (by omega)).mono ?_
    rintro v u3 hr3
    obtain ⟨d3, l3, ho3, hn3, he3, hnd3, hF3⟩ := hr3.all
    have hK3 := hK2.fm' okz' (hF3.mono (fun b _ e => by cases e; rfl))
    have ok3 : ∀ b, d3 = some b → OkB w bs st3 d bm by_ s4 s5 b := fun b e => by
      rcases hnd3 with h | h | ⟨b', h, h2, _⟩
      · rw [h] at e; cases e
      · rw [h] at e; cases e; exact okz'
      · rw [h] at e; cases e; exact hK2.new h2
    have hvm : (nv rs - nv lm) % nv lm = nv lx ^ nv ly % nv lm := by rw [← hval, Nat.mod_eq_sub_mod hge]
    have hl3 : l3.length ≤ n := nv_length_le hn3 (by have := nv_lt ho.wf; rw [hl] at this; omega)
    obtain ⟨a3, c3, rfl, hc3, hc32, hsv3⟩ := ho3.val
    have ch := cmp_c (ca := c3) (cb := cm) hsv3 (Sv.of_rd hK3.km) (.inr ⟨hn3, nm⟩) (by omega) (by omega)
    rw [hml] at ch
    refine ch.mono ?_
    rintro v u4 ⟨⟨hF4, hs4'⟩, rfl⟩
    have ho4 := ho3.fm hF4 (fun _ _ h => h)
    have hK4 : Kc w bs st3 st d bm by_ s4 s5 pb lm ly one vals (BW ^ n) (nv lx) n u4 := hK3.fm' okz' (hF4.mono (fun _ _ h => h.elim))
    rcases Nat.lt_or_ge (nv l3) (nv lm) with hlt3 | hge3
    · refine ⟨_, bGeF (fun h => by have := ge_of_cmp.1 h; omega), ?_⟩
      refine ⟨fun hc => (by cases hc), fun _ => ?_⟩
      exact ⟨_, ⟨⟨rfl, trivial⟩, rfl⟩, d3, l3, st3, ho4, by rw [← hvm, ← he3, Nat.mod_eq_of_lt hlt3], ndz (fun b e => ⟨ok3 b e, by subst e; exact ho4.blt⟩), hK4.kst, hK4.kfm, fun b hb => ⟨hin3 b hb, fun e => (ok3 b e).ost hb⟩⟩
    refine ⟨_, bGe (ge_of_cmp.2 hge3), ?_⟩
    refine ⟨fun _ => ?_, fun hc => (by cases hc)⟩
    have hg4 : Gl u4 := hg.fmT hK4.kfm (fun b hb h => by
      rcases h with h | h
      · subst h
        obtain ⟨fl, _, hw, _⟩ := hz
        exact ⟨_, _, hw.cl, by decide⟩
      · exact inSt_cl hst h)
    refine (div_s hg4 hK4.kst (by omega) (Own.nil u4) (Own.nil u4) ho4 (hmu hK4) hn3 nm hM0 (by omega) (by omega) (fun b e => by cases e) (fun b e => by cases e) (k := k) (by omega) hge3 (fun b hb => ⟨by simp, by simp, fun e => (ok3 b e).ost hb, fun e => by
      cases e
      rcases hin3 _ hb with h | h
      · exact (s1 _ h).2.2.2 rfl
      · have := hRmw.lt; omega⟩)).mono ?_
    rintro v u5 ⟨vq, vr, dq, dr, lq, lr, st5, rfl, oq, nq, eq, or, nr, er, ndq, ndr, hne, hst5, hl5, hF5, hS5⟩
    have hsz4 := hK4.kfm.size
    refine ⟨_, ⟨⟨rfl, trivial⟩, rfl⟩, dr, lr, st5, or, by rw [er, he3, hvm], ?_, hst5, hK4.kfm.trans hF5 (fun b hb h => ?_), fun b hb => ⟨(hS5 b hb).1.elim (hin3 b) (fun h => .inr (by omega)), (hS5 b hb).2.2⟩⟩
    · rcases ndr with h | h | ⟨b', h, h2, h3⟩
      · exact .inl h
      · exact .inl h
      · exact .inr (.inr ⟨b', h, by omega, h3⟩)
    · rcases h with h | h | h
      · cases h
      · cases h
      · exact (hin3 b h).elim .inr (fun h => by omega)
  rintro v u ⟨d', l, st', ho', hv', hnd', hst', hF', hS'⟩
  obtain ⟨a', c', rfl, hc', hc2', hsv'⟩ := ho'.val
  refine (norm_c hsv' hc' (by omega)).mono ?_
  rintro v u2 ⟨rfl, mm, rfl, hN⟩
  refine ⟨rfl, d', l.take mm, st', ?_, hN.nrm, by rw [hN.nv]; exact hv', hnd', hst', hF', hS'⟩
  exact ho'.cut hN.le

end Go.Vc
end

section
/- nat.expNN, for an odd modulus and a long exponent. -/
set_option linter.unusedSimpArgs false
set_option linter.unusedVariables false
set_option maxRecDepth 8000
set_option maxHeartbeats 2000000
namespace Go.Vc
open Go.Proofs

theorem expNN_c {w : World} (hg : Gl w) {dx : Option Nat} {lx ly lm : List Nat} {xv : Value} (hx : Own w xv dx lx) (nx : Nrm lx) (hxl : lx.length ≤ 400) {by_ cy bm cm n k : Nat} (hy : Own w (.slice (some ⟨by_, 0, none⟩) ly.length cy) (some by_) ly) (hm : Own w (.slice (some ⟨bm, 0, none⟩) n cm) (some bm) lm)
    (nm : Nrm lm) (hml : lm.length = n) (hnk : n = k + 2) (hn : n ≤ 39) (hodd : nv lm % 2 = 1) (ny : Nrm ly) (hy0 : 1 < ly.length) (hyl : ly.length ≤ 100) (ax : dx ≠ some bm) {z : Value} {d : Option Nat} {l0 : List Nat} (hz : Own w z d l0) (ad : ∀ b, d = some b → dx ≠ some b ∧ b ≠ by_ ∧ b ≠ bm) :
    CallX P 100 #[z, .pointer none, xv, .slice (some ⟨by_, 0, none⟩) ly.length cy, .slice (some ⟨bm, 0, none⟩) n cm, .bool false] w fun v w' =>
      Res w w' d v (nv lx ^ nv ly % nv lm) := by
  have hM0 : lm ≠ [] := by intro e; rw [e] at hml; simp at hml; omega
  have hM1 : 1 < nv lm := by
    have h1 := nm.ge hM0
    rw [hml] at h1
    have h2 : BW ^ 1 ≤ BW ^ (n - 1) := pow_le_pow (by omega)
    rw [Nat.pow_one] at h2
    unfold BW at h2 h1; omega
  have hYp : 0 < nv ly := nv_pos ny (by intro e; rw [e] at hy0; simp at hy0)
  obtain ⟨ax', cx', rfl, hxc, hxc2, hsx⟩ := hx.val
  have small : ∀ {w1 w' : World} {v : Value} {x : Nat}, Fm (fun _ => False) w w1 → Res w1 w' d v x → x = nv lx ^ nv ly % nv lm → Res w w' d v (nv lx ^ nv ly % nv lm) := by
    intro w1 w' v x hF hr he
    obtain ⟨d', l, ho, hn', hv, hnd, hF2⟩ := hr.all
    have hs := hF.size
    refine ⟨d', l, ho, hn', by rw [hv, he], ?_, (hF.mono (fun _ _ h => h.elim)).trans hF2 (fun b _ e => e)⟩
    exact hnd.imp id (fun h => h.imp id (fun ⟨b, y1, y2, y3⟩ => ⟨b, y1, by omega, y3⟩))
  have hnil : ∀ {t : Bool} {db : Option Nat}, t = true → (t = true → d = db) → (∀ b, d = some b → db ≠ some b) → z = .slice none 0 0 := fun {t db} h1 h2 h3 => by
    have e := h2 h1
    cases d with
    | none => exact hz.1
    | some b => exact absurd e.symm (h3 b rfl)
  refine calls_vcd mo fn_100 rfl ok_100 (Nat.le_of_ble_eq_true rfl) nm_100 ?_
  (refine vsr ?_)
  (repeat refine vcl_v _ rfl rfl ?_); (refine vcl_end ?_)
  refine vcut (by repeat (first | exact moE _ _ _ | exact moEd _ _ _ | apply moB | apply moL | apply moV)) Unit (fun _ => ⟨[(0, z), (1, .pointer none), (2, .slice ax' lx.length cx'), (3, .slice (some ⟨by_, 0, none⟩) ly.length cy), (4, .slice (some ⟨bm, 0, none⟩) n cm), (5, .bool false)], []⟩)
    (fun _ u => Fm (fun _ => False) w u) ?_ ?_
  · (refine vsr ?_)
    refine (alias_c hz hx).mono ?_
    rintro v w1 ⟨rfl, t, rfl, ht1, ht2⟩
    cases t with
    | true =>
      refine ⟨fun _ => ?_, fun hc => (by cases hc)⟩
      rw [hnil rfl ht1 (fun b e => (ad b e).1)]
      exact ⟨(), ⟨⟨rfl, rfl, rfl, rfl, rfl, rfl, trivial⟩, rfl⟩, Fm.drew _ _⟩
    | false =>
      refine (alias_c hz.drew hy.drew).mono ?_
      rintro v w1 ⟨rfl, t, rfl, ht1, ht2⟩
      cases t with
      | true =>
        refine ⟨fun _ => ?_, fun hc => (by cases hc)⟩
        rw [hnil rfl ht1 (fun b e e2 => by cases e2; exact (ad _ e).2.1 rfl)]
        exact ⟨(), ⟨⟨rfl, rfl, rfl, rfl, rfl, rfl, trivial⟩, rfl⟩, (Fm.drew _ _).dr⟩
      | false =>
        refine ⟨fun hc => (by cases hc), fun _ => ?_⟩
        exact ⟨(), ⟨⟨rfl, rfl, rfl, rfl, rfl, rfl, trivial⟩, rfl⟩, (Fm.drew _ _).dr⟩
  rintro _ u hF
  have hz1 := hz.fm hF (fun _ _ h => h)
  have hx1 := hx.fm hF (fun _ _ h => h)
  have hy1 := hy.fm hF (fun _ _ h => h)
  have hm1 := hm.fm hF (fun _ _ h => h)
  refine ⟨_, _, ln se_54 _ _ _ _ _ _, ?_⟩
  refine ⟨_, bEqF (by omega), ?_⟩
  refine ⟨fun hc => (by cases hc), fun _ => ?_⟩
  refine ⟨_, _, ln se_54 _ _ _ _ _ _, ?_⟩
  refine ⟨_, bEqF (by omega), ?_⟩
  refine ⟨fun hc => (by cases hc), fun _ => ?_⟩
  refine ⟨_, _, ln se_54 _ _ _ _ _ _, ?_⟩
  rcases Classical.em (lx = []) with e0 | e0
  · subst e0
    refine ⟨_, bEq rfl, ?_⟩
    refine ⟨fun _ => ?_, fun hc => (by cases hc)⟩
    refine (setWord_c hz1 (x := 0) BW_pos).mono ?_
    rintro v w' hr
    refine small hF hr ?_
    rw [show nv [] = 0 from rfl, Nat.zero_pow hYp, Nat.zero_mod]
  have hlx : 0 < lx.length := List.length_pos_iff.2 e0
  refine ⟨_, bEqF (by omega), ?_⟩
  refine ⟨fun hc => (by cases hc), fun _ => ?_⟩
  obtain ⟨bx, cx2, rfl, hex, hrx, _, _⟩ := hx1.rd e0
  cases hex
  (refine sqn ?_)
  refine vcut (by repeat (first | exact moE _ _ _ | exact moEd _ _ _ | apply moB | apply moL | apply moV)) Unit (fun _ => ⟨[(0, z), (1, .pointer none), (2, .slice (some ⟨bx, 0, none⟩) lx.length cx'), (3, .slice (some ⟨by_, 0, none⟩) ly.length cy), (4, .slice (some ⟨bm, 0, none⟩) n cm), (5, .bool false)], []⟩)
    (fun _ u' => u' = u) ?_ ?_
  · (refine vsr ?_)
    refine ⟨_, _, ln se_54 _ _ _ _ _ _, ?_⟩
    rcases Classical.em (lx.length = 1) with h1 | h1
    · refine ⟨_, bEq (by omega), ?_⟩
      refine rnA (ia (i := 0) se_54 _ (by omega)) ?_
      refine rnC na_101 (hrx.cell (i := 0) (by omega)) ?_
      have hx1v := one_word h1
      rcases Classical.em (dg lx 0 = 1) with h2 | h2
      · refine ⟨_, bEq (by omega), ?_⟩
        refine ⟨fun _ => ?_, fun hc => (by cases hc)⟩
        refine (setWord_c hz1 (x := 1) (by unfold BW; omega)).mono ?_
        rintro v w' hr
        refine small hF hr ?_
        rw [hx1v, h2, Nat.one_pow, Nat.mod_eq_of_lt hM1]
      · refine ⟨_, bEqF (by omega), ?_⟩
        refine ⟨fun hc => (by cases hc), fun _ => ?_⟩
        exact ⟨(), ⟨⟨rfl, rfl, rfl, rfl, rfl, rfl, trivial⟩, rfl⟩, rfl⟩
    · refine ⟨_, bEqF (by omega), ?_⟩
      refine ⟨fun hc => (by cases hc), fun _ => ?_⟩
      exact ⟨(), ⟨⟨rfl, rfl, rfl, rfl, rfl, rfl, trivial⟩, rfl⟩, rfl⟩
  rintro _ u' rfl
  refine ⟨_, _, ln se_54 _ _ _ _ _ _, ?_⟩
  refine ⟨_, bEqF (by omega), ?_⟩
  refine ⟨fun hc => (by cases hc), fun _ => ?_⟩
  refine rnA (pEn (by kernel_rfl) none _ _) ?_
  refine ⟨fun _ => ?_, fun hc => (by cases hc)⟩
  refine (getStack_c u').mono ?_
  rintro v u2 ⟨rfl, hst, hF2, hs2⟩
  refine ⟨_, _, ln se_54 _ _ _ _ _ _, ?_⟩
  refine ⟨_, bEqF (by omega), ?_⟩
  refine ⟨fun hc => (by cases hc), fun _ => ?_⟩
  refine ⟨_, _, ln se_54 _ _ _ _ _ _, ?_⟩
  refine ⟨_, bNe (by omega), ?_⟩
  refine ⟨fun _ => ?_, fun hc => (by cases hc)⟩
  refine ⟨_, _, ln se_54 _ _ _ _ _ _, ?_⟩
  refine (make_c (hz1.fm hF2 (fun _ _ h => h)) (n := n) (by omega) (by omega)).mono ?_
  rintro v u3 ⟨bz, fz, hM⟩
  have hv := hM.v
  subst hv
  refine ⟨_, _, ln se_54 _ _ _ _ _ _, ?_⟩
  refine ⟨_, bGt (by omega), ?_⟩
  refine ⟨fun _ => ?_, fun hc => (by cases hc)⟩
  have hF13 : Fm (fun _ => False) u' u3 := hF2.trans hM.fm (fun _ _ h => h)
  have hx3 := hx1.fm hF13 (fun _ _ h => h)
  have hy3 := hy1.fm hF13 (fun _ _ h => h)
  have hm3 := hm1.fm hF13 (fun _ _ h => h)
  have hst3 : St u3 u'.heap.size none := hst.fm hM.fm (fun _ _ h => h)
  refine rnA (ia (i := 0) se_54 _ (by omega)) ?_
  refine rnC na_101 (hm3.rd0.cell (i := 0) (by omega)) ?_
  have hm0B := hm.wf.dg 0
  have hm0 : dg lm 0 % 2 = 1 := by
    rw [← nv_mod hm.wf, BW_eq]; omega
  refine ⟨_, wAnd _ 1 hm0B (by omega), ?_⟩
  rw [Nat.and_one_is_mod, hm0]
  refine ⟨_, bEq rfl, ?_⟩
  refine ⟨fun _ => ?_, fun hc => (by cases hc)⟩
  have l1 := hx1.blt
  have l2 := hy1.blt
  have l3 := hm1.blt
  have hoz := Own.mk' hM.wd hM.nl hM.c
  have hsz3 := hM.fm.size
  have hszu := hF.size
  have hd0 : ∀ b, d = some b → b < w.heap.size := fun b e => by subst e; exact hz.blt
  have l1w := hx.blt
  have l2w := hy.blt
  have l3w := hm.blt
  have hadz : some bx ≠ some bz ∧ bz ≠ by_ ∧ bz ≠ bm := by
    rcases hM.nd with h | h
    · exact ad bz h
    · exact ⟨fun e => by cases e; omega, by omega, by omega⟩
  refine (expM_c hst3 (by simp [lenOf]) ((hg.fm0 hF).fm0 hF13) hoz hx3 nx hxl hy3.rd0 hm3 nm hml hnk hn hodd (by omega) hyl ax (fun b e => ?_) (fun b hb => ?_)).mono ?_
  · cases e
    exact hadz
  · rcases hb with rfl | ⟨s, e, _⟩
    · refine ⟨fun e => ?_, fun e => by cases e; omega, by omega, by omega⟩
      cases e
      rcases hM.nd with h | h
      · have := hd0 _ h; omega
      · omega
    · cases e
  rintro v u4 ⟨d', l, st', ho, hn', hv', hnd, hst4, hF4, hS4⟩
  refine dfr_free ?_
  refine (free_d hst4).mono ?_
  intro u5 hF5
  have hsz4 := hF4.size
  have hsz5 := hF5.size
  have hbz : d = some bz ∨ u2.heap.size ≤ bz := hM.nd
  refine ⟨d', l, ho.fm hF5 (fun b e h => (hS4 b h).2 e), hn', hv', ?_, (((hF.mono (fun _ _ h => h.elim)).trans hF13 (fun _ _ h => h.elim)).trans hF4 (fun b hb h => ?_)).trans hF5 (fun b hb h => ?_)⟩
  · rcases hnd with h | h | ⟨b', h, h2, h3⟩
    · exact .inl h
    · rcases hbz with h4 | h4
      · exact .inr (.inl (by rw [h, h4]))
      · exact .inr (.inr ⟨bz, h, by omega, by have := hoz.blt; omega⟩)
    · exact .inr (.inr ⟨b', h, by omega, by omega⟩)
  · rcases h with h | h
    · cases h
      rcases hbz with h4 | h4
      · exact h4
      · omega
    · rcases h with rfl | ⟨s, e, _⟩
      · omega
      · cases e
  · rcases (hS4 b h).1 with h | h
    · rcases h with rfl | ⟨s, e, _⟩
      · omega
      · cases e
    · omega

end Go.Vc
end
