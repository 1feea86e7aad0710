/- The temporary stack: growing, taking, giving back. -/
import Derived.Test.YthahnloabllniaaGreatDoorM04
import Derived.Laws.Append
import Derived.Laws.AppendOwn
section
set_option linter.unusedSimpArgs false
set_option linter.unusedVariables false
set_option maxRecDepth 8000
namespace Go.Vc
open Go.Proofs

noncomputable def intTy (t : TypeId) : Bool := match P.underlying t with
  | some (.int _) => true
  | _ => false

theorem zeroCells_one (z : Value) (n : Nat) : Builtin.zeroCells #[z] n = (List.replicate n z).toArray := by
  apply Array.ext
  · simp [Builtin.zeroCells]
  · intro i h1 h2
    simp [Builtin.zeroCells, Nat.mod_one]

theorem word_info : ∃ i : TypeInfo, P.info? 101 = some i ∧ i.size = 1 ∧ i.zero = some (vw 0) ∧ i.bytes ≤ 64 := by
  have h1 : szOf 101 = some 1 := sz_101
  have h2 : zeroOf 101 = some (vw 0) := by kernel_rfl
  have h3 : byOk 101 = true := by kernel_rfl
  unfold szOf at h1; unfold zeroOf at h2; unfold byOk at h3
  cases hi : P.info? 101 with
  | none => rw [hi] at h1; cases h1
  | some i =>
    rw [hi] at h1 h2 h3
    exact ⟨i, rfl, by simpa using h1, by simpa using h2, Nat.le_of_ble_eq_true h3⟩

/-- What a slice that is grown holds: nothing, or a block of words, all of it. -/
def Src (w : World) (v : Value) (Z : List Nat) : Prop := (v = .slice none 0 0 ∧ Z = []) ∨ ∃ b, v = .slice (some ⟨b, 0, none⟩) Z.length Z.length ∧ Wd w b Z

theorem apW {t ti : TypeId} (h : slElem t = some 101) (hti : intTy ti = true) {w : World} {v : Value} {Z : List Nat} (hs : Src w v Z) {n : Nat} (h0 : 0 < n) (hn : Z.length + n ≤ 100000) (k : IntKind) (ty : TypeId) (cs : Array Bool) :
    ∃ w' c, (builtin .append #[t, ti] ty cs #[v, .int k (n : Int)]).run P w = .ok (.value (.slice (some ⟨w.heap.size, 0, none⟩) (Z.length + n) c)) w' ∧ (Z.length + n ≤ c ∧ c < 9223372036854775808) ∧
      Wd w' w.heap.size (Z ++ List.replicate (c - Z.length) 0) ∧ Fm (fun _ => False) w w' ∧ w'.heap.size = w.heap.size + 1 := by
  obtain ⟨hu, hsz⟩ := slElem_spec h
  obtain ⟨i, hi, hi1, hi2, hi3⟩ := word_info
  have hk : ∃ kk, P.underlying ti = some (.int kk) := by
    unfold intTy at hti
    split at hti
    · rename_i kk e; exact ⟨kk, e⟩
    · cases hti
  obtain ⟨kk, hk⟩ := hk
  have w1 : IntKind.i64.wrap (n : Int) = (n : Int) := wrap64_in (by omega)
  have c1 : ¬ ((n : Int) < 0) := by omega
  have c2 : ¬ (281474976710656 < (n : Int) * (i.bytes : Int)) := by
    have : n * i.bytes ≤ 100000 * 64 := Nat.mul_le_mul (by omega) hi3
    have e : (n : Int) * (i.bytes : Int) = ((n * i.bytes : Nat) : Int) := by rw [Int.natCast_mul]
    omega
  have c4 : ¬ (9223372036854775807 < (Z.length : Int) + (n : Int)) := by omega
  have hn0 : n ≠ 0 := by omega
  have c3 : ¬ (Z.length + n ≤ Z.length) := by omega
  have hge := grownCap_ge w (Z.length + n) Z.length 101
  have c5 : ¬ (281474976710656 < Builtin.nextslicecap (Z.length + n) Z.length * i.bytes) := by
    have := nextslicecap_le (need := Z.length + n) (old := Z.length) (by omega)
    have : Builtin.nextslicecap (Z.length + n) Z.length * i.bytes ≤ 200000 * 64 := Nat.mul_le_mul (by omega) hi3
    omega
  have hrow : ∀ c, Z.length + n ≤ c → (vws Z).toArray ++ ((List.replicate n (vw 0)).toArray ++ (List.replicate (c - (Z.length + n)) (vw 0)).toArray) = (vws (Z ++ List.replicate (c - Z.length) 0)).toArray := by
    intro c hc
    have e : c - Z.length = n + (c - (Z.length + n)) := by omega
    rw [e]
    apply Array.toList_inj.1
    simp [vws, ← List.replicate_append_replicate]
  have fin : ∀ c, Z.length + n ≤ c → ∃ w', w' = (w.drew.alloc (.cells (vws (Z ++ List.replicate (c - Z.length) 0)).toArray 101)) ∧ Wd w' w.heap.size (Z ++ List.replicate (c - Z.length) 0) ∧ Fm (fun _ => False) w w' ∧ w'.heap.size = w.heap.size + 1 := by
    intro c hc
    refine ⟨_, rfl, ⟨alloc_new (w := w.drew) _ _, ?_⟩, (alloc_fm w.drew _).drew', by simp⟩
    rcases hs with ⟨_, rfl⟩ | ⟨b, _, hw⟩
    · exact WF.append WF.nil (WF.replicate _ BW_pos)
    · exact hw.wf.append (WF.replicate _ BW_pos)
  obtain ⟨w', hw', hW, hF, hS⟩ := fin _ hge
  have hlt : grownCap w (Z.length + n) Z.length 101 < 9223372036854775808 := by
    have := grownCap_le_maxLen w (Z.length + n) Z.length 101 (by simp [maxLen]; omega)
    simp only [maxLen] at this; omega
  refine ⟨w', _, ?_, ⟨hge, hlt⟩, hW, hF, hS⟩
  rw [hw', ← hrow _ hge]
  rcases hs with ⟨rfl, rfl⟩ | ⟨b, rfl, hw⟩
  · have c4' : ¬ (9223372036854775807 < (n : Int)) := by omega
    have c5' : ¬ (281474976710656 < Builtin.nextslicecap n 0 * i.bytes) := by simpa using c5
    simp [builtin, Builtin.append_, run_und hu, run_und hk, asInt, asIntOf, sizeOf, typeInfo, zeroValue, hi, hi1, hi2, w1, c1, c2, c4', c5', hn0, Question.forced, Builtin.firstCells, zeroCells_one, newRow, grownCap, Value.cells, vws]
  · have hl := run_firstCells_some (P := P) w.drew 1 Z.length ⟨b, 0, none⟩ Z.length Z.length (vws Z) (by simp [vws]) (by
      intro j v hj
      have hj2 : j < Z.length := by
        have := (List.getElem?_eq_some_iff.1 hj).1
        rwa [vws_len] at this
      rw [vws_get hj2] at hj
      cases hj
      rw [addr_add]
      rw [Nat.zero_add]; exact hw.drew.cell hj2)
    simp [builtin, Builtin.append_, run_und hu, run_und hk, asInt, asIntOf, sizeOf, typeInfo, zeroValue, hi, hi1, hi2, hi3, w1, c1, c2, c3, c4, c5, hn0, Question.forced, hl, zeroCells_one, newRow, grownCap, Value.cells, vws]

/-- A slice that begins its block, of any room. -/
def Sl (w : World) (v : Value) (wb : Option Nat) (len : Nat) (Z : List Nat) : Prop :=
  match wb with
  | none => v = .slice none 0 0 ∧ len = 0 ∧ Z = []
  | some b => v = .slice (some ⟨b, 0, none⟩) len Z.length ∧ Wd w b Z ∧ len ≤ Z.length ∧ Z.length < 9223372036854775808

theorem Sl.fm {S : Nat → Prop} {w w' : World} {v : Value} {wb : Option Nat} {len : Nat} {Z : List Nat} (h : Sl w v wb len Z) (f : Fm S w w') (hs : ∀ b, wb = some b → ¬ S b) : Sl w' v wb len Z := by
  cases wb with
  | none => exact h
  | some b => exact ⟨h.1, h.2.1.fm f (hs b rfl), h.2.2⟩

structure Grown (w w' : World) (v : Value) (wb : Option Nat) (len n : Nat) (Z : List Nat) (b' : Nat) (Z' : List Nat) : Prop where
  v : v = .slice (some ⟨b', 0, none⟩) len Z'.length
  wd : Wd w' b' Z'
  n : len + n ≤ Z'.length
  c : Z'.length < 9223372036854775808
  fm : Fm (fun _ => False) w w'
  nd : (wb = some b' ∧ Z' = Z) ∨ w.heap.size = b'

theorem growNat_c {w : World} {v : Value} {wb : Option Nat} {len n : Nat} {Z : List Nat} (h : Sl w v wb len Z) (h0 : 0 < n) (hn : n ≤ 10000) (hl : len ≤ 10000) :
    CallX P 149 #[v, .int .i64 (n : Int)] w fun v w' => ∃ b' Z', Grown w w' v wb len n Z b' Z' := by
  have main : ∀ a c, v = .slice a len c → c < 9223372036854775808 → len ≤ c → Src w (.slice a c c) Z → Z.length = c → (len + n ≤ c → ∃ b, wb = some b ∧ a = some ⟨b, 0, none⟩ ∧ Wd w b Z) →
      CallX P 149 #[v, .int .i64 (n : Int)] w fun v w' => ∃ b' Z', Grown w w' v wb len n Z b' Z' := by
    intro a c hv hc hlc hs hZ hroom
    subst hv
    refine calls_vc mo fn_149 rfl ok_149 (Nat.le_of_ble_eq_true rfl) nm_149 ?_
    refine ⟨_, bLtF (by omega), ?_⟩
    refine ⟨fun hc => (by cases hc), fun _ => ?_⟩
    refine ⟨_, _, cp se_54 _ _ _ _ _ _, ?_⟩
    refine ⟨_, _, ln se_54 _ _ _ _ _ _, ?_⟩
    refine ⟨_, nSub c len hlc hc, ?_⟩
    refine ⟨_, bSub (by omega), ?_⟩
    rcases Nat.lt_or_ge c (len + n) with hg | hg
    · refine ⟨_, bGt (by omega), ?_⟩
      refine ⟨fun _ => ?_, fun hc => (by cases hc)⟩
      refine ⟨_, _, cp se_54 _ _ _ _ _ _, ?_⟩
      refine rnA (slHi se_54 _ (Nat.le_refl _)) ?_
      obtain ⟨m, hm⟩ : ∃ m : Nat, m = len + n - c := ⟨_, rfl⟩
      have hme : (n : Int) - ((c - len : Nat) : Int) = (m : Int) := by omega
      rw [hme]
      obtain ⟨w', cc, e, hcc, hW, hF, hS⟩ := apW se_54 (ti := 3) (by kernel_rfl) hs (n := m) (by omega) (by omega) .i64 _ _
      refine ⟨_, w', e, ?_⟩
      refine ⟨_, _, ln se_54 _ _ _ _ _ _, ?_⟩
      refine rnA (slHi se_54 _ (by omega)) ?_
      refine ⟨rfl, ?_⟩
      have hlen : (Z ++ List.replicate (cc - Z.length) 0).length = cc := by simp; omega
      exact ⟨w.heap.size, _, by rw [hlen]; rfl, hW, by rw [hlen]; omega, by rw [hlen]; exact hcc.2, hF, .inr rfl⟩
    · refine ⟨_, bGtF (by omega), ?_⟩
      refine ⟨fun hc => (by cases hc), fun _ => ?_⟩
      refine ⟨rfl, ?_⟩
      obtain ⟨b, h1, h2, h3⟩ := hroom hg
      subst h2
      exact ⟨b, Z, by rw [hZ]; rfl, h3, by omega, by omega, Fm.refl _ _, .inl ⟨h1, rfl⟩⟩
  cases wb with
  | none =>
    obtain ⟨rfl, rfl, rfl⟩ := h
    exact main none 0 rfl (by omega) (Nat.le_refl _) (.inl ⟨rfl, rfl⟩) rfl (fun h => by omega)
  | some b =>
    obtain ⟨rfl, hw, h1, h2⟩ := h
    exact main _ _ rfl h2 h1 (.inr ⟨b, rfl, hw⟩) rfl (fun _ => ⟨b, rfl, rfl, hw⟩)

theorem growW_c {w : World} {v : Value} {wb : Option Nat} {len n : Nat} {Z : List Nat} (h : Sl w v wb len Z) (h0 : 0 < n) (hn : n ≤ 10000) (hl : len ≤ 10000) :
    CallX P 169 #[v, .int .i64 (n : Int)] w fun v w' => ∃ b' Z', Grown w w' v wb len n Z b' Z' := by
  have main : ∀ a c, v = .slice a len c → c < 9223372036854775808 → len ≤ c → Src w (.slice a c c) Z → Z.length = c → (len + n ≤ c → ∃ b, wb = some b ∧ a = some ⟨b, 0, none⟩ ∧ Wd w b Z) →
      CallX P 169 #[v, .int .i64 (n : Int)] w fun v w' => ∃ b' Z', Grown w w' v wb len n Z b' Z' := by
    intro a c hv hc hlc hs hZ hroom
    subst hv
    refine calls_vc mo fn_169 rfl ok_169 (Nat.le_of_ble_eq_true rfl) nm_169 ?_
    refine ⟨_, bLtF (by omega), ?_⟩
    refine ⟨fun hc => (by cases hc), fun _ => ?_⟩
    refine ⟨_, _, cp se_53 _ _ _ _ _ _, ?_⟩
    refine ⟨_, _, ln se_53 _ _ _ _ _ _, ?_⟩
    refine ⟨_, nSub c len hlc hc, ?_⟩
    refine ⟨_, bSub (by omega), ?_⟩
    rcases Nat.lt_or_ge c (len + n) with hg | hg
    · refine ⟨_, bGt (by omega), ?_⟩
      refine ⟨fun _ => ?_, fun hc => (by cases hc)⟩
      refine ⟨_, _, cp se_53 _ _ _ _ _ _, ?_⟩
      refine rnA (slHi se_53 _ (Nat.le_refl _)) ?_
      obtain ⟨m, hm⟩ : ∃ m : Nat, m = len + n - c := ⟨_, rfl⟩
      have hme : (n : Int) - ((c - len : Nat) : Int) = (m : Int) := by omega
      rw [hme]
      obtain ⟨w', cc, e, hcc, hW, hF, hS⟩ := apW se_53 (ti := 3) (by kernel_rfl) hs (n := m) (by omega) (by omega) .i64 _ _
      refine ⟨_, w', e, ?_⟩
      refine ⟨_, _, ln se_53 _ _ _ _ _ _, ?_⟩
      refine rnA (slHi se_53 _ (by omega)) ?_
      refine ⟨rfl, ?_⟩
      have hlen : (Z ++ List.replicate (cc - Z.length) 0).length = cc := by simp; omega
      exact ⟨w.heap.size, _, by rw [hlen]; rfl, hW, by rw [hlen]; omega, by rw [hlen]; exact hcc.2, hF, .inr rfl⟩
    · refine ⟨_, bGtF (by omega), ?_⟩
      refine ⟨fun hc => (by cases hc), fun _ => ?_⟩
      refine ⟨rfl, ?_⟩
      obtain ⟨b, h1, h2, h3⟩ := hroom hg
      subst h2
      exact ⟨b, Z, by rw [hZ]; rfl, h3, by omega, by omega, Fm.refl _ _, .inl ⟨h1, rfl⟩⟩
  cases wb with
  | none =>
    obtain ⟨rfl, rfl, rfl⟩ := h
    exact main none 0 rfl (by omega) (Nat.le_refl _) (.inl ⟨rfl, rfl⟩) rfl (fun h => by omega)
  | some b =>
    obtain ⟨rfl, hw, h1, h2⟩ := h
    exact main _ _ rfl h2 h1 (.inr ⟨b, rfl, hw⟩) rfl (fun _ => ⟨b, rfl, rfl, hw⟩)

end Go.Vc
end

section
/- The temporary stack: its methods. -/
set_option linter.unusedSimpArgs false
set_option linter.unusedVariables false
set_option maxRecDepth 8000
namespace Go.Vc
open Go.Proofs

/-! ### Pointers held against nil; a slice of three indexes; rounding up -/

theorem eqIn_pn (d : Nat) {t : TypeId} (h : ptOk t = true) (w : World) (a : Option Addr) : (Op.equalIn (d + 1) t (.pointer a) (.pointer none)).run P w = .ok a.isNone w := by
  unfold ptOk at h
  split at h
  · rename_i e hu
    cases a <;> simp [Op.equalIn, run_und hu]
  · cases h

theorem pEn {t : TypeId} (h : ptOk t = true) (a : Option Addr) (x y : Operand) (w : World) :
    (do eqGuard .eql t x y (.pointer a) (.pointer none); binOp .eql t (.pointer a) (.pointer none) : Sem Value).run P w = .ok (.bool a.isNone) w := by
  have := eqIn_pn 9999 h w a
  simp [binOp, eqGuard, Op.equal, show Op.maxDepth = 9999 + 1 from rfl, this]

theorem pNn {t : TypeId} (h : ptOk t = true) (a : Option Addr) (x y : Operand) (w : World) :
    (do eqGuard .neq t x y (.pointer a) (.pointer none); binOp .neq t (.pointer a) (.pointer none) : Sem Value).run P w = .ok (.bool (!a.isNone)) w := by
  have := eqIn_pn 9999 h w a
  simp [binOp, eqGuard, Op.equal, show Op.maxDepth = 9999 + 1 from rfl, this]

theorem sl3 {t e : TypeId} (h : slElem t = some e) {a : Option Addr} {n c lo hi mx : Nat} (k k' k2 : IntKind) (h1 : lo ≤ hi) (h2 : hi ≤ mx) (h3 : mx ≤ c) (w : World) :
    (Instr.sliceAt t (.slice a n c) (some (.int k (lo : Int))) (some (.int k' (hi : Int))) (some (.int k2 (mx : Int)))).run P w = .ok (.slice (subA a lo mx) (hi - lo) (mx - lo)) w := by
  obtain ⟨hu, hs⟩ := slElem_spec h
  simp only [Instr.sliceAt, Instr.slice, Instr.sliceBounds, Sem.run_bind, run_und hu, Result.andThen_ok, sliceBound_ok h1, sliceBound_ok h2, sliceBound_ok h3, pure, Sem.run, sizeOf_run hs, if_true, Option.isSome]
  simp only [subA, Nat.mul_one]

theorem x3 {t e : TypeId} (h : slElem t = some e) {ρ : Operand → Value} {o : Oper} {x l hh m : Operand} (ho : o.op = .slice t x (some l) (some hh) (some m)) {a : Option Addr} {n c lo hi mx : Nat} {k k' k2 : IntKind}
    (hx : ρ x = .slice a n c) (hl : ρ l = .int k (lo : Int)) (hhi : ρ hh = .int k' (hi : Int)) (hm : ρ m = .int k2 (mx : Int)) (h1 : lo ≤ hi) (h2 : hi ≤ mx) (h3 : mx ≤ c) (w : World) :
    (execOp ρ o).run P w = .ok (.value (.slice (subA a lo mx) (hi - lo) (mx - lo))) w := by
  have : execOp ρ o = (do pure (.value (← Instr.sliceAt t (ρ x) (some (ρ l)) (some (ρ hh)) (some (ρ m)))) : Sem Next) := by
    obtain ⟨dst, op, type, pos, after, guard⟩ := o
    simp only at ho
    subst ho
    rfl
  rw [this, hx, hl, hhi, hm]
  simp only [Sem.run_bind, sl3 h k k' k2 h1 h2 h3, Result.andThen_ok]
  rfl

theorem round4 {x : Nat} (hx : x < 1000000) : binV .andNot .i64 .i64 (x : Int) 3 = some (.int .i64 ((x / 4 * 4 : Nat) : Int)) := by
  have e : (BitVec.ofInt 64 (x : Int) &&& ~~~ BitVec.ofInt 64 3).toNat = x / 4 * 4 := by
    have e1 : BitVec.ofInt 64 (x : Int) = BitVec.ofNat 64 x := by simp
    have e2 : (~~~ BitVec.ofInt 64 3) = BitVec.ofNat 64 (2 ^ 64 - (3 + 1)) := by decide
    rw [e1, e2, BitVec.toNat_and, BitVec.toNat_ofNat, BitVec.toNat_ofNat, Nat.mod_eq_of_lt (by omega), Nat.mod_eq_of_lt (by omega)]
    apply Nat.eq_of_testBit_eq
    intro i
    rw [Nat.testBit_and, Nat.testBit_two_pow_sub_succ (by omega)]
    have e3 : x / 4 * 4 = (x >>> 2) <<< 2 := by rw [Nat.shiftLeft_eq, Nat.shiftRight_eq_div_pow]
    rw [e3, Nat.testBit_shiftLeft, Nat.testBit_shiftRight]
    rcases Nat.lt_or_ge i 2 with h | h
    · have : i = 0 ∨ i = 1 := by omega
      rcases this with rfl | rfl <;> simp [Nat.testBit]
    · have h3 : Nat.testBit 3 i = false := Nat.testBit_lt_two_pow (Nat.lt_of_lt_of_le (show 3 < 2 ^ 2 by omega) (Nat.pow_le_pow_right (by omega) h))
      rw [show 2 + (i - 2) = i by omega]
      rcases Nat.lt_or_ge i 64 with h4 | h4
      · simp [h, h4, h3]
      · have : x.testBit i = false := Nat.testBit_lt_two_pow (Nat.lt_of_lt_of_le (show x < 2 ^ 64 by omega) (Nat.pow_le_pow_right (by omega) h4))
        simp [this]
  show some (Value.int .i64 (IntKind.i64.wrap ((BitVec.ofInt 64 (x : Int) &&& ~~~ BitVec.ofInt 64 3).toNat : Int))) = _
  rw [e, wrap64_in (by omega)]

/-! ### The state -/

def StI (w : World) (bi : Nat) (wb : Option Nat) (len : Nat) (Z : List Nat) : Prop := ∃ v, Cl w bi [v] 198 ∧ Sl w v wb len Z ∧ v.oneCell' = true

structure Sk where
  bi : Nat
  wb : Option Nat
  len : Nat
  Z : List Nat

def St (w : World) (bs : Nat) : Option Sk → Prop
  | none => Cl w bs [.pointer none] 193
  | some s => Cl w bs [.pointer (some ⟨s.bi, 0, none⟩)] 193 ∧ StI w s.bi s.wb s.len s.Z

/-- The stack's own blocks. -/
def inSt (bs : Nat) (st : Option Sk) (b : Nat) : Prop := b = bs ∨ ∃ s, st = some s ∧ (b = s.bi ∨ s.wb = some b)

theorem StI.fm {S : Nat → Prop} {w w' : World} {bi : Nat} {wb : Option Nat} {len : Nat} {Z : List Nat} (h : StI w bi wb len Z) (f : Fm S w w') (h1 : ¬ S bi) (h2 : ∀ b, wb = some b → ¬ S b) : StI w' bi wb len Z := by
  obtain ⟨v, a, b, c⟩ := h
  exact ⟨v, f.obj a h1, b.fm f h2, c⟩

theorem St.fm {S : Nat → Prop} {w w' : World} {bs : Nat} {st : Option Sk} (h : St w bs st) (f : Fm S w w') (hs : ∀ b, inSt bs st b → ¬ S b) : St w' bs st := by
  cases st with
  | none => exact f.obj h (hs bs (.inl rfl))
  | some s => exact ⟨f.obj h.1 (hs bs (.inl rfl)), h.2.fm f (hs _ (.inr ⟨s, rfl, .inl rfl⟩)) (fun b e => hs b (.inr ⟨s, rfl, .inr e⟩))⟩

theorem Cl.ne_T {w : World} {b b2 : Nat} {cs cs2 : List Value} {T T2 : TypeId} (h : Cl w b cs T) (h2 : Cl w b2 cs2 T2) (hT : T ≠ T2) : b ≠ b2 := by
  intro e
  subst e
  have := h.symm.trans h2
  simp at this
  exact hT this.2

theorem Sl.one {w : World} {v : Value} {wb : Option Nat} {len : Nat} {Z : List Nat} (h : Sl w v wb len Z) : v.oneCell' = true := by
  cases wb with
  | none => rw [h.1]; rfl
  | some b => rw [h.1]; rfl

/-- What nat hands out: n words from the place o of the block b on. -/
structure Tk (w w' : World) (S : Nat → Prop) (v : Value) (n : Nat) (wb : Option Nat) (len : Nat) (wb' : Option Nat) (len' b o c : Nat) (Z : List Nat) : Prop where
  v : v = .slice (some ⟨b, o, none⟩) n c
  c : n ≤ c
  wd : Wd w' b Z
  hz : o + n ≤ Z.length
  nd : (wb = some b ∧ o = len) ∨ w.heap.size ≤ b
  up : wb' = some b → o + n ≤ len'
  old : ∀ b2 Z2, wb = some b2 → Wd w b2 Z2 → len ≤ Z2.length → ∃ Z3, Wd w' b2 Z3 ∧ Z3.length = Z2.length ∧ Z3.take len = Z2.take len
  fm : Fm S w w'

theorem take_set_ge {l : List Nat} {i n x : Nat} (h : n ≤ i) : (l.set i x).take n = l.take n := by
  apply List.ext_getElem
  · simp
  · intro j h1 h2
    simp at h1
    simp [List.getElem_set, show ¬ i = j by omega]

theorem innerNat_c {w : World} {bi : Nat} {wb : Option Nat} {len : Nat} {Z : List Nat} (h : StI w bi wb len Z) {n : Nat} (h0 : 0 < n) (hn : n ≤ 500) (hl : len ≤ 5000) :
    CallX P 150 #[.pointer (some ⟨bi, 0, none⟩), .int .i64 (n : Int)] w fun v w' => ∃ wb' Z' b o c ZZ, StI w' bi wb' (len + (n + 3) / 4 * 4) Z' ∧
      Tk w w' (fun k => k = bi ∨ wb = some k) v n wb len wb' (len + (n + 3) / 4 * 4) b o c ZZ ∧ (wb' = wb ∨ ∃ k, wb' = some k ∧ w.heap.size ≤ k) := by
  obtain ⟨s, hc, hs, h1⟩ := h
  have hsl : ∃ a c, s = .slice a len c := by
    cases wb with
    | none => obtain ⟨rfl, rfl, _⟩ := hs; exact ⟨none, 0, rfl⟩
    | some b => exact ⟨_, _, hs.1⟩
  obtain ⟨a0, c0, hse⟩ := hsl
  refine calls_vc mo fn_150 rfl ok_150 (Nat.le_of_ble_eq_true rfl) nm_150 ?_
  refine ⟨_, nAdd n 3 (by omega), ?_⟩
  refine ⟨_, round4 (by omega), ?_⟩
  generalize hr : (n + 3) / 4 * 4 = r
  have hr1 : n ≤ r ∧ r ≤ n + 3 := by omega
  refine rnA (fa fo_198_0 _ _) ?_
  refine rnL na_53 hc rfl ?_
  rw [hse]
  refine ⟨_, _, ln se_53 _ _ _ _ _ _, ?_⟩
  rw [← hse]
  refine rnA (fa fo_198_0 _ _) ?_
  refine rnL na_53 hc rfl ?_
  refine (growW_c hs (n := r) (by omega) (by omega) (by omega)).mono ?_
  rintro v w1 ⟨b', Z', hg⟩
  have hv := hg.v
  subst hv
  have hbi1 : Cl w1 bi [s] 198 := hg.fm.obj hc (fun h => h)
  have hne : bi ≠ b' := hbi1.ne_T hg.wd.cl (by decide)
  refine rnA (fa fo_198_0 _ _) ?_
  obtain ⟨w2, e2, hc2, hF2, hs2⟩ := Vc.st sz_53 hbi1 (i := 0 + 0) (by simp) (v := .slice (some ⟨b', 0, none⟩) len Z'.length) rfl
  refine ⟨w2, e2, ?_⟩
  refine rnA (fa fo_198_0 _ _) ?_
  refine rnL na_53 hc2 rfl ?_
  refine ⟨_, nAdd len r (by omega), ?_⟩
  refine rnA (slHi se_53 _ hg.n) ?_
  refine rnA (fa fo_198_0 _ _) ?_
  obtain ⟨w3, e3, hc3, hF3, hs3⟩ := Vc.st sz_53 hc2 (i := 0 + 0) (by simp) (v := .slice (some ⟨b', 0, none⟩) (len + r) Z'.length) rfl
  refine ⟨w3, e3, ?_⟩
  refine rnA (fa fo_198_0 _ _) ?_
  refine rnL na_53 hc3 rfl ?_
  refine ⟨_, nAdd len n (by omega), ?_⟩
  refine ⟨_, nAdd len n (by omega), ?_⟩
  refine ⟨_, _, x3 se_53 rfl rfl rfl rfl rfl (by omega) (by omega) (by have := hg.n; omega) _, ?_⟩
  rw [subA_some (by omega), Nat.add_sub_cancel_left, show 0 + len = len from Nat.zero_add len]
  refine ⟨_, bGt (by omega), ?_⟩
  refine ⟨fun _ => ?_, fun hc => (by cases hc)⟩
  refine rnA (ia (i := 0) se_53 _ (by omega)) ?_
  have hW3 : Wd w3 b' Z' := (hg.wd.fm hF2 (Ne.symm hne)).fm hF3 (Ne.symm hne)
  obtain ⟨w4, e4, hW4, hF4, hs4⟩ := hW3.st (i := len + 0) (by have := hg.n; omega) (x := 1043915) (by unfold BW; omega)
  refine ⟨w4, e4, ?_⟩
  refine ⟨rfl, ?_⟩
  rw [Nat.add_zero] at hW4
  have hlen : (Z'.set len 1043915).length = Z'.length := List.length_set
  have hc4 : Cl w4 bi [.slice (some ⟨b', 0, none⟩) (len + r) Z'.length] 198 := hF4.obj hc3 hne
  have hF24 : Fm (fun k => k = bi ∨ k = b') w1 w4 := ((hF2.mono (S2 := fun k => k = bi ∨ k = b') (fun _ _ h => .inl h)).trans hF3 (fun _ _ h => .inl h)).trans hF4 (fun _ _ h => .inr h)
  refine ⟨some b', Z'.set len 1043915, b', len, n, Z'.set len 1043915, ⟨_, hc4, ⟨by rw [hlen], hW4, by rw [hlen]; exact hg.n, by rw [hlen]; exact hg.c⟩, rfl⟩, ⟨rfl, Nat.le_refl _, hW4, by rw [hlen]; have := hg.n; omega, ?_, fun _ => by omega, ?_, ?_⟩, ?_⟩
  · rcases hg.nd with ⟨h, _⟩ | h
    · exact .inl ⟨h, rfl⟩
    · exact .inr (by omega)
  · intro b2 Z2 hb2 hw2 hle
    have hw2' : Wd w1 b2 Z2 := hw2.fm hg.fm (fun h => h)
    rcases Classical.em (b2 = b') with e | e
    · subst e
      have := hw2'.uniq hg.wd
      subst this
      exact ⟨_, hW4, hlen, take_set_ge (Nat.le_refl _)⟩
    · have hnb : b2 ≠ bi := fun e2 => by
        subst e2
        exact hbi1.ne_T hw2'.cl (by decide) rfl
      exact ⟨Z2, hw2'.fm hF24 (fun h => h.elim hnb e), rfl, rfl⟩
  · refine (hg.fm.mono (S2 := fun k => k = bi ∨ wb = some k) (fun _ _ h => h.elim)).trans hF24 (fun k hk h => ?_)
    rcases h with h | h
    · exact .inl h
    · subst h
      rcases hg.nd with ⟨h, _⟩ | h
      · exact .inr h
      · omega
  · rcases hg.nd with ⟨h, _⟩ | h
    · exact .inl h.symm
    · exact .inr ⟨b', rfl, by omega⟩

end Go.Vc
end

section
/- The temporary stack: getStack, save, nat, restore, free. -/
set_option linter.unusedSimpArgs false
set_option linter.unusedVariables false
set_option maxRecDepth 8000
namespace Go.Vc
open Go.Proofs

def lenOf : Option Sk → Nat
  | none => 0
  | some s => s.len
def wbOf : Option Sk → Option Nat
  | none => none
  | some s => s.wb
def atLen (k : Nat) : Option Sk → Option Sk
  | none => none
  | some s => some { s with len := k }

theorem inSt_atLen {bs k : Nat} {st : Option Sk} {b : Nat} : inSt bs (atLen k st) b ↔ inSt bs st b := by
  cases st with
  | none => exact Iff.rfl
  | some s => simp [inSt, atLen]

theorem getStack_c (w : World) : CallX P 113 #[] w fun v w' => v = .pointer (some ⟨w.heap.size, 0, none⟩) ∧ St w' w.heap.size none ∧ Fm (fun _ => False) w w' ∧ w'.heap.size = w.heap.size + 1 := by
  refine calls_vc mo fn_113 rfl ok_113 (Nat.le_of_ble_eq_true rfl) nm_113 ?_
  have hz : (Instr.build 193 #[]).run P w = .ok (.agg #[.pointer none]) w := by kernel_rfl
  refine ⟨_, w, hz, ?_⟩
  obtain ⟨w', e, hc, hf, hs⟩ := bx 193 (v := .agg #[.pointer none]) (cs := [.pointer none]) rfl w
  refine ⟨_, w', e, ?_⟩
  exact ⟨rfl, rfl, hc, hf, hs⟩

theorem innerSave_c {w : World} {bi : Nat} {wb : Option Nat} {len : Nat} {Z : List Nat} (h : StI w bi wb len Z) : CallX P 148 #[.pointer (some ⟨bi, 0, none⟩)] w fun v w' => w = w' ∧ v = .int .i64 (len : Int) := by
  obtain ⟨s, hc, hs, h1⟩ := h
  have hsl : ∃ a c, s = .slice a len c := by
    cases wb with
    | none => obtain ⟨rfl, rfl, _⟩ := hs; exact ⟨none, 0, rfl⟩
    | some b => exact ⟨_, _, hs.1⟩
  obtain ⟨a0, c0, rfl⟩ := hsl
  refine calls_vc mo fn_148 rfl ok_148 (Nat.le_of_ble_eq_true rfl) nm_148 ?_
  refine rnA (fa fo_198_0 _ _) ?_
  refine rnL na_53 hc rfl ?_
  refine ⟨_, _, ln se_53 _ _ _ _ _ _, ?_⟩
  exact ⟨rfl, rfl, rfl⟩

theorem save_c {w : World} {bs : Nat} {st : Option Sk} (h : St w bs st) : CallX P 122 #[.pointer (some ⟨bs, 0, none⟩)] w fun v w' => w = w' ∧ v = .int .i64 (lenOf st : Int) := by
  cases st with
  | none =>
    refine calls_vc mo fn_122 rfl ok_122 (Nat.le_of_ble_eq_true rfl) nm_122 ?_
    refine rnA (fa fo_193_0 _ _) ?_
    refine rnL na_191 h rfl ?_
    refine rnA (pEn (by kernel_rfl) none _ _) ?_
    refine ⟨fun _ => ?_, fun hc => (by cases hc)⟩
    exact ⟨rfl, rfl, rfl⟩
  | some s =>
    refine calls_vc mo fn_122 rfl ok_122 (Nat.le_of_ble_eq_true rfl) nm_122 ?_
    refine rnA (fa fo_193_0 _ _) ?_
    refine rnL na_191 h.1 rfl ?_
    refine rnA (pEn (by kernel_rfl) (some _) _ _) ?_
    refine ⟨fun hc => (by cases hc), fun _ => ?_⟩
    refine (innerSave_c h.2).mono ?_
    rintro v w1 ⟨rfl, rfl⟩
    exact ⟨rfl, rfl, rfl⟩

theorem innerRestore_c {w : World} {bi : Nat} {wb : Option Nat} {len : Nat} {Z : List Nat} (h : StI w bi wb len Z) {k : Nat} (hk : k ≤ len) :
    CallX P 147 #[.pointer (some ⟨bi, 0, none⟩), .int .i64 (k : Int)] w fun v w' => StI w' bi wb k Z ∧ Fm (· = bi) w w' := by
  obtain ⟨s, hc, hs, h1⟩ := h
  have hsl : ∃ a c, s = .slice a len c ∧ len ≤ c ∧ ∀ w', Cl w' bi [.slice a k c] 198 → Fm (· = bi) w w' → StI w' bi wb k Z := by
    cases wb with
    | none =>
      obtain ⟨rfl, rfl, rfl⟩ := hs
      refine ⟨none, 0, rfl, Nat.le_refl _, fun w' hc' _ => ⟨_, hc', ⟨?_, by omega, rfl⟩, rfl⟩⟩
      rw [show k = 0 by omega]
    | some b =>
      obtain ⟨rfl, hw, hl, hb⟩ := hs
      refine ⟨_, _, rfl, hl, fun w' hc' f => ⟨_, hc', ⟨rfl, hw.fm f (fun e => ?_), by omega, hb⟩, rfl⟩⟩
      exact (hc.ne_T hw.cl (by decide)) e.symm
  obtain ⟨a0, c0, rfl, hlc, hfin⟩ := hsl
  refine calls_vc mo fn_147 rfl ok_147 (Nat.le_of_ble_eq_true rfl) nm_147 ?_
  refine rnA (fa fo_198_0 _ _) ?_
  refine rnL na_53 hc rfl ?_
  refine rnA (slHi se_53 _ (by omega)) ?_
  refine rnA (fa fo_198_0 _ _) ?_
  obtain ⟨w3, e3, hc3, hF3, hs3⟩ := Vc.st sz_53 hc (i := 0 + 0) (by simp) (v := .slice a0 k c0) rfl
  refine ⟨w3, e3, ?_⟩
  exact ⟨rfl, hfin w3 hc3 hF3, hF3⟩

theorem innerFree_c {w : World} {bi : Nat} {wb : Option Nat} {len : Nat} {Z : List Nat} (h : StI w bi wb len Z) :
    CallX P 141 #[.pointer (some ⟨bi, 0, none⟩)] w fun v w' => Fm (· = bi) w w' := by
  obtain ⟨s, hc, hs, h1⟩ := h
  have hsl : ∃ a c, s = .slice a len c := by
    cases wb with
    | none => obtain ⟨rfl, rfl, _⟩ := hs; exact ⟨none, 0, rfl⟩
    | some b => exact ⟨_, _, hs.1⟩
  obtain ⟨a0, c0, rfl⟩ := hsl
  refine calls_vc mo fn_141 rfl ok_141 (Nat.le_of_ble_eq_true rfl) nm_141 ?_
  refine rnA (fa fo_198_0 _ _) ?_
  refine rnL na_53 hc rfl ?_
  refine rnA (slHi (hi := 0) se_53 _ (Nat.zero_le _)) ?_
  refine rnA (fa fo_198_0 _ _) ?_
  obtain ⟨w3, e3, hc3, hF3, hs3⟩ := Vc.st sz_53 hc (i := 0 + 0) (by simp) (v := .slice a0 0 c0) rfl
  refine ⟨w3, e3, ?_⟩
  exact ⟨rfl, hF3⟩

theorem restore_d {w : World} {bs : Nat} {st : Option Sk} (h : St w bs st) {k : Nat} (hk : st = none ∨ k ≤ lenOf st) :
    CallD P 121 #[.pointer (some ⟨bs, 0, none⟩), .int .i64 (k : Int)] w fun w' => St w' bs (atLen k st) ∧ Fm (inSt bs st) w w' := by
  cases st with
  | none =>
    refine cd_vc mo fn_121 rfl ok_121 (Nat.le_of_ble_eq_true rfl) ?_
    refine rnA (fa fo_193_0 _ _) ?_
    refine rnL na_191 h rfl ?_
    refine rnA (pEn (by kernel_rfl) none _ _) ?_
    refine ⟨fun _ => ?_, fun hc => (by cases hc)⟩
    exact ⟨rfl, h, Fm.refl _ _⟩
  | some s =>
    refine cd_vc mo fn_121 rfl ok_121 (Nat.le_of_ble_eq_true rfl) ?_
    refine rnA (fa fo_193_0 _ _) ?_
    refine rnL na_191 h.1 rfl ?_
    refine rnA (pEn (by kernel_rfl) (some _) _ _) ?_
    refine ⟨fun hc => (by cases hc), fun _ => ?_⟩
    refine (innerRestore_c h.2 (k := k) (hk.resolve_left (by simp))).mono ?_
    rintro v w1 ⟨h1, h2⟩
    refine ⟨rfl, ⟨h2.obj h.1 ?_, h1⟩, h2.mono (fun b _ e => .inr ⟨s, rfl, .inl e⟩)⟩
    obtain ⟨v2, hc2, _⟩ := h.2
    exact h.1.ne_T hc2 (by decide)

theorem free_d {w : World} {bs : Nat} {st : Option Sk} (h : St w bs st) : CallD P 114 #[.pointer (some ⟨bs, 0, none⟩)] w fun w' => Fm (inSt bs st) w w' := by
  cases st with
  | none =>
    refine cd_vc mo fn_114 rfl ok_114 (Nat.le_of_ble_eq_true rfl) ?_
    refine rnA (fa fo_193_0 _ _) ?_
    refine rnL na_191 h rfl ?_
    refine rnA (pNn (by kernel_rfl) none _ _) ?_
    refine ⟨fun hc => (by cases hc), fun _ => ?_⟩
    exact ⟨rfl, Fm.refl _ _⟩
  | some s =>
    refine cd_vc mo fn_114 rfl ok_114 (Nat.le_of_ble_eq_true rfl) ?_
    refine rnA (fa fo_193_0 _ _) ?_
    refine rnL na_191 h.1 rfl ?_
    refine rnA (pNn (by kernel_rfl) (some _) _ _) ?_
    refine ⟨fun _ => ?_, fun hc => (by cases hc)⟩
    refine (innerFree_c h.2).mono ?_
    rintro v w1 h2
    exact ⟨rfl, h2.mono (fun b _ e => .inr ⟨s, rfl, .inl e⟩)⟩

/-- What nat hands out. -/
theorem nat_c {w : World} {bs : Nat} {st : Option Sk} (h : St w bs st) {n : Nat} (h0 : 0 < n) (hn : n ≤ 500) (hl : lenOf st ≤ 5000) :
    CallX P 123 #[.pointer (some ⟨bs, 0, none⟩), .int .i64 (n : Int)] w fun v w' => ∃ st' b o c ZZ, St w' bs st' ∧ lenOf st ≤ lenOf st' ∧ lenOf st' ≤ lenOf st + n + 3 ∧ (st' = none → st = none) ∧
      (∀ b, inSt bs st' b → inSt bs st b ∨ w.heap.size ≤ b) ∧ Tk w w' (inSt bs st) v n (wbOf st) (lenOf st) (wbOf st') (lenOf st') b o c ZZ := by
  cases st with
  | none =>
    rcases Nat.lt_or_ge 4 n with h4 | h4
    · refine calls_vc mo fn_123 rfl ok_123 (Nat.le_of_ble_eq_true rfl) nm_123 ?_
      refine rnA (fa fo_193_0 _ _) ?_
      refine rnL na_191 h rfl ?_
      refine rnA (pEn (by kernel_rfl) none _ _) ?_
      refine ⟨fun _ => ?_, fun hc => (by cases hc)⟩
      refine ⟨_, bLeF (by omega), ?_⟩
      refine ⟨fun hc => (by cases hc), fun _ => ?_⟩
      obtain ⟨w1, e1, hc1, hF1, hs1⟩ := nw (t := 198) (z := .agg #[.slice none 0 0]) (by kernel_rfl) (cs := [.slice none 0 0]) rfl w
      refine ⟨_, w1, e1, ?_⟩
      refine rnA (fa fo_193_0 _ _) ?_
      obtain ⟨w2, e2, hc2, hF2, hs2⟩ := Vc.st sz_191 (hF1.obj h (fun h => h)) (i := 0 + 0) (by simp) (v := .pointer (some ⟨w.heap.size, 0, none⟩)) rfl
      refine ⟨w2, e2, ?_⟩
      have hlt : bs < w.heap.size := lt_of_obj h
      have hI : StI w2 w.heap.size none 0 [] := ⟨_, hF2.obj hc1 (by omega), ⟨rfl, rfl, rfl⟩, rfl⟩
      refine (innerNat_c hI h0 hn (by omega)).mono ?_
      rintro v w3 ⟨wb', Z', b, o, c, ZZ, hI3, hT, hnd⟩
      have hsz : w.heap.size ≤ w2.heap.size := by omega
      have hF12 : Fm (inSt bs none) w w2 := (hF1.mono (S2 := inSt bs none) (fun _ _ h => h.elim)).trans hF2 (fun _ _ h => .inl h)
      have hF3 : Fm (inSt bs none) w w3 := hF12.trans hT.fm (fun k hk h => by
        rcases h with h | h
        · omega
        · cases h)
      refine ⟨rfl, some ⟨w.heap.size, wb', 0 + (n + 3) / 4 * 4, Z'⟩, b, o, c, ZZ, ⟨hT.fm.obj hc2 (fun e => ?_), hI3⟩, Nat.zero_le _, by simp only [lenOf]; omega, fun e => (by cases e), ?_, ⟨hT.v, hT.c, hT.wd, hT.hz, ?_, hT.up, ?_, hF3⟩⟩
      · rcases e with e | e
        · omega
        · cases e
      · rintro k (e | ⟨s, e, h5⟩)
        · exact .inl (.inl e)
        · cases e
          right
          rcases h5 with h5 | h5
          · simp only at h5; omega
          · rcases hnd with h6 | ⟨k2, h6, h7⟩
            · simp only [h6] at h5; cases h5
            · simp only [h6, Option.some.injEq] at h5; omega
      · rcases hT.nd with ⟨h6, _⟩ | h6
        · cases h6
        · exact .inr (by omega)
      · intro b2 Z2 h6; cases h6
    · refine calls_vc mo fn_123 rfl ok_123 (Nat.le_of_ble_eq_true rfl) nm_123 ?_
      refine rnA (fa fo_193_0 _ _) ?_
      refine rnL na_191 h rfl ?_
      refine rnA (pEn (by kernel_rfl) none _ _) ?_
      refine ⟨fun _ => ?_, fun hc => (by cases hc)⟩
      refine ⟨_, bLe (by omega), ?_⟩
      refine ⟨fun _ => ?_, fun hc => (by cases hc)⟩
      refine (growNat_c (wb := none) (len := 0) (Z := []) ⟨rfl, rfl, rfl⟩ (n := n) h0 (by omega) (by omega)).mono ?_
      rintro v w1 ⟨b', Z', hg⟩
      have hv := hg.v
      subst hv
      have hgn := hg.n
      refine rnA (slHi se_54 _ (by omega)) ?_
      refine ⟨_, bGt (by omega), ?_⟩
      refine ⟨fun _ => ?_, fun hc => (by cases hc)⟩
      refine rnA (ia (i := 0) se_54 _ (by omega)) ?_
      obtain ⟨w2, e2, hW2, hF2, hs2⟩ := hg.wd.st (i := 0 + 0) (by omega) (x := 11259375) (by unfold BW; omega)
      refine ⟨w2, e2, ?_⟩
      have hb : w.heap.size = b' := by
        rcases hg.nd with ⟨h6, _⟩ | h6
        · cases h6
        · exact h6
      have hlt : bs < w.heap.size := lt_of_obj h
      have hlen : (Z'.set (0 + 0) 11259375).length = Z'.length := List.length_set
      have hF : Fm (inSt bs none) w w2 := (hg.fm.mono (S2 := inSt bs none) (fun _ _ h => h.elim)).trans hF2 (fun k hk e => by subst e; omega)
      exact ⟨rfl, none, b', 0, Z'.length, _, hF2.obj (hg.fm.obj h (fun h => h)) (by omega), Nat.le_refl _, by simp only [lenOf]; omega, fun _ => rfl, fun k hk => .inl hk,
        ⟨rfl, by omega, hW2, by rw [hlen]; omega, .inr (by omega), fun e => (by cases e), fun b2 Z2 e => (by cases e), hF⟩⟩
  | some s =>
    refine calls_vc mo fn_123 rfl ok_123 (Nat.le_of_ble_eq_true rfl) nm_123 ?_
    refine rnA (fa fo_193_0 _ _) ?_
    refine rnL na_191 h.1 rfl ?_
    refine rnA (pEn (by kernel_rfl) (some _) _ _) ?_
    refine ⟨fun hc => (by cases hc), fun _ => ?_⟩
    refine (innerNat_c h.2 h0 hn hl).mono ?_
    rintro v w3 ⟨wb', Z', b, o, c, ZZ, hI3, hT, hnd⟩
    have hne : bs ≠ s.bi := by
      obtain ⟨v2, hc2, _⟩ := h.2
      exact h.1.ne_T hc2 (by decide)
    have hnw : s.wb ≠ some bs := by
      intro e
      obtain ⟨v2, hc2, hs2, _⟩ := h.2
      rw [e] at hs2
      exact h.1.ne_T hs2.2.1.cl (by decide) rfl
    refine ⟨rfl, some ⟨s.bi, wb', s.len + (n + 3) / 4 * 4, Z'⟩, b, o, c, ZZ, ⟨hT.fm.obj h.1 (fun e => e.elim hne hnw), hI3⟩, by simp only [lenOf]; omega, by simp only [lenOf]; omega, fun e => (by cases e), ?_,
      ⟨hT.v, hT.c, hT.wd, hT.hz, hT.nd, hT.up, hT.old, hT.fm.mono (fun k _ e => .inr ⟨s, rfl, e⟩)⟩⟩
    rintro k (e | ⟨s2, e, h5⟩)
    · exact .inl (.inl e)
    · cases e
      rcases h5 with h5 | h5
      · exact .inl (.inr ⟨s, rfl, .inl h5⟩)
      · rcases hnd with h6 | ⟨k2, h6, h7⟩
        · simp only [h6] at h5; exact .inl (.inr ⟨s, rfl, .inr h5⟩)
        · simp only [h6, Option.some.injEq] at h5; right; omega

end Go.Vc
end

section
/- Division by one word: divWVW, divW. -/
set_option linter.unusedSimpArgs false
set_option linter.unusedVariables false
set_option maxRecDepth 8000
namespace Go.Vc
open Go.Proofs

/-- One word more of a quotient. -/
theorem quo_step {x N y : Nat} (hy : 0 < y) : (x + BW * N) / y = (N % y * BW + x) / y + BW * (N / y) ∧ (x + BW * N) % y = (N % y * BW + x) % y := by
  have e := Nat.div_add_mod N y
  have e2 : x + BW * N = (N % y * BW + x) + y * (BW * (N / y)) := by
    have : BW * N = BW * (y * (N / y) + N % y) := by rw [e]
    rw [this, Nat.mul_add, Nat.mul_comm BW (N % y), ← Nat.mul_assoc BW y, Nat.mul_comm BW y, Nat.mul_assoc y BW]
    omega
  rw [e2]
  exact ⟨Nat.add_mul_div_left _ _ hy, Nat.add_mul_mod_self_left _ _ _⟩

theorem nv_drop {l : List Nat} {i : Nat} (h : i < l.length) : nv (l.drop i) = dg l i + BW * nv (l.drop (i + 1)) := by
  rw [drop_dg h]; rfl

theorem divWVW_c {w : World} {bz bx cz cx : Nat} {Z xs : List Nat} (hZ : Wd w bz Z) (hx : Rd w bx 0 xs) (hn : 0 < xs.length) (hz : xs.length ≤ Z.length) (hb : xs.length ≤ 100000) {y : Nat} (hy : y ≠ 0) (hyB : y < BW) :
    CallX P 140 #[.slice (some ⟨bz, 0, none⟩) xs.length cz, vw 0, .slice (some ⟨bx, 0, none⟩) xs.length cx, vw y] w fun v w' =>
      ∃ zs, zs.length = xs.length ∧ Wd w' bz (splice Z 0 zs) ∧ nv zs = nv xs / y ∧ v = vw (nv xs % y) ∧ Fm (· = bz) w w' := by
  have hy0 : 0 < y := Nat.pos_of_ne_zero hy
  refine calls_vc mo fn_140 rfl ok_140 (Nat.le_of_ble_eq_true rfl) nm_140 ?_
  refine ⟨_, _, ln se_53 _ _ _ _ _ _, ?_⟩
  rcases Nat.lt_or_ge xs.length 2 with h1 | h2
  · have hl1 : xs.length = 1 := by omega
    refine ⟨_, bEq (by omega), ?_⟩
    refine ⟨fun _ => ?_, fun hc => (by cases hc)⟩
    refine rnA (ia (i := 0) se_53 _ hn) ?_
    refine rnC na_101 (hx.cell hn) ?_
    refine (bitsDiv_c (hi := 0) hy0 hyB (hx.wf.dg 0) w).mono ?_
    rintro v w1 ⟨⟨hF1, hs1⟩, rfl⟩
    refine rnA (ia (i := 0) se_53 _ hn) ?_
    have hq : (0 * BW + dg xs 0) / y < BW := Nat.lt_of_le_of_lt (Nat.div_le_self _ _) (by rw [Nat.zero_mul, Nat.zero_add]; exact hx.wf.dg 0)
    obtain ⟨w2, e2, hW2, hF2, hs2⟩ := (hZ.fm hF1 (fun h => h)).st (i := 0 + 0) (by omega) hq
    refine ⟨w2, e2, ?_⟩
    have hnv : nv xs = 0 * BW + dg xs 0 := by
      have := nv_take_succ (l := xs) (i := 0) hn
      rw [show xs.take (0 + 1) = xs from List.take_of_length_le (by omega)] at this
      rw [this]; simp [nv]
    have hset : Z.set (0 + 0) ((0 * BW + dg xs 0) / y) = splice Z 0 [(0 * BW + dg xs 0) / y] := by
      have := splice_snoc (Z := Z) (o := 0) (l := []) (by simp; omega) ((0 * BW + dg xs 0) / y)
      rw [splice_nil] at this; exact this
    rw [hset] at hW2
    refine ⟨rfl, _, by simp; omega, hW2, by rw [hnv]; simp [nv], by rw [hnv]; rfl, (hF1.mono (S2 := (· = bz)) (fun _ _ h => h.elim)).trans hF2 (fun _ _ h => h)⟩
  refine ⟨_, bEqF (by omega), ?_⟩
  refine ⟨fun hc => (by cases hc), fun _ => ?_⟩
  refine (reciprocalWord_c hy hyB w).mono ?_
  rintro v w1 ⟨⟨hF1, hs1⟩, rfl⟩
  refine ⟨_, _, ln se_53 _ _ _ _ _ _, ?_⟩
  refine ⟨_, bSub (by omega), ?_⟩
  have hZ1 : Wd w1 bz Z := hZ.fm hF1 (fun h => h)
  have hx1 := hx.fm0 hF1
  refine vloop (List Nat) (fun l => ⟨[(0, .slice (some ⟨bz, 0, none⟩) xs.length cz), (2, .slice (some ⟨bx, 0, none⟩) xs.length cx), (3, vw y), (11, vw (recip (y * 2 ^ lz y))), (8, vw (nv (xs.drop (xs.length - l.length)) % y)), (12, .int .i64 ((xs.length : Int) - 1 - (l.length : Int)))], []⟩)
    (fun l u => l.length ≤ xs.length ∧ Wd u bz (splice Z (xs.length - l.length) l) ∧ Fm (· = bz) w1 u ∧ nv l = nv (xs.drop (xs.length - l.length)) / y) (fun l => xs.length - l.length) []
    ⟨⟨rfl, rfl, rfl, rfl, by simp [nv]; rfl, by simp; rfl, trivial⟩, rfl⟩ ⟨by simp, by rw [splice_nil]; exact hZ1, Fm.refl _ _, by simp [nv]⟩ ?_
  rintro l u ⟨hl, hW, hF, hv⟩
  rcases Nat.lt_or_ge l.length xs.length with hlt | hge
  · refine ⟨_, bGe (by omega), ?_⟩
    refine ⟨fun _ => ?_, fun hc => (by cases hc)⟩
    obtain ⟨i, hi⟩ : ∃ i : Nat, i = xs.length - l.length - 1 := ⟨_, rfl⟩
    have hie : (xs.length : Int) - 1 - (l.length : Int) = (i : Int) := by omega
    have hd : xs.length - l.length = i + 1 := by omega
    rw [hie]
    rw [hd] at hW hv
    have hfit : i + 1 + l.length ≤ Z.length := by omega
    refine rnA (ia se_53 _ (by omega)) ?_
    have rc := rd_out (i := i) hx1 hZ1 hF hW hfit (fun _ => by omega) (by omega)
    refine rnC na_101 rc ?_
    have hrl : nv (xs.drop (xs.length - l.length)) % y < y := Nat.mod_lt _ hy0
    rw [hd] at hrl ⊢
    obtain ⟨q1, q2⟩ := quo_step (x := dg xs i) (N := nv (xs.drop (i + 1))) hy0
    have hnd := nv_drop (l := xs) (i := i) (by omega)
    refine (divWW_c (x1 := nv (xs.drop (i + 1)) % y) hrl hyB (hx.wf.dg i) rfl u).mono ?_
    rintro v w2 ⟨rfl, rfl⟩
    refine rnA (ia se_53 _ (by omega)) ?_
    have hqB : (nv (xs.drop (i + 1)) % y * BW + dg xs i) / y < BW := by
      rw [Nat.div_lt_iff_lt_mul hy0]
      have h3 : (nv (xs.drop (i + 1)) % y + 1) * BW ≤ y * BW := Nat.mul_le_mul_right _ hrl
      rw [Nat.add_mul] at h3
      have := hx.wf.dg i
      rw [Nat.mul_comm BW y]
      omega
    obtain ⟨w3, e3, hW3, hF3, hs3⟩ := hW.st (i := 0 + i) (by rw [splice_len hfit]; omega) hqB
    refine ⟨w3, e3, ?_⟩
    refine ⟨_, bSub (by omega), ?_⟩
    rw [Nat.zero_add, splice_cons hfit] at hW3
    refine ⟨(nv (xs.drop (i + 1)) % y * BW + dg xs i) / y :: l, ⟨⟨rfl, rfl, rfl, rfl, ?_, ?_, trivial⟩, rfl⟩, ⟨by simp; omega, ?_, hF.trans hF3 (fun _ _ h => h), ?_⟩, by simp; omega⟩
    · show some (vw ((nv (xs.drop (i + 1)) % y * BW + dg xs i) % y)) = some (vw (nv (xs.drop (xs.length - (l.length + 1))) % y))
      rw [show xs.length - (l.length + 1) = i by omega, hnd, q2]
    · show some (Value.int .i64 ((i : Int) - 1)) = some (Value.int .i64 ((xs.length : Int) - 1 - ((l.length + 1 : Nat) : Int)))
      congr 2; omega
    · rw [show xs.length - ((nv (xs.drop (i + 1)) % y * BW + dg xs i) / y :: l).length = i by simp; omega]
      exact hW3
    · rw [show xs.length - ((nv (xs.drop (i + 1)) % y * BW + dg xs i) / y :: l).length = i by simp; omega, hnd, q1]
      simp only [nv, hv]
  · have hll : l.length = xs.length := by omega
    refine ⟨_, bGeF (by omega), ?_⟩
    refine ⟨fun hc => (by cases hc), fun _ => ?_⟩
    have h0 : xs.length - l.length = 0 := by omega
    rw [h0] at hW hv ⊢
    rw [List.drop_zero] at hv ⊢
    exact ⟨rfl, l, hll, hW, hv, rfl, (hF1.mono (S2 := (· = bz)) (fun _ _ h => h.elim)).trans hF (fun _ _ h => h)⟩

theorem divW_c {w : World} {z x : Value} {d dx : Option Nat} {l0 lx : List Nat} (hz : Own w z d l0) (hx : Own w x dx lx) (nx : Nrm lx) (hn : lx.length ≤ 400) {y : Nat} (hy : y ≠ 0) (hyB : y < BW) :
    CallX P 112 #[z, x, vw y] w fun v w' => ∃ q, v = .tuple #[q, vw (nv lx % y)] ∧ Res w w' d q (nv lx / y) := by
  obtain ⟨ax, cx, hxe, hcx, hcx2, hsx⟩ := hx.val
  refine calls_vc mo fn_112 rfl ok_112 (Nat.le_of_ble_eq_true rfl) nm_112 ?_
  rw [hxe]
  refine ⟨_, _, ln se_54 _ _ _ _ _ _, ?_⟩
  refine ⟨_, bEqF (by omega), ?_⟩
  refine ⟨fun hc => (by cases hc), fun _ => ?_⟩
  rcases Nat.lt_or_ge y 2 with h1 | h2
  · have : y = 1 := by omega
    subst this
    refine ⟨_, bEq rfl, ?_⟩
    refine ⟨fun _ => ?_, fun hc => (by cases hc)⟩
    rw [← hxe]
    refine (set_c hz hx nx (by omega)).mono ?_
    rintro v w1 h
    refine ⟨rfl, v, ?_, by rw [Nat.div_one]; exact h⟩
    rw [Nat.mod_one]; rfl
  refine ⟨_, bEqF (by omega), ?_⟩
  refine ⟨fun hc => (by cases hc), fun _ => ?_⟩
  rcases Classical.em (lx = []) with e | e
  · subst e
    refine ⟨_, bEq rfl, ?_⟩
    refine ⟨fun _ => ?_, fun hc => (by cases hc)⟩
    obtain ⟨a, c, n, rfl, hr⟩ := zero_res hz
    refine rnA (slHi (hi := 0) se_54 _ (Nat.zero_le _)) ?_
    refine ⟨rfl, .slice a 0 c, ?_, ?_⟩
    · simp [nv, tupV]
    · simp only [nv, Nat.zero_div]; exact hr
  have hlx : 0 < lx.length := List.length_pos_iff.2 e
  refine ⟨_, bEqF (by omega), ?_⟩
  refine ⟨fun hc => (by cases hc), fun _ => ?_⟩
  refine (make_c hz (n := lx.length) (by omega) (by omega)).mono ?_
  rintro v w1 ⟨b, full, hm⟩
  have hv := hm.v
  subst hv
  obtain ⟨bx, cx', rfl, hxe', rx, _, _⟩ := hx.rd e
  rw [hxe] at hxe'; cases hxe'
  have hfn := hm.nl
  refine (divWVW_c (cz := full.length) (cx := cx) hm.wd (rx.fm0 hm.fm) hlx (by omega) (by omega) hy hyB).mono ?_
  rintro v w2 ⟨zs, hzl, hW2, hv2, rfl, hF2⟩
  have hsl : (splice full 0 zs).length = full.length := splice_len (by omega)
  have cn := norm_res (w := w) (d := d) (n := lx.length) (x := nv lx / y) hW2 (by rw [hsl]; omega) (by rw [hsl]; exact hm.c) (hm.fd hF2) hm.nd (by
    rw [← hzl, take_splice_all (by omega)]; exact hv2)
  rw [hsl] at cn
  refine cn.mono ?_
  rintro v w5 h
  exact ⟨rfl, v, rfl, h⟩

end Go.Vc
end

section
/- Long division: the plain laws. No program. -/
set_option linter.unusedSimpArgs false
set_option linter.unusedVariables false
namespace Go.Vc

/-! ### The guess of a digit -/

/-- W and V and their tops Ut and Vt, each of them cut off behind the same places (N is the base's power). -/
structure QIn (N V W Vt Ut : Nat) : Prop where
  v1 : Vt * N ≤ V
  v2 : V < (Vt + 1) * N
  w1 : Ut * N ≤ W
  w2 : W < (Ut + 1) * N
  top : BW ≤ Vt

theorem QIn.N0 {N V W Vt Ut : Nat} (h : QIn N V W Vt Ut) : 0 < N := by
  rcases Nat.eq_zero_or_pos N with e | e
  · have := h.v2; rw [e] at this; simp at this
  · exact e

theorem QIn.V0 {N V W Vt Ut : Nat} (h : QIn N V W Vt Ut) : 0 < V := by
  have h1 : 1 * 1 ≤ Vt * N := Nat.mul_le_mul (by have := h.top; have := BW_pos; omega) h.N0
  have := h.v1
  omega

theorem QIn.hi {N V W Vt Ut : Nat} (h : QIn N V W Vt Ut) : W / V * Vt ≤ Ut := by
  have h1 : W / V * V ≤ W := Nat.div_mul_le_self _ _
  have h2 : W / V * (Vt * N) ≤ W / V * V := Nat.mul_le_mul_left _ h.v1
  have h3 : W / V * Vt * N < (Ut + 1) * N := by rw [Nat.mul_assoc]; have := h.w2; omega
  have := Nat.lt_of_mul_lt_mul_right h3
  omega

theorem QIn.ok {N V W Vt Ut qh : Nat} (h : QIn N V W Vt Ut) (hq : qh * Vt ≤ Ut) (hB : qh < BW) : qh ≤ W / V + 1 := by
  rcases Nat.eq_zero_or_pos qh with e | e
  · rw [e]; exact Nat.zero_le _
  · have h1 : qh * V ≤ qh * ((Vt + 1) * N) := Nat.mul_le_mul_left _ (Nat.le_of_lt h.v2)
    have h2 : qh * ((Vt + 1) * N) = qh * Vt * N + qh * N := by rw [← Nat.mul_assoc, Nat.mul_add, Nat.mul_one, Nat.add_mul]
    have h3 : qh * Vt * N ≤ Ut * N := Nat.mul_le_mul_right _ hq
    have h4 : (qh + 1) * N ≤ Vt * N := Nat.mul_le_mul_right _ (by have := h.top; omega)
    have h5 := h.v1
    have h6 := h.w1
    rw [Nat.add_mul] at h4
    have h7 : (qh - 1) * V ≤ W := by
      rw [Nat.sub_mul, Nat.one_mul]; omega
    have := (Nat.le_div_iff_mul_le h.V0).2 h7
    omega

/-- Where the first digits are alike, the greatest digit is a guess. -/
theorem QIn.max {N V W Vt Ut v1 : Nat} (h : QIn N V W Vt Ut) (hv : Vt < (v1 + 1) * BW) (hu : v1 * (BW * BW) ≤ Ut) (hn : BW ≤ 2 * v1 + 2) : BW - 1 ≤ W / V + 1 := by
  have h1 : (BW - 2) * V ≤ (BW - 2) * ((v1 + 1) * BW * N) := by
    refine Nat.mul_le_mul_left _ (Nat.le_trans (Nat.le_of_lt h.v2) ?_)
    exact Nat.mul_le_mul_right _ hv
  have h2 : v1 * (BW * BW) * N ≤ W := Nat.le_trans (Nat.mul_le_mul_right _ hu) h.w1
  have h3 : (BW - 2) * (v1 + 1) ≤ v1 * BW := by
    rw [Nat.sub_mul, Nat.mul_add, Nat.mul_comm BW v1]; omega
  have h4 : (BW - 2) * ((v1 + 1) * BW * N) ≤ v1 * (BW * BW) * N := by
    have := Nat.mul_le_mul_right (BW * N) h3
    calc (BW - 2) * ((v1 + 1) * BW * N) = (BW - 2) * (v1 + 1) * (BW * N) := by simp only [Nat.mul_assoc]
      _ ≤ v1 * BW * (BW * N) := this
      _ = v1 * (BW * BW) * N := by simp only [Nat.mul_assoc]
  have h5 : (BW - 2) * V ≤ W := by omega
  have := (Nat.le_div_iff_mul_le h.V0).2 h5
  have := BW_pos
  omega

/-- The refining of a guess. -/
def RInv (v1 u21 Q q r : Nat) : Prop := q * v1 + r = u21 ∧ Q ≤ q ∧ q < BW

theorem QIn.down {N V W v1 v2 u21 u0 q r : Nat} (h : QIn N V W (v1 * BW + v2) (u21 * BW + u0)) (hi : RInv v1 u21 (W / V) q r) (hc : r * BW + u0 < q * v2) : 1 ≤ q ∧ RInv v1 u21 (W / V) (q - 1) (r + v1) := by
  obtain ⟨h1, h2, h3⟩ := hi
  have hlt : W / V < q := by
    rcases Nat.lt_or_ge (W / V) q with h4 | h4
    · exact h4
    · have h5 := h.hi
      have h6 : q * (v1 * BW + v2) ≤ W / V * (v1 * BW + v2) := Nat.mul_le_mul_right _ h4
      rw [Nat.mul_add, ← Nat.mul_assoc] at h6
      have h7 : (q * v1 + r) * BW = u21 * BW := by rw [h1]
      rw [Nat.add_mul] at h7
      omega
  unfold RInv
  generalize W / V = Q at *
  have hq : 1 ≤ q := by omega
  refine ⟨hq, ?_, by omega, by omega⟩
  obtain ⟨p, rfl⟩ : ∃ p, q = p + 1 := ⟨q - 1, by omega⟩
  rw [Nat.add_mul] at h1
  rw [Nat.add_sub_cancel]
  omega

theorem QIn.done {N V W v1 v2 u21 u0 q r : Nat} (h : QIn N V W (v1 * BW + v2) (u21 * BW + u0)) (hi : RInv v1 u21 (W / V) q r) (hc : q * v2 ≤ r * BW + u0) : W / V ≤ q ∧ q ≤ W / V + 1 ∧ q < BW := by
  obtain ⟨h1, h2, h3⟩ := hi
  refine ⟨h2, h.ok ?_ h3, h3⟩
  rw [Nat.mul_add, ← Nat.mul_assoc]
  have h7 : (q * v1 + r) * BW = u21 * BW := by rw [h1]
  rw [Nat.add_mul] at h7
  omega

theorem QIn.broke {N V W v1 v2 u21 u0 q r : Nat} (h : QIn N V W (v1 * BW + v2) (u21 * BW + u0)) (hi : RInv v1 u21 (W / V) q r) (hv2 : v2 < BW) (hr : BW ≤ r) : W / V ≤ q ∧ q ≤ W / V + 1 ∧ q < BW := by
  refine h.done hi ?_
  have h1 : q * v2 ≤ BW * BW := Nat.mul_le_mul (Nat.le_of_lt hi.2.2) (Nat.le_of_lt hv2)
  have h2 : BW * BW ≤ r * BW := Nat.mul_le_mul_right _ hr
  omega

/-- The first guess. -/
theorem QIn.start {N V W v1 v2 u21 u0 : Nat} (h : QIn N V W (v1 * BW + v2) (u21 * BW + u0)) (hu0 : u0 < BW) (hv1 : 0 < v1) (hlt : u21 < v1 * BW) : RInv v1 u21 (W / V) (u21 / v1) (u21 % v1) := by
  refine ⟨by rw [Nat.mul_comm]; exact Nat.div_add_mod _ _, ?_, by rw [Nat.div_lt_iff_lt_mul hv1, Nat.mul_comm]; exact hlt⟩
  rw [Nat.le_div_iff_mul_le hv1]
  have h1 := h.hi
  rw [Nat.mul_add, ← Nat.mul_assoc] at h1
  have h2 : W / V * v1 * BW < (u21 + 1) * BW := by rw [Nat.add_mul]; omega
  have := Nat.lt_of_mul_lt_mul_right h2
  omega

/-! ### The parts of a number -/

theorem nv_top2 {l : List Nat} {k : Nat} (hk : l.length = k + 2) : nv l = nv (l.take k) + BW ^ k * (dg l (k + 1) * BW + dg l k) := by
  have e := nv_split l k
  rw [Nat.min_eq_left (by omega)] at e
  rw [e, drop_dg (by omega), drop_dg (by omega), List.drop_eq_nil_of_le (by omega)]
  simp only [nv, Nat.mul_zero, Nat.add_zero]
  rw [Nat.mul_comm BW (dg l (k + 1)), Nat.add_comm (dg l k)]

theorem dg_zero_of_lt {l : List Nat} {k : Nat} (hw : WF l) (h : nv l < BW ^ k) : ∀ i, k ≤ i → dg l i = 0 := by
  intro i hi
  rcases Nat.lt_or_ge i l.length with h1 | h1
  · rcases Nat.eq_zero_or_pos (dg l i) with h2 | h2
    · exact h2
    · have e := nv_split l i
      rw [Nat.min_eq_left (by omega), drop_dg h1] at e
      simp only [nv] at e
      have h3 : BW ^ i * 1 ≤ BW ^ i * (dg l i + BW * nv (l.drop (i + 1))) := Nat.mul_le_mul_left _ (by omega)
      have h4 := pow_le_pow hi
      omega
  · exact dg_ge h1

theorem nv_take_of_lt {l : List Nat} {k : Nat} (hw : WF l) (h : nv l < BW ^ k) : nv (l.take k) = nv l := by
  have e := nv_split l k
  rw [nv_zeros (l := l.drop k) (fun i => by rw [dg_drop]; exact dg_zero_of_lt hw h _ (by omega))] at e
  omega

/-- A part written anew: what the number comes to. -/
theorem nv_over {p r : List Nat} {j : Nat} (h : j + r.length ≤ p.length) : nv (p.take j ++ r ++ p.drop (j + r.length)) + BW ^ j * nv ((p.drop j).take r.length) = nv p + BW ^ j * nv r := by
  have e1 := nv_split p j
  have e2 := nv_split (p.drop j) r.length
  rw [Nat.min_eq_left (by omega)] at e1
  rw [List.length_drop, Nat.min_eq_left (by omega), List.drop_drop] at e2
  rw [nv_append, nv_append, List.length_append, List.length_take, Nat.min_eq_left (by omega), Nat.pow_add]
  rw [e1, e2]
  simp only [Nat.mul_add, Nat.mul_assoc]
  omega

end Go.Vc
end
