/- strings.Reader; comparing errors. -/
import Derived.Test.YthahnloabllniaaGreatDoorM16
section
set_option linter.unusedSimpArgs false
set_option linter.unusedVariables false
set_option maxRecDepth 8000
set_option maxHeartbeats 1000000
namespace Go.Vc
open Go.Proofs

abbrev pR (p : Nat) : Value := .pointer (some ⟨p, 0, none⟩)
/-- The error that io.EOF is. -/
abbrev eofV (b : Addr) : Value := .iface 217 (.pointer (some b))

def bts (s : ByteArray) : List Nat := s.data.toList.map UInt8.toNat

theorem bts_len (s : ByteArray) : (bts s).length = s.size := by unfold bts; rw [List.length_map, Array.length_toList]; rfl

theorem bts_get {s : ByteArray} {i : Nat} (h : i < s.size) : (s[i]'h).toNat = dg (bts s) i := by
  have h2 : i < s.data.size := h
  unfold bts dg
  rw [List.getD_eq_getElem?_getD, List.getElem?_map, Array.getElem?_toList, Array.getElem?_eq_getElem h2]
  rfl

theorem eNN (i : Nat) (w : World) : ((do eqGuard .eql 64 (.tmp i) (.const .nilIface) .nilIface .nilIface; binOp .eql 64 .nilIface .nilIface) : Sem Value).run P w = .ok (.bool true) w := by kernel_rfl
theorem nNN (i : Nat) (w : World) : ((do eqGuard .neq 64 (.tmp i) (.const .nilIface) .nilIface .nilIface; binOp .neq 64 .nilIface .nilIface) : Sem Value).run P w = .ok (.bool false) w := by kernel_rfl
theorem eEN (b : Addr) (i : Nat) (w : World) : ((do eqGuard .eql 64 (.tmp i) (.const .nilIface) (eofV b) .nilIface; binOp .eql 64 (eofV b) .nilIface) : Sem Value).run P w = .ok (.bool false) w := by kernel_rfl
theorem nEN (b : Addr) (i : Nat) (w : World) : ((do eqGuard .neq 64 (.tmp i) (.const .nilIface) (eofV b) .nilIface; binOp .neq 64 (eofV b) .nilIface) : Sem Value).run P w = .ok (.bool true) w := by kernel_rfl
theorem eqIn_same (d : Nat) {t : TypeId} (h : ptOk t = true) {w : World} {a : Addr} : (Op.equalIn (d + 1) t (.pointer (some a)) (.pointer (some a))).run P w = .ok true w := by
  unfold ptOk at h
  split at h
  · rename_i e hu
    split at h
    · rename_i n hs
      simp only [Op.equalIn, Sem.run_bind, run_und hu, Result.andThen_ok, sizeOf_run hs]
      simp [run_sameAddr_same]
    · cases h
  · cases h

noncomputable def ifcOk (t : TypeId) : Bool := match P.underlying t with
  | some (.interface _) => true
  | _ => false
noncomputable def cmpOk (t : TypeId) : Bool := match P.info? t with
  | some i => i.comparable
  | none => false

theorem eqI_same' (d : Nat) {t u : TypeId} (h : ifcOk t = true) (hc : cmpOk u = true) (hp : ptOk u = true) {w : World} {a : Addr} : (Op.equalIn (d + 1 + 1) t (.iface u (.pointer (some a))) (.iface u (.pointer (some a)))).run P w = .ok true w := by
  unfold ifcOk at h
  unfold cmpOk at hc
  split at h
  · rename_i e hu
    split at hc
    · rename_i i hi
      have h1 := eqIn_same d hp (w := w) (a := a)
      unfold Op.equalIn
      simp only [Sem.run_bind, run_und hu, Result.andThen_ok]
      rw [if_neg (by simp)]
      have ht : (typeInfo u).run P w = .ok i w := by simp [typeInfo, hi]
      rw [Sem.run_bind, ht, Result.andThen_ok, if_neg (by rw [hc]; simp)]
      exact h1
    · cases hc
  · cases h

theorem eqI_same {t u : TypeId} (h : ifcOk t = true) (hc : cmpOk u = true) (hp : ptOk u = true) {w : World} {a : Addr} : (Op.equal t (.iface u (.pointer (some a))) (.iface u (.pointer (some a)))).run P w = .ok true w :=
  eqI_same' 9998 h hc hp

theorem eEE (b : Addr) (x y : Operand) (w : World) : ((do eqGuard .eql 64 x y (eofV b) (eofV b); binOp .eql 64 (eofV b) (eofV b)) : Sem Value).run P w = .ok (.bool true) w := by
  simp [binOp, eqGuard, eqI_same (t := 64) (u := 217) (by kernel_rfl) (by kernel_rfl) (by kernel_rfl)]
theorem nEE (b : Addr) (x y : Operand) (w : World) : ((do eqGuard .neq 64 x y (eofV b) (eofV b); binOp .neq 64 (eofV b) (eofV b)) : Sem Value).run P w = .ok (.bool false) w := by
  simp [binOp, eqGuard, eqI_same (t := 64) (u := 217) (by kernel_rfl) (by kernel_rfl) (by kernel_rfl)]

theorem lnS (ty : TypeId) (cs : Array Bool) (s : ByteArray) (w : World) : (builtin .len #[9] ty cs #[.string s]).run P w = .ok (.value (.int .i64 (s.size : Int))) w := by kernel_rfl

theorem ixSt {s : ByteArray} {k : IntKind} {i : Nat} (h : i < s.size) (w : World) : (Instr.index 9 (.string s) (.int k (i : Int))).run P w = .ok (.int .u8 (dg (bts s) i : Int)) w := by
  have hu : P.underlying 9 = some .string := by kernel_rfl
  simp only [Instr.index, asIntOf, Sem.run_bind, run_und hu, Result.andThen_ok, pure, Sem.run]
  have h0 : (0 : Int) ≤ (i : Int) := Int.natCast_nonneg i
  rw [if_pos h0, Int.toNat_natCast]
  rw [getElem?_pos s i h, ← bts_get h]
  rfl

theorem mRB (r : Nat) (w : World) : (method (P.types.size + Made.depth) 109 (pR r) "ReadByte").run P w = .ok (247, pR r) w := by kernel_rfl
theorem mUB (r : Nat) (w : World) : (method (P.types.size + Made.depth) 109 (pR r) "UnreadByte").run P w = .ok (248, pR r) w := by kernel_rfl

/-- A reader at the place k of s. -/
structure RdAt (w : World) (r : Nat) (s : ByteArray) (k : Nat) : Prop where
  all : ∃ x, Cl w r [.string s, .int .i64 (k : Int), .int .i64 x] 132

theorem RdAt.fm {S : Nat → Prop} {w w' : World} {r k : Nat} {s : ByteArray} (h : RdAt w r s k) (f : Fm S w w') (hs : ¬ S r) : RdAt w' r s k := by
  obtain ⟨x, h⟩ := h.all
  exact ⟨x, f.obj h hs⟩

theorem readByte_c {w : World} {r k : Nat} {s : ByteArray} (h : RdAt w r s k) (hk : k < s.size) (hs : s.size < 100000) :
    CallX P 247 #[pR r] w fun v w' => v = .tuple #[.int .u8 (dg (bts s) k : Int), .nilIface] ∧ RdAt w' r s (k + 1) ∧ Fm (· = r) w w' := by
  obtain ⟨x, hc⟩ := h.all
  refine calls_vc mo fn_247 rfl ok_247 (Nat.le_of_ble_eq_true rfl) nm_247 ?_
  (refine vsr ?_)
  (repeat refine vcl_v _ rfl rfl ?_); (refine vcl_end ?_)
  (refine vsr ?_)
  refine rnA (fa fo_132_2 _ _) ?_
  obtain ⟨w1, e1, c1, f1, z1⟩ := st sz_3 hc (i := 0 + 2) (by simp) (v := .int .i64 (-1)) rfl
  refine ⟨w1, e1, ?_⟩
  (repeat refine vcl_v _ rfl rfl ?_); (refine vcl_end ?_)
  refine ⟨.take 0 (.take 1 (.take 2 (.take 3 (.take 4 (.take 5 (.take 6 (.take 7 (.take 8 (.take 9 (.done)))))))))), by kernel_rfl, ?_⟩
  refine tkA (fa fo_132_1 _ _) ?_
  refine tkL na_2 c1 rfl ?_
  refine tkA (fa fo_132_0 _ _) ?_
  refine tkL na_9 c1 rfl ?_
  refine ⟨_, fun w' => lnS _ _ _ w', ?_⟩
  refine ⟨_, bGeF (by omega), ?_⟩
  refine ⟨fun hc => (by cases hc), fun _ => ?_⟩
  refine ⟨.take 0 (.take 1 (.take 2 (.take 3 (.take 4 (.take 5 (.take 6 (.take 7 (.take 8 (.take 9 (.done)))))))))), by kernel_rfl, ?_⟩
  refine tkA (fa fo_132_0 _ _) ?_
  refine tkL na_9 c1 rfl ?_
  refine tkA (fa fo_132_1 _ _) ?_
  refine tkL na_2 c1 rfl ?_
  refine tkA (ixSt hk) ?_
  (repeat refine vcp_v _ rfl rfl rfl ?_); (refine vcp_end ?_)
  refine rnA (fa fo_132_1 _ _) ?_
  refine rnL na_2 c1 rfl ?_
  refine ⟨_, nAdd k 1 (by omega), ?_⟩
  refine rnA (fa fo_132_1 _ _) ?_
  obtain ⟨w2, e2, c2, f2, z2⟩ := st (w := w1.drew.drew) sz_2 c1 (i := 0 + 1) (by simp) (v := .int .i64 ((k + 1 : Nat) : Int)) rfl
  refine ⟨w2, e2, ?_⟩
  exact ⟨rfl, rfl, ⟨_, c2⟩, f1.dr.dr.trans f2 (fun _ _ h => h)⟩

theorem readByte_eof {w : World} {r k : Nat} {be : Addr} {s : ByteArray} (h : RdAt w r s k) (hk : k = s.size) (he : Cl w 0 [eofV be] 64) :
    CallX P 247 #[pR r] w fun v w' => v = .tuple #[.int .u8 0, eofV be] ∧ RdAt w' r s k ∧ Fm (· = r) w w' := by
  obtain ⟨x, hc⟩ := h.all
  have hne : 0 ≠ r := fun e => by rw [← e] at hc; have := he.symm.trans hc; simp at this
  refine calls_vc mo fn_247 rfl ok_247 (Nat.le_of_ble_eq_true rfl) nm_247 ?_
  (refine vsr ?_)
  (repeat refine vcl_v _ rfl rfl ?_); (refine vcl_end ?_)
  (refine vsr ?_)
  refine rnA (fa fo_132_2 _ _) ?_
  obtain ⟨w1, e1, c1, f1, z1⟩ := st sz_3 hc (i := 0 + 2) (by simp) (v := .int .i64 (-1)) rfl
  refine ⟨w1, e1, ?_⟩
  (repeat refine vcl_v _ rfl rfl ?_); (refine vcl_end ?_)
  refine ⟨.take 0 (.take 1 (.take 2 (.take 3 (.take 4 (.take 5 (.take 6 (.take 7 (.take 8 (.take 9 (.done)))))))))), by kernel_rfl, ?_⟩
  refine tkA (fa fo_132_1 _ _) ?_
  refine tkL na_2 c1 rfl ?_
  refine tkA (fa fo_132_0 _ _) ?_
  refine tkL na_9 c1 rfl ?_
  refine ⟨_, fun w' => lnS _ _ _ w', ?_⟩
  refine ⟨_, bGe (by omega), ?_⟩
  refine ⟨fun _ => ?_, fun hc => (by cases hc)⟩
  have he1 := f1.obj he hne
  refine ⟨.take 0 (.take 1 (.take 2 (.done))), by kernel_rfl, ?_⟩
  refine tkL na_64 he1 rfl ?_
  exact ⟨rfl, rfl, ⟨_, c1⟩, f1.dr.dr⟩

theorem unreadByte_c {w : World} {r k : Nat} {s : ByteArray} (h : RdAt w r s (k + 1)) (hk : k < 100000) :
    CallX P 248 #[pR r] w fun v w' => v = .nilIface ∧ RdAt w' r s k ∧ Fm (· = r) w w' := by
  obtain ⟨x, hc⟩ := h.all
  refine calls_vc mo fn_248 rfl ok_248 (Nat.le_of_ble_eq_true rfl) nm_248 ?_
  (refine vsr ?_)
  (repeat refine vcl_v _ rfl rfl ?_); (refine vcl_end ?_)
  refine rnA (fa fo_132_1 _ _) ?_
  refine rnL na_2 hc rfl ?_
  refine ⟨_, bLeF (by omega), ?_⟩
  refine ⟨fun hc => (by cases hc), fun _ => ?_⟩
  refine rnA (fa fo_132_2 _ _) ?_
  obtain ⟨w1, e1, c1, f1, z1⟩ := st sz_3 hc (i := 0 + 2) (by simp) (v := .int .i64 (-1)) rfl
  refine ⟨w1, e1, ?_⟩
  refine rnA (fa fo_132_1 _ _) ?_
  refine rnL na_2 c1 rfl ?_
  refine ⟨_, nSub (k + 1) 1 (by omega) (by omega), ?_⟩
  refine rnA (fa fo_132_1 _ _) ?_
  obtain ⟨w2, e2, c2, f2, z2⟩ := st sz_2 c1 (i := 0 + 1) (by simp) (v := .int .i64 ((k + 1 - 1 : Nat) : Int)) rfl
  refine ⟨w2, e2, ?_⟩
  exact ⟨rfl, rfl, ⟨_, c2⟩, f1.trans f2 (fun _ _ h => h)⟩

/-- The first letter is no sign. -/
theorem scanSign_c {w : World} {r : Nat} {s : ByteArray} (h : RdAt w r s 0) (h0 : 0 < s.size) (hs : s.size < 100000) (hd : 48 ≤ dg (bts s) 0) :
    CallX P 89 #[.iface 109 (pR r)] w fun v w' => v = .tuple #[.bool false, .nilIface] ∧ RdAt w' r s 0 ∧ Fm (· = r) w w' := by
  refine calls_vc mo fn_89 rfl ok_89 (Nat.le_of_ble_eq_true rfl) nm_89 ?_
  (refine vsr ?_)
  (repeat refine vcl_v _ rfl rfl ?_); (refine vcl_end ?_)
  (refine vsr ?_)
  (repeat refine vcl_v _ rfl rfl ?_); (refine vcl_end ?_)
  refine ⟨_, _, mRB _ _, ?_⟩
  refine (readByte_c h h0 hs).mono ?_
  rintro v w1 ⟨rfl, h1, f1⟩
  refine rnA (nNN _) ?_
  refine ⟨fun hc => (by cases hc), fun _ => ?_⟩
  refine ⟨_, bEqF (by omega), ?_⟩
  refine ⟨fun hc => (by cases hc), fun _ => ?_⟩
  refine ⟨_, bEqF (by omega), ?_⟩
  refine ⟨fun hc => (by cases hc), fun _ => ?_⟩
  refine ⟨_, _, mUB _ _, ?_⟩
  refine (unreadByte_c h1 (by omega)).mono ?_
  rintro v w2 ⟨rfl, h2, f2⟩
  exact ⟨rfl, rfl, h2, f1.trans f2 (fun _ _ h => h)⟩

end Go.Vc
end

section
/- pow, maxPow, slices.Reverse, append of a word; numbers of digits. -/
set_option linter.unusedSimpArgs false
set_option linter.unusedVariables false
set_option maxRecDepth 8000
set_option maxHeartbeats 1000000
namespace Go.Vc
open Go.Proofs

/-! Numbers of digits. -/
def num (B : Nat) (l : List Nat) : Nat := l.foldl (fun a d => a * B + d) 0

theorem num_snoc (B : Nat) (l : List Nat) (d : Nat) : num B (l ++ [d]) = num B l * B + d := by simp [num]

theorem num_take {B : Nat} {l : List Nat} {j : Nat} (h : j < l.length) : num B (l.take (j + 1)) = num B (l.take j) * B + dg l j := by
  rw [List.take_add_one, dg_lt h, Option.toList_some, num_snoc]

theorem num_lt {B : Nat} (hB : 0 < B) {l : List Nat} (h : ∀ d ∈ l, d < B) : ∀ j, num B (l.take j) < B ^ j
  | 0 => by simp [num]
  | j + 1 => by
    have ih := num_lt hB h j
    rcases Nat.lt_or_ge j l.length with h1 | h1
    · rw [num_take h1, Nat.pow_succ]
      have h2 := h _ (dg_mem h1)
      have h3 : (num B (l.take j) + 1) * B ≤ B ^ j * B := Nat.mul_le_mul_right _ ih
      rw [Nat.add_mul, Nat.one_mul] at h3
      omega
    · rw [List.take_of_length_le (by omega)]
      rw [List.take_of_length_le h1] at ih
      exact Nat.lt_of_lt_of_le ih (Nat.pow_le_pow_right hB (by omega))

/-! pow -/
theorem and1 {n : Nat} (h : n < 21) : binV .and .i64 .i64 (n : Int) 1 = some (.int .i64 ((n % 2 : Nat) : Int)) := by
  have : ∀ n : Nat, n < 21 → bitV .and .i64 (n : Int) 1 = ((n % 2 : Nat) : Int) := by decide
  show some (Value.int .i64 (bitV .and .i64 (n : Int) 1)) = _
  rw [this n h]

theorem shr1 (n : Nat) : binV .shr .i64 .u64 (n : Int) 1 = some (.int .i64 ((n / 2 : Nat) : Int)) := by
  simp only [binV]
  rw [if_neg (by omega)]
  have e : (2 : Int) ^ min (1 : Int).toNat IntKind.i64.bits = ((2 : Nat) : Int) := by decide
  rw [e, fdiv_nat]

theorem pow_c (x n : Nat) (hn : n < 21) (w : World) : CallX P 105 #[vw x, .int .i64 (n : Int)] w fun v w' => w = w' ∧ v = vw (x ^ n % 18446744073709551616) := by
  refine calls_vc mo fn_105 rfl ok_105 (Nat.le_of_ble_eq_true rfl) nm_105 ?_
  (refine vsr ?_)
  (repeat refine vcl_v _ rfl rfl ?_); (refine vcl_end ?_)
  (refine vsr ?_)
  (repeat refine vcl_v _ rfl rfl ?_); (refine vcl_end ?_)
  refine vcut (by repeat (first | exact moE _ _ _ | exact moEd _ _ _ | apply moB | apply moL | apply moV)) Unit (fun _ => ⟨[(4, vw (x ^ n % 18446744073709551616))], []⟩) (fun _ u => u = w) ?_ ?_
  · refine vloop (Nat × Nat × Nat) (fun t => ⟨[(4, vw t.1), (0, vw t.2.1), (1, .int .i64 (t.2.2 : Int))], []⟩) (fun t u => t.2.2 < 21 ∧ t.1 < 18446744073709551616 ∧ (t.1 * t.2.1 ^ t.2.2) % 18446744073709551616 = x ^ n % 18446744073709551616 ∧ u = w) (fun t => t.2.2) (1, x, n)
      ⟨⟨rfl, rfl, rfl, trivial⟩, rfl⟩ ⟨hn, by show 1 < _; omega, by show (1 * x ^ n) % _ = _; rw [Nat.one_mul], rfl⟩ ?_
    rintro ⟨p, y, m⟩ u ⟨hm, hp, he, rfl⟩
    dsimp only at hm hp he ⊢
    rcases Nat.eq_zero_or_pos m with h0 | h0
    · subst h0
      refine ⟨_, bGtF (by omega), ?_⟩
      refine ⟨fun hc => (by cases hc), fun _ => ?_⟩
      refine ⟨(), ⟨⟨?_, trivial⟩, rfl⟩, rfl⟩
      rw [← he, Nat.pow_zero, Nat.mul_one, Nat.mod_eq_of_lt hp]
      rfl
    · refine ⟨_, bGt (by omega), ?_⟩
      refine ⟨fun _ => ?_, fun hc => (by cases hc)⟩
      (refine sqn ?_)
      refine vbk ?_
      have hd := Nat.div_add_mod m 2
      have e2 : y ^ m = (y * y) ^ (m / 2) * y ^ (m % 2) := by rw [← Nat.pow_two, ← Nat.pow_mul, ← Nat.pow_add, hd]
      have sq : ∀ k, (y * y % 18446744073709551616) ^ k % 18446744073709551616 = (y * y) ^ k % 18446744073709551616 := fun k => (Nat.pow_mod _ _ _).symm
      refine ⟨_, and1 hm, ?_⟩
      rcases Nat.mod_two_eq_zero_or_one m with h2 | h2
      · rw [h2] at e2 ⊢
        refine ⟨_, bNeF rfl, ?_⟩
        refine ⟨fun hc => (by cases hc), fun _ => ?_⟩
        refine ⟨_, wMul y y, ?_⟩
        refine ⟨_, shr1 m, ?_⟩
        refine ⟨(p, y * y % 18446744073709551616, m / 2), ⟨⟨rfl, rfl, rfl, trivial⟩, rfl⟩, ⟨by show m / 2 < 21; omega, hp, ?_, rfl⟩, by show m / 2 < m; omega⟩
        show p * (y * y % 18446744073709551616) ^ (m / 2) % 18446744073709551616 = _
        rw [Nat.mul_mod, sq, ← Nat.mul_mod, ← he, e2, Nat.pow_zero, Nat.mul_one]
      · rw [h2] at e2 ⊢
        refine ⟨_, bNe (by decide), ?_⟩
        refine ⟨fun _ => ?_, fun hc => (by cases hc)⟩
        refine ⟨_, wMul p y, ?_⟩
        refine ⟨_, wMul y y, ?_⟩
        refine ⟨_, shr1 m, ?_⟩
        refine ⟨(p * y % 18446744073709551616, y * y % 18446744073709551616, m / 2), ⟨⟨rfl, rfl, rfl, trivial⟩, rfl⟩, ⟨by show m / 2 < 21; omega, Nat.mod_lt _ (by omega), ?_, rfl⟩, by show m / 2 < m; omega⟩
        show p * y % 18446744073709551616 * (y * y % 18446744073709551616) ^ (m / 2) % 18446744073709551616 = _
        rw [Nat.mul_mod, sq, Nat.mod_mod, ← Nat.mul_mod, ← he, e2, Nat.pow_one, Nat.mul_assoc, Nat.mul_comm y]
  rintro _ u rfl
  exact ⟨rfl, rfl, rfl⟩

theorem maxPow_c (w : World) : CallX P 103 #[vw 10] w fun v w' => w = w' ∧ v = .tuple #[vw 10000000000000000000, .int .i64 19] := by
  refine calls_vc mo fn_103 rfl ok_103 (Nat.le_of_ble_eq_true rfl) nm_103 ?_
  (refine vsr ?_)
  (repeat refine vcl_v _ rfl rfl ?_); (refine vcl_end ?_)
  (refine vsr ?_)
  (repeat refine vcl_v _ rfl rfl ?_); (refine vcl_end ?_)
  refine vcut (by repeat (first | exact moE _ _ _ | exact moEd _ _ _ | apply moB | apply moL | apply moV)) Unit (fun _ => ⟨[(2, vw 10000000000000000000), (3, .int .i64 19)], []⟩) (fun _ u => u = w) ?_ ?_
  · (refine vsr ?_)
    refine ⟨_, wQuo 18446744073709551615 10 (by decide) (by decide), ?_⟩
    (repeat refine vcl_v _ rfl rfl ?_); (refine vcl_end ?_)
    refine vloop (Nat × Nat) (fun t => ⟨[(2, vw t.1), (3, .int .i64 (t.2 : Int)), (0, vw 10), (4, vw (18446744073709551615 / 10))], []⟩) (fun t u => t.1 = 10 ^ t.2 ∧ t.2 ≤ 19 ∧ u = w) (fun t => 19 - t.2) (10, 1)
      ⟨⟨rfl, rfl, rfl, rfl, trivial⟩, rfl⟩ ⟨by decide, by decide, rfl⟩ ?_
    rintro ⟨p, n⟩ u ⟨hp, hn, rfl⟩
    dsimp only at hp hn ⊢
    rcases Nat.lt_or_ge n 19 with h | h
    · have h1 : p ≤ 1000000000000000000 := by rw [hp]; exact Nat.pow_le_pow_right (n := 10) (j := 18) (by omega) (by omega)
      refine ⟨_, bLe (by omega), ?_⟩
      refine ⟨fun _ => ?_, fun hc => (by cases hc)⟩
      refine ⟨_, wMul p 10, ?_⟩
      refine ⟨_, nAdd n 1 (by omega), ?_⟩
      refine ⟨(p * 10, n + 1), ⟨⟨?_, rfl, rfl, rfl, trivial⟩, rfl⟩, ⟨by rw [hp, Nat.pow_succ], h, rfl⟩, by show 19 - (n + 1) < 19 - n; omega⟩
      rw [Nat.mod_eq_of_lt (by omega)]
      rfl
    · have h1 : n = 19 := by omega
      subst h1
      have h2 : p = 10000000000000000000 := by rw [hp]
      subst h2
      refine ⟨_, bLeF (by omega), ?_⟩
      refine ⟨fun hc => (by cases hc), fun _ => ?_⟩
      exact ⟨(), ⟨⟨rfl, rfl, trivial⟩, rfl⟩, rfl⟩
  rintro _ u rfl
  exact ⟨rfl, rfl, rfl⟩

/-! slices.Reverse -/
theorem rev_eq {Z Y : List Nat} {n : Nat} (hl : Y.length = Z.length) (hn : n ≤ Z.length) (h : ∀ k, k < n → dg Y k = dg Z (n - 1 - k)) : Y.take n = (Z.take n).reverse := by
  refine List.ext_getElem? fun k => ?_
  rcases Nat.lt_or_ge k n with h1 | h1
  · have e1 : (Y.take n).length = n := by rw [List.length_take]; omega
    have e2 : (Z.take n).length = n := by rw [List.length_take]; omega
    rw [dg_lt (by omega), dg_take h1, h k h1, List.getElem?_reverse (by omega), e2, dg_lt (by omega), dg_take (by omega)]
  · rw [List.getElem?_eq_none (by rw [List.length_take]; omega), List.getElem?_eq_none (by rw [List.length_reverse, List.length_take]; omega)]

theorem reverse_c {w : World} {b n c : Nat} {Z : List Nat} (hZ : Wd w b Z) (hn : n ≤ Z.length) (hc : c = Z.length) (h2 : n ≤ 2000) :
    CallX P 106 #[.slice (some ⟨b, 0, none⟩) n c] w fun v w' => ∃ Y, Wd w' b Y ∧ Y.length = Z.length ∧ Y.take n = (Z.take n).reverse ∧ Fm (· = b) w w' := by
  refine calls_vc mo fn_106 rfl ok_106 (Nat.le_of_ble_eq_true rfl) nm_106 ?_
  (refine vsr ?_)
  refine ⟨_, _, ln se_54 _ _ _ _ _ _, ?_⟩
  refine ⟨_, bSub (a := (n : Int)) (b := 1) (by omega), ?_⟩
  (repeat refine vcl_v _ rfl rfl ?_); (refine vcl_end ?_)
  refine vloop (Nat × List Nat) (fun t => ⟨[(0, .slice (some ⟨b, 0, none⟩) n c), (2, .int .i64 (t.1 : Int)), (3, .int .i64 ((n : Int) - 1 - (t.1 : Int)))], []⟩)
    (fun t u => 2 * t.1 ≤ n + 1 ∧ Wd u b t.2 ∧ t.2.length = Z.length ∧ (∀ k, k < n → dg t.2 k = if k < t.1 ∨ n ≤ k + t.1 then dg Z (n - 1 - k) else dg Z k) ∧ Fm (· = b) w u) (fun t => n - t.1) (0, Z)
    ⟨⟨rfl, rfl, by show some (Value.int .i64 ((n : Int) - 1)) = some (Value.int .i64 ((n : Int) - 1 - ((0 : Nat) : Int))); simp, trivial⟩, rfl⟩ ⟨by omega, hZ, rfl, fun k hk => by rw [if_neg (by omega)], Fm.refl _ _⟩ ?_
  rintro ⟨i, Y⟩ u ⟨hi, hW, hl, hd, hF⟩
  dsimp only at hi hW hl hd ⊢
  rcases Int.lt_or_le (i : Int) ((n : Int) - 1 - (i : Int)) with h | h
  · refine ⟨_, bLt h, ?_⟩
    refine ⟨fun _ => ?_, fun hc => (by cases hc)⟩
    (refine sqn ?_)
    refine vsb ?_
    have e3 : ((n : Int) - 1 - (i : Int)) = ((n - 1 - i : Nat) : Int) := by omega
    rw [e3]
    refine ⟨.take 0 (.take 1 (.take 2 (.take 3 (.take 4 (.take 5 (.take 6 (.take 7 (.take 8 (.take 9 (.take 10 (.take 11 (.take 12 (.one 13 [3, 2] (.take 14 (.one 15 [] (.done)))))))))))))))), by kernel_rfl, ?_⟩
    refine tkA (ia se_54 _ (by omega)) ?_
    refine tkC na_101 (hW.drew.cell (by omega)) ?_
    refine tkA (ia se_54 _ (by omega)) ?_
    refine tkC na_101 (hW.drew.cell (by omega)) ?_
    refine tkA (ia se_54 _ (by omega)) ?_
    obtain ⟨w1, e1, hW1, hF1, z1⟩ := hW.drew.st (i := 0 + i) (by omega) (hW.wf.dg (0 + (n - 1 - i)))
    refine ⟨w1, e1, ?_⟩
    refine ⟨trivial, ?_⟩
    refine tkA (ia se_54 _ (by omega)) ?_
    obtain ⟨w2, e2, hW2, hF2, z2⟩ := hW1.st (i := 0 + (n - 1 - i)) (by rw [List.length_set]; omega) (hW.wf.dg (0 + i))
    refine ⟨w2, e2, ?_⟩
    refine ⟨trivial, ?_⟩
    rw [Nat.zero_add, Nat.zero_add] at hW2
    refine ⟨_, nAdd i 1 (by omega), ?_⟩
    refine ⟨_, nSub (n - 1 - i) 1 (by omega) (by omega), ?_⟩
    refine ⟨(i + 1, _), ⟨⟨rfl, rfl, ?_, trivial⟩, rfl⟩, ⟨by show 2 * (i + 1) ≤ n + 1; omega, hW2, by show ((Y.set i _).set (n - 1 - i) _).length = Z.length; rw [List.length_set, List.length_set, hl], fun k hk => ?_, (hF.dr.trans hF1 (fun _ _ h => h)).trans hF2 (fun _ _ h => h)⟩, by show n - (i + 1) < n - i; omega⟩
    · show some (Value.int .i64 ((n - 1 - i - 1 : Nat) : Int)) = some (Value.int .i64 ((n : Int) - 1 - ((i + 1 : Nat) : Int)))
      congr 2
      omega
    · show dg ((Y.set i (dg Y (n - 1 - i))).set (n - 1 - i) (dg Y i)) k = if k < i + 1 ∨ n ≤ k + (i + 1) then dg Z (n - 1 - k) else dg Z k
      rcases Classical.em (k = n - 1 - i) with h1 | h1
      · rw [h1, dg_set_eq (by rw [List.length_set]; omega), if_pos (by omega), hd i (by omega), if_neg (by omega)]
        congr 1
        omega
      · rw [dg_set_ne (fun e => h1 e.symm)]
        rcases Classical.em (k = i) with h3 | h3
        · rw [h3, dg_set_eq (by omega), if_pos (by omega), hd (n - 1 - i) (by omega), if_neg (by omega)]
        · rw [dg_set_ne (fun e => h3 e.symm), hd k hk]
          rcases Classical.em (k < i ∨ n ≤ k + i) with h4 | h4
          · rw [if_pos h4, if_pos (by omega)]
          · rw [if_neg h4, if_neg (by omega)]
  · refine ⟨_, bLtF (by omega), ?_⟩
    refine ⟨fun hc => (by cases hc), fun _ => ?_⟩
    refine ⟨rfl, Y, hW, hl, rev_eq hl hn fun k hk => ?_, hF⟩
    rw [hd k hk]
    rcases Classical.em (k < i ∨ n ≤ k + i) with h4 | h4
    · rw [if_pos h4]
    · rw [if_neg h4]
      congr 1
      omega

/-! append(z, x) -/
theorem apOne {w : World} {v : Value} {wb : Option Nat} {len : Nat} {Z : List Nat} (h : Sl w v wb len Z) (hlen : len ≤ 1000) {b1 x : Nat} (hx : x < BW) (hW : Wd w b1 [x]) (ty : TypeId) (cs : Array Bool) :
    ∃ v' w' wb' Z', (builtin .append #[54, 54] ty cs #[v, .slice (some ⟨b1, 0, none⟩) 1 1]).run P w = .ok (.value v') w' ∧ Sl w' v' wb' (len + 1) Z' ∧ Z'.take (len + 1) = Z.take len ++ [x] ∧ (wb' = wb ∨ ∃ b, wb' = some b ∧ w.heap.size ≤ b) ∧ Fm (fun b => wb = some b) w w' := by
  obtain ⟨hu, hsz⟩ := slElem_spec se_54
  obtain ⟨i, hi, hi1, hi2, hi3⟩ := word_info
  have hnews : ∀ w' : World, Wd w' b1 [x] → ∀ j u, [vw x][j]? = some u → w'.cell? ((⟨b1, 0, none⟩ : Addr).add j) = some u := fun w' hW j u hj => by
    have hj0 : j = 0 := by
      have := (List.getElem?_eq_some_iff.1 hj).1
      simpa using this
    subst hj0
    simp at hj
    subst hj
    rw [addr_add]
    have := hW.cell (i := 0) (by simp)
    rw [Nat.add_zero]
    rw [this]
    rfl
  have hge := fun n old => grownCap_ge w n old 101
  have hle := fun n old (h : n ≤ maxLen) => grownCap_le_maxLen w n old 101 h
  cases wb with
  | none =>
    obtain ⟨rfl, rfl, rfl⟩ := h
    have hr := run_append_nil (P := P) w 54 ty 101 i (vw 0) hu hi hi2 ⟨b1, 0, none⟩ 1 1 [vw x] (by rw [hi1]; rfl) (hnews w hW) (by omega) (by omega) (by omega)
    have h1 := hge 1 0
    have h2 := hle 1 0 (by simp [maxLen])
    simp only [maxLen] at h2
    generalize grownCap w 1 0 101 = c at *
    have hrow : ([vw x].toArray ++ Builtin.zeroCells (vw 0).cells (c - 1)) = (vws ([x] ++ List.replicate (c - 1) 0)).toArray := by
      rw [show (vw 0).cells = #[vw 0] from rfl, zeroCells_one]
      apply Array.toList_inj.1
      simp [vws]
    rw [hrow] at hr
    refine ⟨.slice (some ⟨w.heap.size, 0, none⟩) 1 c, _, some w.heap.size, [x] ++ List.replicate (c - 1) 0, ?_, ⟨?_, ⟨alloc_new (w := w.drew) _ _, WF.append (WF.cons hx WF.nil) (WF.replicate _ BW_pos)⟩, ?_, ?_⟩, ?_, .inr ⟨_, rfl, Nat.le_refl _⟩, ((alloc_fm w.drew _).drew').mono (fun _ _ h => h.elim)⟩
    · simp only [builtin, Sem.run_bind, hr, Result.andThen_ok]
      rfl
    · simp; omega
    · simp
    · simp; omega
    · simp
  | some g =>
    obtain ⟨rfl, hg, hl, hc⟩ := h
    rcases Nat.lt_or_ge Z.length (len + 1) with h1 | h1
    · have hz : Z.length = len := by omega
      have holds : ∀ j u, (vws (Z.take len))[j]? = some u → w.cell? ((⟨g, 0, none⟩ : Addr).add j) = some u := fun j u hj => by
        have hj2 : j < (Z.take len).length := by
          have := (List.getElem?_eq_some_iff.1 hj).1
          rwa [vws_len] at this
        rw [vws_get hj2] at hj
        cases hj
        rw [List.length_take] at hj2
        rw [addr_add, Nat.zero_add, dg_take (by omega)]
        exact hg.cell (by omega)
      have hr := run_append_grow (P := P) w 54 ty 101 i (vw 0) hu hi hi2 ⟨g, 0, none⟩ len Z.length (vws (Z.take len)) (by rw [vws_len, hi1, List.length_take]; omega) holds ⟨b1, 0, none⟩ 1 1 [vw x] (by rw [hi1]; rfl) (hnews w hW) (by omega) (by omega)
        (growslice_fits (by omega) (by have : (len + 1) * i.bytes ≤ 1001 * 64 := Nat.mul_le_mul (by omega) hi3; omega))
      have h3 := hge (len + 1) Z.length
      have h2 := hle (len + 1) Z.length (by simp [maxLen]; omega)
      simp only [maxLen] at h2
      generalize grownCap w (len + 1) Z.length 101 = c at *
      have hrow : ((vws (Z.take len)).toArray ++ [vw x].toArray ++ Builtin.zeroCells (vw 0).cells (c - (len + 1))) = (vws (Z.take len ++ [x] ++ List.replicate (c - (len + 1)) 0)).toArray := by
        rw [show (vw 0).cells = #[vw 0] from rfl, zeroCells_one]
        apply Array.toList_inj.1
        simp [vws]
      rw [hrow] at hr
      have ht : (Z.take len).length = len := by rw [List.length_take]; omega
      refine ⟨.slice (some ⟨w.heap.size, 0, none⟩) (len + 1) c, _, some w.heap.size, Z.take len ++ [x] ++ List.replicate (c - (len + 1)) 0, ?_, ⟨?_, ⟨alloc_new (w := w.drew) _ _, WF.append (WF.append (hg.wf.take len) (WF.cons hx WF.nil)) (WF.replicate _ BW_pos)⟩, ?_, ?_⟩, ?_, .inr ⟨_, rfl, Nat.le_refl _⟩, ((alloc_fm w.drew _).drew').mono (fun _ _ h => h.elim)⟩
      · simp only [builtin, Sem.run_bind, hr, Result.andThen_ok]
        rfl
      · simp only [List.length_append, ht, List.length_cons, List.length_nil, List.length_replicate]
        rw [show len + (0 + 1) + (c - (len + 1)) = c by omega]
      · simp only [List.length_append, ht, List.length_cons, List.length_nil, List.length_replicate]; omega
      · simp only [List.length_append, ht, List.length_cons, List.length_nil, List.length_replicate]; omega
      · rw [List.take_append_of_le_length (by simp [ht]), List.take_of_length_le (by simp [ht])]
    · have hr := run_append_room (P := P) w 54 ty 101 i hu hi g len Z.length (vws Z).toArray hg.cl ⟨b1, 0, none⟩ 1 1 [vw x] (by rw [hi1]; rfl) (hnews w hW) (by intro u hu; rw [List.mem_singleton.1 hu]; rfl) h1 (by rw [hi1]; simp [vws_len]; omega)
      have hset : ((vws Z).toArray.toList.take (len * i.size) ++ [vw x] ++ (vws Z).toArray.toList.drop (len * i.size + [vw x].length)) = vws (Z.set len x) := by
        rw [hi1, Nat.mul_one]
        simp only [List.length_cons, List.length_nil, Nat.zero_add]
        rw [List.set_eq_take_append_cons_drop, if_pos (by omega)]
        simp [vws, List.map_take, List.map_drop]
      rw [hset] at hr
      have hgl : g < w.heap.size := hg.lt
      refine ⟨.slice (some ⟨g, 0, none⟩) (len + 1) Z.length, w.setRow g (vws (Z.set len x)).toArray, some g, Z.set len x, ?_, ⟨?_, ⟨?_, hg.wf.set len hx⟩, ?_, ?_⟩, ?_, .inl rfl, ?_⟩
      · simp only [builtin, Sem.run_bind, hr, Result.andThen_ok]
        rfl
      · rw [List.length_set]
      · exact setRow_heap w g (vws Z).toArray _ 101 _ hg.cl
      · rw [List.length_set]; exact h1
      · rw [List.length_set]; exact hc
      · rw [List.take_add_one, List.take_set_of_le (Nat.le_refl _)]
        rw [List.getElem?_set_self (by omega)]
        rfl
      · exact ⟨rfl, rfl, rfl, by simp, fun k _ hk => setRow_other w g k _ (fun e => hk (by rw [e]))⟩

theorem Sl.own {w : World} {v : Value} {wb : Option Nat} {len : Nat} {Z : List Nat} (h : Sl w v wb len Z) (h2 : len ≤ 2000) : Own w v wb (Z.take len) := by
  cases wb with
  | none => obtain ⟨rfl, rfl, rfl⟩ := h; exact Own.nil _
  | some b => obtain ⟨rfl, hW, hl, hc⟩ := h; exact Own.mk' hW hl ⟨by omega, h2⟩

theorem Own.sl {w : World} {v : Value} {d : Option Nat} {l : List Nat} (h : Own w v d l) : ∃ a n c Z, v = .slice a n c ∧ Sl w (.slice a 0 c) d 0 Z := by
  rcases h.cases with ⟨rfl, rfl, rfl⟩ | ⟨b, full, rfl, rfl, h1, h2, h3, h4⟩
  · exact ⟨none, 0, 0, [], rfl, rfl, rfl, rfl⟩
  · exact ⟨some ⟨b, 0, none⟩, l.length, full.length, full, rfl, rfl, h1, Nat.zero_le _, by omega⟩

end Go.Vc
end

section
/- nat.scan: the walk. -/
set_option linter.unusedSimpArgs false
set_option linter.unusedVariables false
set_option maxRecDepth 8000
set_option maxHeartbeats 2000000
namespace Go.Vc
open Go.Proofs

/-- What a letter stands for. -/
def dv (c : Nat) : Nat := if c ≤ 57 then c - 48 else c - 87
def Dc (B c : Nat) : Prop := (48 ≤ c ∧ c ≤ 57 ∨ 97 ≤ c ∧ c ≤ 102) ∧ dv c < B
def digs (s : ByteArray) (off : Nat) : List Nat := ((bts s).drop off).map dv

theorem digs_len (s : ByteArray) (off : Nat) : (digs s off).length = s.size - off := by unfold digs; rw [List.length_map, List.length_drop, bts_len]
theorem digs_dg {s : ByteArray} {off j : Nat} (h : off + j < s.size) : dg (digs s off) j = dv (dg (bts s) (off + j)) := by
  have h1 : j < ((bts s).drop off).length := by rw [List.length_drop, bts_len]; omega
  have h2 := dg_lt h1
  have h3 : (digs s off)[j]? = some (dv (dg ((bts s).drop off) j)) := by unfold digs; rw [List.getElem?_map, h2]; rfl
  have h4 := dg_lt (l := digs s off) (i := j) (by rw [digs_len]; omega)
  rw [h3] at h4
  rw [← dg_drop]
  exact (Option.some.inj h4).symm

/-- The base, and how its digits are packed. -/
def BB (B bn n : Nat) : Prop := (B = 16 ∧ bn = 0 ∧ n = 16) ∨ (B = 10 ∧ bn = 10000000000000000000 ∧ n = 19)

theorem BB.pow {B bn n : Nat} (h : BB B bn n) : B ^ n ≤ 18446744073709551616 := by
  rcases h with ⟨rfl, _, rfl⟩ | ⟨rfl, _, rfl⟩ <;> decide

/-- What has been gathered: q groups, their value V. -/
def ZI (B : Nat) (d0 : Option Nat) (w u : World) (z : Value) (q V : Nat) : Prop :=
  V < BW ^ q ∧ ((B = 16 ∧ ∃ wb Z, Sl u z wb q Z ∧ nv ((Z.take q).reverse) = V ∧ Nd w u d0 wb) ∨ (B = 10 ∧ ∃ d l, Own u z d l ∧ Nrm l ∧ nv l = V ∧ Nd w u d0 d))

theorem Nd.wk {w u u' : World} {d d' : Option Nat} (h : Nd w u d d') (hs : u.heap.size ≤ u'.heap.size) : Nd w u' d d' := by
  rcases h with h | h | ⟨b, h1, h2, h3⟩
  · exact .inl h
  · exact .inr (.inl h)
  · exact .inr (.inr ⟨b, h1, h2, by omega⟩)

theorem Nd.fd {w u : World} {d d' : Option Nat} (h : Nd w u d d') {b : Nat} (hb : b < w.heap.size) (e : d' = some b) : d = some b := by
  rcases h with h | h | ⟨b', h1, h2, _⟩
  · rw [h] at e; cases e
  · rw [h] at e; exact e
  · rw [h1] at e; cases e; omega

theorem ZI.fm {B q V : Nat} {d0 : Option Nat} {w u u' : World} {z : Value} (h : ZI B d0 w u z q V) {r : Nat} {s : ByteArray} {k : Nat} (hr : RdAt u r s k) (f : Fm (· = r) u u') : ZI B d0 w u' z q V := by
  obtain ⟨x, hc⟩ := hr.all
  have ne : ∀ {b : Nat} {l : List Nat}, Wd u b l → b ≠ r := fun {b l} hw e => by subst e; exact hw.cl.ne_T hc (by decide) rfl
  refine ⟨h.1, ?_⟩
  rcases h.2 with ⟨e, wb, Z, h1, h2, h3⟩ | ⟨e, d, l, h1, h2, h3, h4⟩
  · refine .inl ⟨e, wb, Z, h1.fm f (fun b e => ?_), h2, h3.wk f.size⟩
    subst e
    exact ne h1.2.1
  · refine .inr ⟨e, d, l, h1.fm f (fun b e => ?_), h2, h3, h4.wk f.size⟩
    subst e
    obtain ⟨fl, _, hw, _⟩ := h1
    exact ne hw

theorem RdAt.fmW {u u' : World} {r k : Nat} {s : ByteArray} (h : RdAt u r s k) {d : Option Nat} (f : Fm (fun b => d = some b) u u') (hd : ∀ b, d = some b → ∃ l, Wd u b l) : RdAt u' r s k := by
  refine h.fm f fun e => ?_
  obtain ⟨l, hw⟩ := hd r e
  obtain ⟨x, hc⟩ := h.all
  exact hw.cl.ne_T hc (by decide) rfl

theorem eof_fmW {u u' : World} {be : Addr} (h : Cl u 0 [eofV be] 64) {d : Option Nat} (f : Fm (fun b => d = some b) u u') (hd : ∀ b, d = some b → ∃ l, Wd u b l) : Cl u' 0 [eofV be] 64 := by
  refine f.obj h fun e => ?_
  obtain ⟨l, hw⟩ := hd _ e
  exact hw.cl.ne_T h (by decide) rfl

theorem eof_fmR {u u' : World} {be : Addr} {r k : Nat} {s : ByteArray} (h : Cl u 0 [eofV be] 64) (hr : RdAt u r s k) (f : Fm (· = r) u u') : Cl u' 0 [eofV be] 64 := by
  refine f.obj h fun e => ?_
  obtain ⟨x, hc⟩ := hr.all
  subst e
  have := h.symm.trans hc
  simp at this

/-- One more group. -/
theorem grp {B bn n V di q : Nat} (hB : BB B bn n) (hV : V < BW ^ q) (hd : di < B ^ n) : V * B ^ n + di < BW ^ (q + 1) := by
  have h1 := hB.pow
  have h2 : (V + 1) * B ^ n ≤ BW ^ q * BW := Nat.mul_le_mul hV h1
  rw [← Nat.pow_succ, Nat.add_mul, Nat.one_mul] at h2
  exact Nat.lt_of_lt_of_le (by omega) h2

theorem sub8 {x y : Nat} (h : y ≤ x) (hx : x < 256) : binV .sub .u8 .u8 (x : Int) (y : Int) = some (.int .u8 ((x - y : Nat) : Int)) := by
  show some (Value.int .u8 (IntKind.u8.wrap ((x : Int) - (y : Int)))) = _
  rw [wrapB]
  congr 2
  omega
theorem add8 {x y : Nat} (hx : x + y < 256) : binV .add .u8 .u8 (x : Int) (y : Int) = some (.int .u8 ((x + y : Nat) : Int)) := by
  show some (Value.int .u8 (IntKind.u8.wrap ((x : Int) + (y : Int)))) = _
  rw [wrapB]
  congr 2
  omega

/-- The state of the loop. -/
structure SL where
  j : Nat
  i : Nat
  q : Nat
  V : Nat
  di : Nat
  z : Value
  pv : Int

structure LI (w u : World) (d0 : Option Nat) (r : Nat) (be : Addr) (B n off : Nat) (s : ByteArray) (t : SL) : Prop where
  jq : t.j = t.q * n + t.i
  jm : t.j ≤ s.size - off
  il : t.i < n
  nm : num B ((digs s off).take t.j) = t.V * B ^ t.i + t.di
  dl : t.di < B ^ t.i
  zi : ZI B d0 w u t.z t.q t.V
  pv : t.pv ≠ 95
  eo : Cl u 0 [eofV be] 64
  fm : Fm (fun b => d0 = some b ∨ b = r) w u

theorem LI.rd {w u u' : World} {d0 : Option Nat} {r B n off : Nat} {be : Addr} {s : ByteArray} {t : SL} (h : LI w u d0 r be B n off s t) {k : Nat} (hr : RdAt u r s k) (f : Fm (· = r) u u') : LI w u' d0 r be B n off s t :=
  ⟨h.jq, h.jm, h.il, h.nm, h.dl, h.zi.fm hr f, h.pv, eof_fmR h.eo hr f, h.fm.trans f (fun b _ e => .inr e)⟩

theorem ZI.wd {B q V : Nat} {d0 : Option Nat} {w u : World} {z : Value} (h : ZI B d0 w u z q V) : True := trivial

theorem BW16 : BW = 16 ^ 16 := by decide

/-- The letters in front of the digits: nothing, or '0x'. -/
def Pre (s : ByteArray) (base : Int) (B off : Nat) : Prop := (base = 10 ∧ B = 10 ∧ off = 0) ∨ (base = 16 ∧ B = 16 ∧ off = 0) ∨ (base = 0 ∧ B = 16 ∧ off = 2 ∧ dg (bts s) 0 = 48 ∧ dg (bts s) 1 = 120)

theorem Pre.B {s : ByteArray} {base : Int} {B off : Nat} (h : Pre s base B off) : ∃ bn n, BB B bn n := by
  rcases h with ⟨_, rfl, _⟩ | ⟨_, rfl, _⟩ | ⟨_, rfl, _⟩
  · exact ⟨_, _, .inr ⟨rfl, rfl, rfl⟩⟩
  · exact ⟨_, _, .inl ⟨rfl, rfl, rfl⟩⟩
  · exact ⟨_, _, .inl ⟨rfl, rfl, rfl⟩⟩

theorem scan_c {w : World} {z : Value} {d0 : Option Nat} {l0 : List Nat} {r B off : Nat} {be : Addr} {s : ByteArray} {base : Int} (hz : Own w z d0 l0) (hr : RdAt w r s 0) (he : Cl w 0 [eofV be] 64)
    (hp : Pre s base B off) (hm : off < s.size) (hs : s.size < 400) (hc : ∀ i, off ≤ i → i < s.size → Dc B (dg (bts s) i)) :
    CallX P 90 #[z, .iface 109 (pR r), .int .i64 base, .bool false] w fun v w' => ∃ z' d l, v = .tuple #[z', .int .i64 (B : Int), .int .i64 ((s.size - off : Nat) : Int), .nilIface] ∧
      Own w' z' d l ∧ Nrm l ∧ nv l = num B (digs s off) ∧ Nd w w' d0 d ∧ RdAt w' r s s.size ∧ Fm (fun b => d0 = some b ∨ b = r) w w' := by
  obtain ⟨bn, n, hB⟩ := hp.B
  have frR : ∀ {u u' : World}, Fm (fun b => d0 = some b ∨ b = r) w u → Fm (· = r) u u' → Fm (fun b => d0 = some b ∨ b = r) w u' := fun f g => f.trans g (fun b _ e => .inr e)
  have hsz : s.size < 100000 := by omega
  refine calls_vc mo fn_90 rfl ok_90 (Nat.le_of_ble_eq_true rfl) nm_90 ?_
  (refine vsr ?_)
  (repeat refine vcl_v _ rfl rfl ?_); (refine vcl_end ?_)
  refine vcut (by repeat (first | exact moE _ _ _ | exact moEd _ _ _ | apply moB | apply moL | apply moV)) Unit (fun _ => ⟨(0, z) :: (10, .int .i64 0) :: (12, .bool true) :: (1, .iface 109 (pR r)) :: (2, .int .i64 base) :: (3, .bool false) :: [], []⟩) (fun _ u => u = w) ?_ ?_
  · rcases hp with ⟨rfl, _, _⟩ | ⟨rfl, _, _⟩ | ⟨rfl, _, _⟩
    · refine ⟨_, bEqF (by decide), ?_⟩
      refine ⟨_, bLe (by decide), ?_⟩
      refine ⟨_, bLe (by decide), ?_⟩
      exact ⟨(), ⟨⟨rfl, rfl, rfl, rfl, rfl, rfl, trivial⟩, rfl⟩, rfl⟩
    · refine ⟨_, bEqF (by decide), ?_⟩
      refine ⟨_, bLe (by decide), ?_⟩
      refine ⟨_, bLe (by decide), ?_⟩
      exact ⟨(), ⟨⟨rfl, rfl, rfl, rfl, rfl, rfl, trivial⟩, rfl⟩, rfl⟩
    · refine ⟨_, bEq rfl, ?_⟩
      exact ⟨(), ⟨⟨rfl, rfl, rfl, rfl, rfl, rfl, trivial⟩, rfl⟩, rfl⟩
  rintro _ u rfl
  refine ⟨fun hc => (by cases hc), fun _ => ?_⟩
  (refine sqn ?_)
  (refine vsr ?_)
  (repeat refine vcl_v _ rfl rfl ?_); (refine vcl_end ?_)
  (refine vsr ?_)
  (repeat refine vcl_v _ rfl rfl ?_); (refine vcl_end ?_)
  (refine vsr ?_)
  refine ⟨_, _, mRB _ _, ?_⟩
  refine (readByte_c hr (by omega) hsz).mono ?_
  rintro v w1 ⟨rfl, hr1, f1⟩
  have he1 := eof_fmR he hr f1
  have hz1 : Own w1 z d0 l0 := by
    refine hz.fm f1 (fun b e1 e2 => ?_)
    subst e1; subst e2
    obtain ⟨x, hcl⟩ := hr.all
    obtain ⟨fl, _, hw, _⟩ := hz
    exact hw.cl.ne_T hcl (by decide) rfl
  have F1 : Fm (fun b => d0 = some b ∨ b = r) u w1 := frR (Fm.refl _ _) f1
  (repeat refine vcl_v _ rfl rfl ?_); (refine vcl_end ?_)
  (refine vsr ?_)
  (repeat refine vcl_v _ rfl rfl ?_); (refine vcl_end ?_)
  refine vcut (by repeat (first | exact moE _ _ _ | exact moEd _ _ _ | apply moB | apply moL | apply moV)) (Int × Int) (fun t => ⟨(0, z) :: (10, .int .i64 0) :: (11, .nilIface) :: (13, .int .i32 t.1) :: (15, .int .u8 (dg (bts s) off : Int)) :: (16, .int .i64 t.2) :: (1, .iface 109 (pR r)) :: (2, .int .i64 base) :: (3, .bool false) :: (9, .int .i64 (B : Int)) :: (14, .bool false) :: [], []⟩)
    (fun t u' => t.1 ≠ 95 ∧ Own u' z d0 l0 ∧ RdAt u' r s (off + 1) ∧ Cl u' 0 [eofV be] 64 ∧ Fm (fun b => d0 = some b ∨ b = r) u u') ?_ ?_
  · rcases hp with ⟨rfl, rfl, rfl⟩ | ⟨rfl, rfl, rfl⟩ | ⟨rfl, rfl, rfl, hd0, hd1⟩
    · refine ⟨_, bEqF (by decide), ?_⟩
      refine ⟨fun hc => (by cases hc), fun _ => ?_⟩
      exact ⟨(46, 0), ⟨⟨rfl, rfl, rfl, rfl, rfl, rfl, rfl, rfl, rfl, rfl, rfl, trivial⟩, rfl⟩, by decide, hz1, hr1, he1, F1⟩
    · refine ⟨_, bEqF (by decide), ?_⟩
      refine ⟨fun hc => (by cases hc), fun _ => ?_⟩
      exact ⟨(46, 0), ⟨⟨rfl, rfl, rfl, rfl, rfl, rfl, rfl, rfl, rfl, rfl, rfl, trivial⟩, rfl⟩, by decide, hz1, hr1, he1, F1⟩
    · refine ⟨_, bEq rfl, ?_⟩
      refine ⟨fun _ => ?_, fun hc => (by cases hc)⟩
      refine rnA (eNN _) ?_
      rw [hd0]
      refine ⟨_, bEq rfl, ?_⟩
      refine ⟨fun _ => ?_, fun hc => (by cases hc)⟩
      refine ⟨_, _, mRB _ _, ?_⟩
      refine (readByte_c hr1 (by omega) hsz).mono ?_
      rintro v w2 ⟨rfl, hr2, f2⟩
      rw [show 0 + 1 = 1 from rfl, hd1]
      refine rnA (eNN _) ?_
      refine ⟨fun _ => ?_, fun hc => (by cases hc)⟩
      refine ⟨_, bEqF (by decide), ?_⟩
      refine ⟨fun hc => (by cases hc), fun _ => ?_⟩
      refine ⟨_, bEqF (by decide), ?_⟩
      refine ⟨fun hc => (by cases hc), fun _ => ?_⟩
      refine ⟨_, bEqF (by decide), ?_⟩
      refine ⟨fun hc => (by cases hc), fun _ => ?_⟩
      refine ⟨_, bEqF (by decide), ?_⟩
      refine ⟨fun hc => (by cases hc), fun _ => ?_⟩
      refine ⟨_, bEq rfl, ?_⟩
      refine ⟨fun _ => ?_, fun hc => (by cases hc)⟩
      refine ⟨fun _ => ?_, fun hc => (by cases hc)⟩
      refine ⟨_, bNe (by decide), ?_⟩
      refine ⟨fun _ => ?_, fun hc => (by cases hc)⟩
      refine ⟨_, bNe (by decide), ?_⟩
      refine ⟨fun _ => ?_, fun hc => (by cases hc)⟩
      refine ⟨_, _, mRB _ _, ?_⟩
      refine (readByte_c hr2 (by omega) hsz).mono ?_
      rintro v w3 ⟨rfl, hr3, f3⟩
      have ne : ∀ {u' : World} {k : Nat}, RdAt u' r s k → Own u' z d0 l0 → ∀ b, d0 = some b → ¬ b = r := fun hr hz b e1 e2 => by
        subst e1; subst e2
        obtain ⟨x, hcl⟩ := hr.all
        obtain ⟨fl, _, hw, _⟩ := hz
        exact hw.cl.ne_T hcl (by decide) rfl
      have hz2 := hz1.fm f2 (ne hr1 hz1)
      have hz3 := hz2.fm f3 (ne hr2 hz2)
      exact ⟨(48, 120), ⟨⟨rfl, rfl, rfl, rfl, rfl, rfl, rfl, rfl, rfl, rfl, rfl, trivial⟩, rfl⟩, by decide, hz3, hr3, eof_fmR (eof_fmR he1 hr1 f2) hr2 f3, frR (frR F1 f2) f3⟩
  clear hz1 hr1 he1 F1 f1 hr he hz
  rintro ⟨pv0, px⟩ u1 ⟨hpv, hz1, hr1, he1, F1⟩
  dsimp only at hpv ⊢
  obtain ⟨az, nz, cz, Z0, rfl, hS0⟩ := hz1.sl
  (refine vsr ?_)
  refine rnA (slHi (hi := 0) se_54 _ (Nat.zero_le _)) ?_
  (repeat refine vcl_v _ rfl rfl ?_); (refine vcl_end ?_)
  (refine vsr ?_)
  have hBl : B < 18446744073709551616 := by rcases hB with ⟨rfl, _⟩ | ⟨rfl, _⟩ <;> omega
  refine rnA (cv cv_3_101 (wrapU_nat hBl)) ?_
  (repeat refine vcl_v _ rfl rfl ?_); (refine vcl_end ?_)
  (refine vsr ?_)
  (repeat refine vcl_v _ rfl rfl ?_); (refine vcl_end ?_)
  (refine vsr ?_)
  (repeat refine vcl_v _ rfl rfl ?_); (refine vcl_end ?_)
  refine vcut (by repeat (first | exact moE _ _ _ | exact moEd _ _ _ | apply moB | apply moL | apply moV)) Unit (fun _ => ⟨(0, .slice az 0 cz) :: (10, .int .i64 0) :: (11, .nilIface) :: (13, .int .i32 pv0) :: (15, .int .u8 (dg (bts s) off : Int)) :: (16, .int .i64 px) :: (17, vw B) :: (18, vw bn) :: (19, .int .i64 (n : Int)) :: (1, .iface 109 (pR r)) :: (2, .int .i64 base) :: (3, .bool false) :: (9, .int .i64 (B : Int)) :: (14, .bool false) :: [], []⟩) (fun _ u' => u' = u1) ?_ ?_
  · (refine vsr ?_)
    (repeat refine vcl_v _ rfl rfl ?_); (refine vcl_end ?_)
    rcases hB with ⟨rfl, rfl, rfl⟩ | ⟨rfl, rfl, rfl⟩
    · refine ⟨_, bEqF (by decide), ?_⟩
      refine ⟨fun hc => (by cases hc), fun _ => ?_⟩
      refine ⟨_, bEqF (by decide), ?_⟩
      refine ⟨fun hc => (by cases hc), fun _ => ?_⟩
      refine ⟨_, bEq rfl, ?_⟩
      refine ⟨fun _ => ?_, fun hc => (by cases hc)⟩
      exact ⟨(), ⟨⟨rfl, rfl, rfl, rfl, rfl, rfl, rfl, rfl, rfl, rfl, rfl, rfl, rfl, rfl, trivial⟩, rfl⟩, rfl⟩
    · refine ⟨_, bEqF (by decide), ?_⟩
      refine ⟨fun hc => (by cases hc), fun _ => ?_⟩
      refine ⟨_, bEqF (by decide), ?_⟩
      refine ⟨fun hc => (by cases hc), fun _ => ?_⟩
      refine ⟨_, bEqF (by decide), ?_⟩
      refine ⟨fun hc => (by cases hc), fun _ => ?_⟩
      refine (maxPow_c u1).mono ?_
      rintro v u2 ⟨rfl, rfl⟩
      exact ⟨(), ⟨⟨rfl, rfl, rfl, rfl, rfl, rfl, rfl, rfl, rfl, rfl, rfl, rfl, rfl, rfl, trivial⟩, rfl⟩, rfl⟩
  rintro _ u' rfl
  (refine vsr ?_)
  (repeat refine vcl_v _ rfl rfl ?_); (refine vcl_end ?_)
  (refine vsr ?_)
  (repeat refine vcl_v _ rfl rfl ?_); (refine vcl_end ?_)
  (refine vsr ?_)
  (repeat refine vcl_v _ rfl rfl ?_); (refine vcl_end ?_)
  have hn16 : 16 ≤ n ∧ n ≤ 19 := by rcases hB with ⟨_, _, rfl⟩ | ⟨_, _, rfl⟩ <;> omega
  have hLI0 : LI u u' d0 r be B n off s ⟨0, 0, 0, 0, 0, .slice az 0 cz, pv0⟩ := by
    refine ⟨by simp, Nat.zero_le _, by show 0 < n; omega, by simp [num], by simp, ⟨by simp, ?_⟩, hpv, he1, F1⟩
    rcases hB with ⟨e, _, _⟩ | ⟨e, _, _⟩
    · exact .inl ⟨e, d0, Z0, hS0, by simp [nv], Nd.same _ _ _⟩
    · refine .inr ⟨e, d0, [], ?_, nrm_nil, rfl, Nd.same _ _ _⟩
      have := hS0.own (by omega)
      rwa [List.take_zero] at this
  refine vcut (by repeat (first | exact moE _ _ _ | exact moEd _ _ _ | apply moB | apply moL | apply moV)) SL (fun t => ⟨(0, t.z) :: (11, eofV be) :: (10, .int .i64 (t.j : Int)) :: (13, .int .i32 t.pv) :: (16, .int .i64 px) :: (17, vw B) :: (18, vw bn) :: (19, .int .i64 (n : Int)) :: (20, vw t.di) :: (21, .int .i64 (t.i : Int)) :: (22, .int .i64 (-1)) :: (1, .iface 109 (pR r)) :: (2, .int .i64 base) :: (3, .bool false) :: (9, .int .i64 (B : Int)) :: (14, .bool false) :: [], []⟩) (fun t u2 => t.j = s.size - off ∧ LI u u2 d0 r be B n off s t ∧ RdAt u2 r s s.size) ?_ ?_
  · refine vloop SL (fun t => ⟨(0, t.z) :: (11, if t.j < s.size - off then .nilIface else eofV be) :: (15, .int .u8 (if t.j < s.size - off then (dg (bts s) (off + t.j) : Int) else 0)) :: (10, .int .i64 (t.j : Int)) :: (13, .int .i32 t.pv) :: (16, .int .i64 px) :: (17, vw B) :: (18, vw bn) :: (19, .int .i64 (n : Int)) :: (20, vw t.di) :: (21, .int .i64 (t.i : Int)) :: (22, .int .i64 (-1)) :: (1, .iface 109 (pR r)) :: (2, .int .i64 base) :: (3, .bool false) :: (9, .int .i64 (B : Int)) :: (14, .bool false) :: [], []⟩) (fun t u2 => LI u u2 d0 r be B n off s t ∧ RdAt u2 r s (if t.j < s.size - off then off + t.j + 1 else s.size)) (fun t => s.size - off - t.j) ⟨0, 0, 0, 0, 0, .slice az 0 cz, pv0⟩
      ⟨⟨rfl, ?_, ?_, rfl, rfl, rfl, rfl, rfl, rfl, rfl, rfl, rfl, rfl, rfl, rfl, rfl, rfl, trivial⟩, rfl⟩ ⟨hLI0, by rw [if_pos (by show 0 < s.size - off; omega)]; exact hr1⟩ ?_
    · rw [if_pos (by show 0 < s.size - off; omega)]; rfl
    · rw [if_pos (by show 0 < s.size - off; omega)]; rfl
    rintro t u2 ⟨hL, hR⟩
    rcases Nat.lt_or_ge t.j (s.size - off) with hj | hj
    · rw [if_pos hj] at hR
      rw [if_pos hj, if_pos hj]
      refine rnA (eNN _) ?_
      refine ⟨fun _ => ?_, fun hc => (by cases hc)⟩
      (refine sqn ?_)
      refine vbk ?_
      obtain ⟨hch, hdv⟩ := hc (off + t.j) (by omega) (by omega)
      have hdg := digs_dg (s := s) (off := off) (j := t.j) (by omega)
      have hdvd : dv (dg (bts s) (off + t.j)) = if dg (bts s) (off + t.j) ≤ 57 then dg (bts s) (off + t.j) - 48 else dg (bts s) (off + t.j) - 87 := rfl
      generalize dg (bts s) (off + t.j) = c at *
      refine vcut (by repeat (first | exact moE _ _ _ | exact moEd _ _ _ | apply moB | apply moL | apply moV)) SL (fun t => ⟨(0, t.z) :: (10, .int .i64 (t.j : Int)) :: (13, .int .i32 t.pv) :: (16, .int .i64 px) :: (17, vw B) :: (18, vw bn) :: (19, .int .i64 (n : Int)) :: (20, vw t.di) :: (21, .int .i64 (t.i : Int)) :: (22, .int .i64 (-1)) :: (1, .iface 109 (pR r)) :: (2, .int .i64 base) :: (3, .bool false) :: (9, .int .i64 (B : Int)) :: (14, .bool false) :: [], []⟩) (fun t' u3 => t'.j = t.j + 1 ∧ LI u u3 d0 r be B n off s t' ∧ RdAt u3 r s (off + t'.j)) ?_ ?_
      · refine ⟨_, bEqF (by omega), ?_⟩
        refine ⟨fun hc => (by cases hc), fun _ => ?_⟩
        refine ⟨_, bEqF (by omega), ?_⟩
        refine ⟨fun hc => (by cases hc), fun _ => ?_⟩
        (refine vsr ?_)
        (repeat refine vcl_v _ rfl rfl ?_); (refine vcl_end ?_)
        refine vcut (by repeat (first | exact moE _ _ _ | exact moEd _ _ _ | apply moB | apply moL | apply moV)) Unit (fun _ => ⟨(0, t.z) :: (23, vw (dv c)) :: (10, .int .i64 (t.j : Int)) :: (13, .int .i32 t.pv) :: (16, .int .i64 px) :: (17, vw B) :: (18, vw bn) :: (19, .int .i64 (n : Int)) :: (20, vw t.di) :: (21, .int .i64 (t.i : Int)) :: (22, .int .i64 (-1)) :: (1, .iface 109 (pR r)) :: (2, .int .i64 base) :: (3, .bool false) :: (9, .int .i64 (B : Int)) :: (14, .bool false) :: [], []⟩) (fun _ u3 => u3 = u2) ?_ ?_
        · refine vbk ?_
          rcases Nat.lt_or_ge 57 c with h57 | h57
          · rw [if_neg (by omega)] at hdvd
            refine ⟨_, bLe (by omega), ?_⟩
            refine ⟨_, bLeF (by omega), ?_⟩
            refine ⟨fun hc => (by cases hc), fun _ => ?_⟩
            refine ⟨_, bLe (by omega), ?_⟩
            refine ⟨_, bLe (by omega), ?_⟩
            refine ⟨fun _ => ?_, fun hc => (by cases hc)⟩
            refine ⟨_, sub8 (x := c) (y := 97) (by omega) (by omega), ?_⟩
            refine ⟨_, add8 (x := c - 97) (y := 10) (by omega), ?_⟩
            refine rnA (cv cv_5_101 (wrapU_nat (by omega))) ?_
            refine ⟨(), ⟨⟨rfl, ?_, rfl, rfl, rfl, rfl, rfl, rfl, rfl, rfl, rfl, rfl, rfl, rfl, rfl, rfl, trivial⟩, rfl⟩, rfl⟩
            rw [hdvd, show c - 87 = c - 97 + 10 by omega]
            rfl
          · rw [if_pos h57] at hdvd
            refine ⟨_, bLe (by omega), ?_⟩
            refine ⟨_, bLe (by omega), ?_⟩
            refine ⟨fun _ => ?_, fun hc => (by cases hc)⟩
            refine ⟨_, sub8 (x := c) (y := 48) (by omega) (by omega), ?_⟩
            refine rnA (cv cv_5_101 (wrapU_nat (by omega))) ?_
            refine ⟨(), ⟨⟨rfl, ?_, rfl, rfl, rfl, rfl, rfl, rfl, rfl, rfl, rfl, rfl, rfl, rfl, rfl, rfl, trivial⟩, rfl⟩, rfl⟩
            rw [hdvd]
            rfl
        rintro _ u3 rfl
        have hBp : 0 < B := by omega
        have hdi : t.di * B + dv c < B ^ (t.i + 1) := by
          have h1 : (t.di + 1) * B ≤ B ^ t.i * B := Nat.mul_le_mul_right _ hL.dl
          rw [← Nat.pow_succ, Nat.add_mul, Nat.one_mul] at h1
          exact Nat.lt_of_lt_of_le (by omega) h1
        have hdB : t.di * B + dv c < 18446744073709551616 := Nat.lt_of_lt_of_le hdi (Nat.le_trans (Nat.pow_le_pow_right hBp hL.il) hB.pow)
        have hnum : num B ((digs s off).take (t.j + 1)) = t.V * B ^ (t.i + 1) + (t.di * B + dv c) := by
          rw [num_take (by rw [digs_len]; exact hj), hL.nm, hdg, Nat.pow_succ, Nat.add_mul, Nat.mul_assoc]
          omega
        have hjq := hL.jq
        have hqj : t.q ≤ t.j := by
          have := Nat.le_mul_of_pos_right t.q (show 0 < n by omega)
          omega
        refine ⟨_, bGeF (by omega), ?_⟩
        refine ⟨fun hc => (by cases hc), fun _ => ?_⟩
        refine ⟨_, nAdd t.j 1 (by omega), ?_⟩
        refine ⟨_, wMul t.di B, ?_⟩
        have m1 : (t.di * B) % 18446744073709551616 = t.di * B := Nat.mod_eq_of_lt (by omega)
        rw [m1]
        refine ⟨_, wAdd' (x := t.di * B) (y := dv c) (by omega), ?_⟩
        refine ⟨_, nAdd t.i 1 (by omega), ?_⟩
        generalize t.di * B + dv c = dn at *
        have hRj : ∀ {u' : World}, RdAt u' r s (off + t.j + 1) → RdAt u' r s (off + (t.j + 1)) := fun h => by rw [← Nat.add_assoc]; exact h
        rcases Nat.lt_or_ge (t.i + 1) n with hi | hi
        · refine ⟨_, bEqF (by omega), ?_⟩
          refine ⟨fun hc => (by cases hc), fun _ => ?_⟩
          exact ⟨⟨t.j + 1, t.i + 1, t.q, t.V, dn, t.z, 48⟩, ⟨⟨rfl, rfl, rfl, rfl, rfl, rfl, rfl, rfl, rfl, rfl, rfl, rfl, rfl, rfl, rfl, trivial⟩, rfl⟩, rfl, ⟨by show t.j + 1 = t.q * n + (t.i + 1); omega, hj, hi, hnum, hdi, hL.zi, by show (48 : Int) ≠ 95; decide, hL.eo, hL.fm⟩, hRj hR⟩
        · have hin : t.i + 1 = n := by have := hL.il; omega
          refine ⟨_, bEq (by omega), ?_⟩
          refine ⟨fun _ => ?_, fun hc => (by cases hc)⟩
          rw [hin] at hdi hnum
          have hVq := grp hB hL.zi.1 hdi
          have hjn : t.j + 1 = (t.q + 1) * n + 0 := by rw [Nat.add_mul, Nat.one_mul]; omega
          rcases hB with ⟨rfl, rfl, rfl⟩ | ⟨rfl, rfl, rfl⟩
          · obtain ⟨wb, Z, hSl, hnv, hnd⟩ : ∃ wb Z, Sl u3 t.z wb t.q Z ∧ nv ((Z.take t.q).reverse) = t.V ∧ Nd u u3 d0 wb := by
              rcases hL.zi.2 with ⟨_, h⟩ | ⟨e, _⟩
              · exact h
              · cases e
            refine ⟨_, bEq rfl, ?_⟩
            refine ⟨fun _ => ?_, fun hc => (by cases hc)⟩
            obtain ⟨u4, e4, c4, f4, s4⟩ := bsN dn u3
            refine ⟨_, u4, e4, ?_⟩
            have hSl4 := hSl.fm f4 (fun _ _ h => h)
            have hW4 : Wd u4 u3.heap.size [dn] := ⟨c4, fun y hy => by rw [List.mem_singleton.1 hy]; exact hdB⟩
            have wd4 : ∀ b, wb = some b → ∃ l, Wd u4 b l := fun b e => by subst e; exact ⟨_, hSl4.2.1⟩
            obtain ⟨v5, u5, wb5, Z5, e5, hSl5, ht5, hnd5, hf5⟩ := apOne hSl4 (by omega) hdB hW4 54 (#[Operand.tmp 193, Operand.tmp 195].map fun | .const _ => true | _ => false)
            refine ⟨_, u5, e5, ?_⟩
            have hs4 := f4.size
            have hs5 := hf5.size
            have hnd' : Nd u u5 d0 wb5 := by
              rcases hnd5 with h | ⟨b, h, h2⟩
              · rw [h]; exact hnd.wk (by omega)
              · refine .inr (.inr ⟨b, h, ?_, ?_⟩)
                · have := hL.fm.size; omega
                · subst h; exact hSl5.2.1.lt
            have hR4 := hR.fm f4 (fun h => h)
            have hR5 := hR4.fmW hf5 wd4
            have he4 := f4.obj hL.eo (fun h => h)
            have he5 := eof_fmW he4 hf5 wd4
            exact ⟨⟨t.j + 1, 0, t.q + 1, t.V * 16 ^ 16 + dn, 0, v5, 48⟩, ⟨⟨rfl, rfl, rfl, rfl, rfl, rfl, rfl, rfl, rfl, rfl, rfl, rfl, rfl, rfl, rfl, trivial⟩, rfl⟩, rfl, ⟨hjn, hj, by show 0 < 16; omega, by rw [hnum]; simp, by show 0 < 16 ^ 0; decide, ⟨hVq, .inl ⟨rfl, wb5, Z5, hSl5, by
              rw [ht5, List.reverse_append]
              show dn + BW * nv ((Z.take t.q).reverse) = t.V * 16 ^ 16 + dn
              rw [hnv, BW16, Nat.mul_comm, Nat.add_comm], hnd'⟩⟩, by show (48 : Int) ≠ 95; decide, he5, (hL.fm.trans f4 (fun _ _ h => h.elim)).trans hf5 (fun b hb e => .inl (hnd.fd hb e))⟩, hRj hR5⟩
          · obtain ⟨d, l, hO, hN, hnv, hnd⟩ : ∃ d l, Own u3 t.z d l ∧ Nrm l ∧ nv l = t.V ∧ Nd u u3 d0 d := by
              rcases hL.zi.2 with ⟨e, _⟩ | ⟨_, h⟩
              · cases e
              · exact h
            refine ⟨_, bEqF (by omega), ?_⟩
            refine ⟨fun hc => (by cases hc), fun _ => ?_⟩
            have hlen := nv_length_le hN (by rw [hnv]; exact hL.zi.1)
            refine (mulAddWW_c hO hO (by omega) (show 10000000000000000000 < BW by decide) hdB).mono ?_
            rintro v5 u5 ⟨d5, l5, hO5, hN5, hnv5, hnd5, hf5⟩
            have wd3 : ∀ b, d = some b → ∃ l, Wd u3 b l := fun b e => by
              subst e
              obtain ⟨fl, _, hw, _⟩ := hO
              exact ⟨_, hw⟩
            have hs5 := hf5.size
            exact ⟨⟨t.j + 1, 0, t.q + 1, t.V * 10 ^ 19 + dn, 0, v5, 48⟩, ⟨⟨rfl, rfl, rfl, rfl, rfl, rfl, rfl, rfl, rfl, rfl, rfl, rfl, rfl, rfl, rfl, trivial⟩, rfl⟩, rfl, ⟨hjn, hj, by show 0 < 19; omega, by rw [hnum]; simp, by show 0 < 10 ^ 0; decide, ⟨hVq, .inr ⟨rfl, d5, l5, hO5, hN5, by rw [hnv5, hnv], hnd.trans hnd5 hL.fm.size hs5⟩⟩, by show (48 : Int) ≠ 95; decide, eof_fmW hL.eo hf5 wd3, hL.fm.trans hf5 (fun b hb e => .inl (hnd.fd hb e))⟩, hRj (hR.fmW hf5 wd3)⟩
      · rintro t' u3 ⟨hj', hL', hR'⟩
        refine ⟨_, _, mRB _ _, ?_⟩
        rcases Nat.lt_or_ge t'.j (s.size - off) with h1 | h1
        · refine (readByte_c hR' (by omega) hsz).mono ?_
          rintro v u4 ⟨rfl, hr4, f4⟩
          refine ⟨t', ⟨⟨rfl, ?_, ?_, rfl, rfl, rfl, rfl, rfl, rfl, rfl, rfl, rfl, rfl, rfl, rfl, rfl, rfl, trivial⟩, rfl⟩, ⟨hL'.rd hR' f4, by rw [if_pos h1]; exact hr4⟩, by omega⟩
          · rw [if_pos h1]; rfl
          · rw [if_pos h1]; rfl
        · have hje : t'.j = s.size - off := by have := hL'.jm; omega
          refine (readByte_eof hR' (by omega) hL'.eo).mono ?_
          rintro v u4 ⟨rfl, hr4, f4⟩
          refine ⟨t', ⟨⟨rfl, ?_, ?_, rfl, rfl, rfl, rfl, rfl, rfl, rfl, rfl, rfl, rfl, rfl, rfl, rfl, rfl, trivial⟩, rfl⟩, ⟨hL'.rd hR' f4, by rw [if_neg (by omega)]; rwa [show off + t'.j = s.size by omega] at hr4⟩, by omega⟩
          · rw [if_neg (by omega)]; rfl
          · rw [if_neg (by omega)]; rfl
    · have hje : t.j = s.size - off := by have := hL.jm; omega
      rw [if_neg (by omega)] at hR
      rw [if_neg (by omega), if_neg (by omega)]
      refine rnA (eEN be _) ?_
      refine ⟨fun hc => (by cases hc), fun _ => ?_⟩
      exact ⟨t, ⟨⟨rfl, rfl, rfl, rfl, rfl, rfl, rfl, rfl, rfl, rfl, rfl, rfl, rfl, rfl, rfl, rfl, trivial⟩, rfl⟩, hje, hL, hR⟩
  rintro t u2 ⟨hj, hL, hR⟩
  refine rnL na_64 hL.eo rfl ?_
  refine rnA (eEE _ _ _) ?_
  refine ⟨fun _ => ?_, fun hc => (by cases hc)⟩
  refine rnA (eNN _) ?_
  refine ⟨_, bEqF hL.pv, ?_⟩
  refine ⟨fun hc => (by cases hc), fun _ => ?_⟩
  refine ⟨_, bEqF (by omega), ?_⟩
  refine ⟨fun hc => (by cases hc), fun _ => ?_⟩
  (refine sqn ?_)
  have hjq := hL.jq
  have hqj : t.q ≤ t.j := by
    have := Nat.le_mul_of_pos_right t.q (show 0 < n by omega)
    omega
  have hnum : num B (digs s off) = t.V * B ^ t.i + t.di := by
    have := hL.nm
    rwa [List.take_of_length_le (by rw [digs_len]; omega)] at this
  have hdl := hL.dl
  have hil := hL.il
  refine vcut (by repeat (first | exact moE _ _ _ | exact moEd _ _ _ | apply moB | apply moL | apply moV)) Value (fun z' => ⟨(0, z') :: (9, .int .i64 (B : Int)) :: (10, .int .i64 (t.j : Int)) :: (11, .nilIface) :: (22, .int .i64 (-1)) :: [], []⟩)
    (fun z' u3 => ∃ d l, Own u3 z' d l ∧ Nrm l ∧ nv l = num B (digs s off) ∧ Nd u u3 d0 d ∧ RdAt u3 r s s.size ∧ Fm (fun b => d0 = some b ∨ b = r) u u3) ?_ ?_
  · rcases hB with ⟨rfl, rfl, rfl⟩ | ⟨rfl, rfl, rfl⟩
    · obtain ⟨wb, Z, hSl, hnv, hnd⟩ : ∃ wb Z, Sl u2 t.z wb t.q Z ∧ nv ((Z.take t.q).reverse) = t.V ∧ Nd u u2 d0 wb := by
        rcases hL.zi.2 with ⟨_, h⟩ | ⟨e, _⟩
        · exact h
        · cases e
      refine ⟨_, bEq rfl, ?_⟩
      refine ⟨fun _ => ?_, fun hc => (by cases hc)⟩
      have hdB : t.di * 16 ^ (16 - t.i) < 18446744073709551616 := by
        have h1 : t.di * 16 ^ (16 - t.i) < 16 ^ t.i * 16 ^ (16 - t.i) := Nat.mul_lt_mul_of_pos_right hdl (Nat.pow_pos (by omega))
        rw [← Nat.pow_add, show t.i + (16 - t.i) = 16 by omega] at h1
        exact h1
      refine vcut (by repeat (first | exact moE _ _ _ | exact moEd _ _ _ | apply moB | apply moL | apply moV)) (Value × Nat) (fun p => ⟨(0, p.1) :: (9, .int .i64 16) :: (10, .int .i64 (t.j : Int)) :: (11, .nilIface) :: (19, .int .i64 16) :: (21, .int .i64 (t.i : Int)) :: (22, .int .i64 (-1)) :: [], []⟩)
        (fun p u3 => ∃ wb Z, 1 ≤ p.2 ∧ p.2 ≤ 401 ∧ Sl u3 p.1 wb p.2 Z ∧ nv ((Z.take p.2).reverse) = (t.V * 16 ^ t.i + t.di) * (if t.i = 0 then 1 else 16 ^ (16 - t.i)) ∧ Nd u u3 d0 wb ∧ RdAt u3 r s s.size ∧ Fm (fun b => d0 = some b ∨ b = r) u u3) ?_ ?_
      · (refine vsr ?_)
        rcases Nat.eq_zero_or_pos t.i with hi | hi
        · refine ⟨_, bGtF (by omega), ?_⟩
          refine ⟨fun hc => (by cases hc), fun _ => ?_⟩
          rw [hi] at hdl hjq ⊢
          refine ⟨(t.z, t.q), ⟨⟨rfl, rfl, rfl, rfl, rfl, rfl, rfl, trivial⟩, rfl⟩, wb, Z, by show 1 ≤ t.q; omega, by show t.q ≤ 401; omega, hSl, ?_, hnd, hR, hL.fm⟩
          show nv ((Z.take t.q).reverse) = _
          rw [hnv, if_pos rfl, Nat.pow_zero]
          rw [Nat.pow_zero] at hdl
          omega
        · refine ⟨_, bGt (by omega), ?_⟩
          refine ⟨fun _ => ?_, fun hc => (by cases hc)⟩
          refine ⟨_, nSub 16 t.i (by omega) (by omega), ?_⟩
          refine (pow_c 16 (16 - t.i) (by omega) u2).mono ?_
          rintro v u3 ⟨rfl, rfl⟩
          have hpw : 16 ^ (16 - t.i) % 18446744073709551616 = 16 ^ (16 - t.i) := Nat.mod_eq_of_lt (by
            have : 16 ^ (16 - t.i) ≤ 16 ^ 15 := Nat.pow_le_pow_right (by omega) (by omega)
            exact Nat.lt_of_le_of_lt this (by decide))
          rw [hpw]
          refine ⟨_, wMul' hdB, ?_⟩
          obtain ⟨u4, e4, c4, f4, s4⟩ := bsN (t.di * 16 ^ (16 - t.i)) u2
          refine ⟨_, u4, e4, ?_⟩
          have hSl4 := hSl.fm f4 (fun _ _ h => h)
          have hW4 : Wd u4 u2.heap.size [t.di * 16 ^ (16 - t.i)] := ⟨c4, fun y hy => by rw [List.mem_singleton.1 hy]; exact hdB⟩
          have wd4 : ∀ b, wb = some b → ∃ l, Wd u4 b l := fun b e => by subst e; exact ⟨_, hSl4.2.1⟩
          obtain ⟨v5, u5, wb5, Z5, e5, hSl5, ht5, hnd5, hf5⟩ := apOne hSl4 (by omega) hdB hW4 54 (#[Operand.tmp 232, Operand.tmp 240].map fun | .const _ => true | _ => false)
          refine ⟨_, u5, e5, ?_⟩
          have hs4 := f4.size
          have hs5 := hf5.size
          have hnd' : Nd u u5 d0 wb5 := by
            rcases hnd5 with h | ⟨b, h, h2⟩
            · rw [h]; exact hnd.wk (by omega)
            · refine .inr (.inr ⟨b, h, ?_, ?_⟩)
              · have := hL.fm.size; omega
              · subst h; exact hSl5.2.1.lt
          have hR5 := (hR.fm f4 (fun h => h)).fmW hf5 wd4
          refine ⟨(v5, t.q + 1), ⟨⟨rfl, rfl, rfl, rfl, rfl, rfl, rfl, trivial⟩, rfl⟩, wb5, Z5, by show 1 ≤ t.q + 1; omega, by show t.q + 1 ≤ 401; omega, hSl5, ?_, hnd', hR5, (hL.fm.trans f4 (fun _ _ h => h.elim)).trans hf5 (fun b hb e => .inl (hnd.fd hb e))⟩
          show nv ((Z5.take (t.q + 1)).reverse) = _
          rw [ht5, List.reverse_append]
          show t.di * 16 ^ (16 - t.i) + BW * nv ((Z.take t.q).reverse) = _
          rw [hnv, BW16, if_neg (by omega), Nat.add_mul, Nat.mul_assoc t.V, ← Nat.pow_add, show t.i + (16 - t.i) = 16 by omega, Nat.mul_comm t.V, Nat.add_comm]
      rintro ⟨z3, q3⟩ u3 ⟨wb3, Z3, hq1, hq2, hS3, hv3, hnd3, hR3, hF3⟩
      dsimp only at hq1 hq2 hS3 hv3 ⊢
      cases wb3 with
      | none => have := hS3.2.1; omega
      | some b3 =>
        obtain ⟨rfl, hW3, hl3, hc3⟩ := hS3
        (refine vsr ?_)
        refine (reverse_c hW3 hl3 rfl (by omega)).mono ?_
        rintro v u4 ⟨Y, hW4, hlY, htY, f4⟩
        have hY : nv (Y.take q3) = (t.V * 16 ^ t.i + t.di) * (if t.i = 0 then 1 else 16 ^ (16 - t.i)) := by rw [htY]; exact hv3
        have f4' : Fm (fun b => some b3 = some b) u3 u4 := f4.mono (fun b _ e => by rw [e])
        have hR4 := hR3.fmW f4' (fun b e => by cases e; exact ⟨_, hW3⟩)
        have hF4 : Fm (fun b => d0 = some b ∨ b = r) u u4 := hF3.trans f4' (fun b hb e => .inl (hnd3.fd hb e))
        have hs4 := f4.size
        (repeat refine vcl_v _ rfl rfl ?_); (refine vcl_end ?_)
        (refine vsr ?_)
        have hnr := norm_res (w := u4) (w' := u4) (d := some b3) hW4 (n := q3) (by omega) ⟨by omega, by omega⟩ (Fm.refl _ _) (.inl rfl) hY
        rw [hlY] at hnr
        refine hnr.mono ?_
        rintro v5 u5 ⟨d5, l5, hO5, hN5, hv5, hnd5, hf5⟩
        have hR5 := hR4.fmW hf5 (fun b e => by cases e; exact ⟨_, hW4⟩)
        have hnd5' : Nd u u5 d0 d5 := (hnd3.wk hs4).trans hnd5 hF4.size hf5.size
        have hF5 : Fm (fun b => d0 = some b ∨ b = r) u u5 := hF4.trans hf5 (fun b hb e => .inl (hnd3.fd hb e))
        rcases Nat.eq_zero_or_pos t.i with hi | hi
        · refine ⟨_, bGtF (by omega), ?_⟩
          refine ⟨fun hc => (by cases hc), fun _ => ?_⟩
          refine ⟨v5, ⟨⟨rfl, rfl, rfl, rfl, rfl, trivial⟩, rfl⟩, d5, l5, hO5, hN5, ?_, hnd5', hR5, hF5⟩
          rw [hv5, hnum, if_pos hi, Nat.mul_one]
        · refine ⟨_, bGt (by omega), ?_⟩
          refine ⟨fun _ => ?_, fun hc => (by cases hc)⟩
          refine ⟨_, nSub 16 t.i (by omega) (by omega), ?_⟩
          refine rnA (cv cv_3_60 (wrapU_nat (by omega))) ?_
          refine ⟨_, show binV .quo .i64 .i64 64 16 = some (.int .i64 4) by kernel_rfl, ?_⟩
          refine rnA (cv cv_3_60 (x := 4) (y := 4) (by decide)) ?_
          refine ⟨_, wMul' (x := 16 - t.i) (y := 4) (by omega), ?_⟩
          have hlen5 : l5.length ≤ 400 := by
            have h1 : t.V * 16 ^ t.i + t.di < BW ^ (t.q + 1) := by
              have h2 : (t.V + 1) * 16 ^ t.i ≤ BW ^ t.q * BW := Nat.mul_le_mul hL.zi.1 (by rw [BW16]; exact Nat.pow_le_pow_right (by omega) (by omega))
              rw [← Nat.pow_succ, Nat.add_mul, Nat.one_mul] at h2
              exact Nat.lt_of_lt_of_le (by omega) h2
            have h2 : nv l5 < BW ^ (t.q + 1 + 1) := by
              rw [hv5, if_neg (by omega), Nat.pow_succ _ (t.q + 1)]
              have h3 : 16 ^ (16 - t.i) ≤ BW := by rw [BW16]; exact Nat.pow_le_pow_right (by omega) (by omega)
              exact Nat.mul_lt_mul_of_lt_of_le h1 h3 (by decide)
            have := nv_length_le hN5 h2
            omega
          refine (rsh_c hO5 hO5 hlen5 (s := (16 - t.i) * 4) (by omega) (by omega)).mono ?_
          rintro v6 u6 ⟨d6, l6, hO6, hN6, hv6, hnd6, hf6⟩
          have hR6 := hR5.fmW hf6 (fun b e => by
            subst e
            obtain ⟨fl, _, hw, _⟩ := hO5
            exact ⟨_, hw⟩)
          refine ⟨v6, ⟨⟨rfl, rfl, rfl, rfl, rfl, trivial⟩, rfl⟩, d6, l6, hO6, hN6, ?_, hnd5'.trans hnd6 hF5.size hf6.size, hR6, hF5.trans hf6 (fun b hb e => .inl (hnd5'.fd hb e))⟩
          rw [hv6, hv5, hnum, if_neg (by omega)]
          have : 2 ^ ((16 - t.i) * 4) = 16 ^ (16 - t.i) := by rw [Nat.mul_comm, Nat.pow_mul]
          rw [this, Nat.mul_div_cancel _ (Nat.pow_pos (by omega))]
    · obtain ⟨d, l, hO, hN, hnv, hnd⟩ : ∃ d l, Own u2 t.z d l ∧ Nrm l ∧ nv l = t.V ∧ Nd u u2 d0 d := by
        rcases hL.zi.2 with ⟨e, _⟩ | ⟨_, h⟩
        · cases e
        · exact h
      refine ⟨_, bEqF (by omega), ?_⟩
      refine ⟨fun hc => (by cases hc), fun _ => ?_⟩
      rcases Nat.eq_zero_or_pos t.i with hi | hi
      · refine ⟨_, bGtF (by omega), ?_⟩
        refine ⟨fun hc => (by cases hc), fun _ => ?_⟩
        refine ⟨t.z, ⟨⟨rfl, rfl, rfl, rfl, rfl, trivial⟩, rfl⟩, d, l, hO, hN, ?_, hnd, hR, hL.fm⟩
        rw [hnv, hnum, hi, Nat.pow_zero]
        rw [hi, Nat.pow_zero] at hdl
        omega
      · refine ⟨_, bGt (by omega), ?_⟩
        refine ⟨fun _ => ?_, fun hc => (by cases hc)⟩
        refine (pow_c 10 t.i (by omega) u2).mono ?_
        rintro v u3 ⟨rfl, rfl⟩
        have hp18 : 10 ^ t.i ≤ 10 ^ 18 := Nat.pow_le_pow_right (by omega) (by omega)
        have hpw : 10 ^ t.i % 18446744073709551616 = 10 ^ t.i := Nat.mod_eq_of_lt (Nat.lt_of_le_of_lt hp18 (by decide))
        rw [hpw]
        have hlen := nv_length_le hN (by rw [hnv]; exact hL.zi.1)
        have hpB : 10 ^ t.i < BW := Nat.lt_of_le_of_lt hp18 (by decide)
        refine (mulAddWW_c hO hO (by omega) hpB (Nat.lt_trans hdl hpB)).mono ?_
        rintro v5 u5 ⟨d5, l5, hO5, hN5, hnv5, hnd5, hf5⟩
        have wd3 : ∀ b, d = some b → ∃ l, Wd u2 b l := fun b e => by
          subst e
          obtain ⟨fl, _, hw, _⟩ := hO
          exact ⟨_, hw⟩
        exact ⟨v5, ⟨⟨rfl, rfl, rfl, rfl, rfl, trivial⟩, rfl⟩, d5, l5, hO5, hN5, by rw [hnv5, hnv, hnum], hnd.trans hnd5 hL.fm.size hf5.size, hR.fmW hf5 wd3, hL.fm.trans hf5 (fun b hb e => .inl (hnd.fd hb e))⟩
  rintro z' u3 ⟨d, l, h1, h2, h3, h4, h5, h6⟩
  (refine vsr ?_)
  (repeat refine vcl_v _ rfl rfl ?_); (refine vcl_end ?_)
  refine ⟨_, bGeF (by decide), ?_⟩
  refine ⟨fun hc => (by cases hc), fun _ => ?_⟩
  refine ⟨rfl, z', d, l, ?_, h1, h2, h3, h4, h5, h6⟩
  rw [hj]
  rfl

end Go.Vc
end
