/- Laws of the single operations, and what is said of memory. -/
import Derived.Test.YthahnloabllniaaGreatDoorM01
import Derived.Test.YthahnloabllniaaGreatDoorProg
import Derived.WalkKit
import Derived.Lib.SliceRun
import Derived.Laws.IdiomCopy
import Derived.LaidEql
section
set_option linter.unusedSimpArgs false
set_option linter.unusedVariables false
namespace Go.Vc
open Go.Proofs

@[irreducible] noncomputable def P : Program := Tryz.prog
theorem mo : P.follows .mixedOrders = true := by kernel_rfl

/-! ### Whole numbers -/

abbrev B64 : Nat := 18446744073709551616

theorem wrap64_in {n : Int} (h : -9223372036854775808 ≤ n ∧ n ≤ 9223372036854775807) : IntKind.i64.wrap n = n := by
  simp only [IntKind.wrap, IntKind.bits, IntKind.signed]; simp; split <;> omega

theorem wrapU (n : Int) : IntKind.u64.wrap n = n % 18446744073709551616 := by
  simp [IntKind.wrap, IntKind.bits, IntKind.signed]

theorem wrapB (n : Int) : IntKind.u8.wrap n = n % 256 := by
  simp [IntKind.wrap, IntKind.bits, IntKind.signed]

theorem bAdd {a b : Int} (h : -9223372036854775808 ≤ a + b ∧ a + b ≤ 9223372036854775807) : binV .add .i64 .i64 a b = some (.int .i64 (a + b)) := by
  simp [binV, wrap64_in h]

theorem bSub {a b : Int} (h : -9223372036854775808 ≤ a - b ∧ a - b ≤ 9223372036854775807) : binV .sub .i64 .i64 a b = some (.int .i64 (a - b)) := by
  simp [binV, wrap64_in h]

theorem bMul {a b : Int} (h : -9223372036854775808 ≤ a * b ∧ a * b ≤ 9223372036854775807) : binV .mul .i64 .i64 a b = some (.int .i64 (a * b)) := by
  simp [binV, wrap64_in h]

/-- Over lengths: the sum is a length. -/
theorem nAdd (a b : Nat) (h : a + b < 9223372036854775808) : binV .add .i64 .i64 (a : Int) (b : Int) = some (.int .i64 ((a + b : Nat) : Int)) := by
  rw [bAdd (by omega)]; simp

theorem nSub (a b : Nat) (h : b ≤ a) (h2 : a < 9223372036854775808) : binV .sub .i64 .i64 (a : Int) (b : Int) = some (.int .i64 ((a - b : Nat) : Int)) := by
  rw [bSub (by omega)]; congr 2; omega

theorem nMul (a b : Nat) (h : a * b < 9223372036854775808) : binV .mul .i64 .i64 (a : Int) (b : Int) = some (.int .i64 ((a * b : Nat) : Int)) := by
  rw [bMul (by constructor <;> (rw [← Int.natCast_mul]; omega))]; simp

theorem bT {op : BinOp} {k : IntKind} {a b : Int} (h : binV op k k a b = some (.bool true)) : binV op k k a b = some (.bool true) := h

theorem bLt {k : IntKind} {a b : Int} (h : a < b) : binV .lss k k a b = some (.bool true) := by simp [binV, h]
theorem bLtF {k : IntKind} {a b : Int} (h : ¬ a < b) : binV .lss k k a b = some (.bool false) := by simp [binV]; omega
theorem bLe {k : IntKind} {a b : Int} (h : a ≤ b) : binV .leq k k a b = some (.bool true) := by simp [binV, h]
theorem bLeF {k : IntKind} {a b : Int} (h : ¬ a ≤ b) : binV .leq k k a b = some (.bool false) := by simp [binV]; omega
theorem bGt {k : IntKind} {a b : Int} (h : b < a) : binV .gtr k k a b = some (.bool true) := by simp [binV, h]
theorem bGtF {k : IntKind} {a b : Int} (h : ¬ b < a) : binV .gtr k k a b = some (.bool false) := by simp [binV]; omega
theorem bGe {k : IntKind} {a b : Int} (h : b ≤ a) : binV .geq k k a b = some (.bool true) := by simp [binV, h]
theorem bGeF {k : IntKind} {a b : Int} (h : ¬ b ≤ a) : binV .geq k k a b = some (.bool false) := by simp [binV]; omega
theorem bEq {k : IntKind} {a b : Int} (h : a = b) : binV .eql k k a b = some (.bool true) := by simp [binV, h]
theorem bEqF {k : IntKind} {a b : Int} (h : a ≠ b) : binV .eql k k a b = some (.bool false) := by simp [binV, h]
theorem bNe {k : IntKind} {a b : Int} (h : a ≠ b) : binV .neq k k a b = some (.bool true) := by simp [binV, h]
theorem bNeF {k : IntKind} {a b : Int} (h : a = b) : binV .neq k k a b = some (.bool false) := by simp [binV, h]

/-- A word, as a value. -/
abbrev vw (x : Nat) : Value := .int .u64 (x : Int)

theorem wAdd (x y : Nat) : binV .add .u64 .u64 (x : Int) (y : Int) = some (vw ((x + y) % 18446744073709551616)) := by
  simp [binV, wrapU]
theorem wSub (x y : Nat) (hy : y ≤ 18446744073709551616) : binV .sub .u64 .u64 (x : Int) (y : Int) = some (vw ((x + (18446744073709551616 - y)) % 18446744073709551616)) := by
  simp only [binV, ne_eq, not_true, if_false, wrapU]; congr 2; omega
theorem wMul (x y : Nat) : binV .mul .u64 .u64 (x : Int) (y : Int) = some (vw ((x * y) % 18446744073709551616)) := by
  simp [binV, wrapU]


theorem ofInt_nat (n x : Nat) : BitVec.ofInt n (x : Int) = BitVec.ofNat n x := by simp

theorem wrapU_lt {x : Nat} (h : x < 18446744073709551616) : IntKind.u64.wrap (x : Int) = (x : Int) := by rw [wrapU]; omega

theorem wAnd (x y : Nat) (hx : x < 18446744073709551616) (hy : y < 18446744073709551616) : binV .and .u64 .u64 (x : Int) (y : Int) = some (vw (x &&& y)) := by
  have : x &&& y < 18446744073709551616 := Nat.lt_of_le_of_lt Nat.and_le_left hx
  have e : (BitVec.ofNat 64 x &&& BitVec.ofNat 64 y).toNat = x &&& y := by
    rw [BitVec.toNat_and, BitVec.toNat_ofNat, BitVec.toNat_ofNat, Nat.mod_eq_of_lt hx, Nat.mod_eq_of_lt hy]
  have e2 : bitV .and .u64 (x : Int) (y : Int) = ((x &&& y : Nat) : Int) := by
    show IntKind.u64.wrap ((BitVec.ofInt 64 (x : Int) &&& BitVec.ofInt 64 (y : Int)).toNat : Int) = _
    rw [ofInt_nat, ofInt_nat, e, wrapU_lt this]
  show some (Value.int .u64 (bitV .and .u64 (x : Int) (y : Int))) = _
  rw [e2]

theorem wOr (x y : Nat) (hx : x < 18446744073709551616) (hy : y < 18446744073709551616) : binV .or .u64 .u64 (x : Int) (y : Int) = some (vw (x ||| y)) := by
  have : x ||| y < 2 ^ 64 := Nat.or_lt_two_pow hx hy
  have e : (BitVec.ofNat 64 x ||| BitVec.ofNat 64 y).toNat = x ||| y := by
    rw [BitVec.toNat_or, BitVec.toNat_ofNat, BitVec.toNat_ofNat, Nat.mod_eq_of_lt hx, Nat.mod_eq_of_lt hy]
  have e2 : bitV .or .u64 (x : Int) (y : Int) = ((x ||| y : Nat) : Int) := by
    show IntKind.u64.wrap ((BitVec.ofInt 64 (x : Int) ||| BitVec.ofInt 64 (y : Int)).toNat : Int) = _
    rw [ofInt_nat, ofInt_nat, e, wrapU_lt this]
  show some (Value.int .u64 (bitV .or .u64 (x : Int) (y : Int))) = _
  rw [e2]

theorem wXor (x y : Nat) (hx : x < 18446744073709551616) (hy : y < 18446744073709551616) : binV .xor .u64 .u64 (x : Int) (y : Int) = some (vw (x ^^^ y)) := by
  have : x ^^^ y < 2 ^ 64 := Nat.xor_lt_two_pow hx hy
  have e : (BitVec.ofNat 64 x ^^^ BitVec.ofNat 64 y).toNat = x ^^^ y := by
    rw [BitVec.toNat_xor, BitVec.toNat_ofNat, BitVec.toNat_ofNat, Nat.mod_eq_of_lt hx, Nat.mod_eq_of_lt hy]
  have e2 : bitV .xor .u64 (x : Int) (y : Int) = ((x ^^^ y : Nat) : Int) := by
    show IntKind.u64.wrap ((BitVec.ofInt 64 (x : Int) ^^^ BitVec.ofInt 64 (y : Int)).toNat : Int) = _
    rw [ofInt_nat, ofInt_nat, e, wrapU_lt this]
  show some (Value.int .u64 (bitV .xor .u64 (x : Int) (y : Int))) = _
  rw [e2]

theorem fdiv_nat (x y : Nat) : Int.fdiv (x : Int) (y : Int) = ((x / y : Nat) : Int) := by
  rw [Int.fdiv_eq_ediv_of_nonneg _ (by omega)]; exact (Int.natCast_ediv x y).symm

theorem wShr (x k : Nat) (k' : IntKind) (hk : k ≤ 64) : binV .shr .u64 k' (x : Int) (k : Int) = some (vw (x / 2 ^ k)) := by
  have h1 : ¬ ((k : Int) < 0) := by omega
  have h2 : min (k : Int).toNat IntKind.u64.bits = k := by simp [IntKind.bits]; omega
  show (if (k : Int) < 0 then none else some (Value.int .u64 ((x : Int).fdiv (2 ^ min (k : Int).toNat IntKind.u64.bits)))) = _
  rw [if_neg h1, h2]
  have : ((2 : Int) ^ k) = ((2 ^ k : Nat) : Int) := by simp
  rw [this, fdiv_nat]

theorem wShl (x k : Nat) (k' : IntKind) (hk : k ≤ 64) : binV .shl .u64 k' (x : Int) (k : Int) = some (vw ((x * 2 ^ k) % 18446744073709551616)) := by
  have h1 : ¬ ((k : Int) < 0) := by omega
  have h2 : min (k : Int).toNat IntKind.u64.bits = k := by simp [IntKind.bits]; omega
  show (if (k : Int) < 0 then none else some (Value.int .u64 (IntKind.u64.wrap ((x : Int) * (2 ^ min (k : Int).toNat IntKind.u64.bits))))) = _
  rw [if_neg h1, h2, wrapU]
  have : ((x : Int) * 2 ^ k) % 18446744073709551616 = (((x * 2 ^ k) % 18446744073709551616 : Nat) : Int) := by simp
  rw [this]

theorem wQuo (x y : Nat) (hy : y ≠ 0) (hx : x < 18446744073709551616) : binV .quo .u64 .u64 (x : Int) (y : Int) = some (vw (x / y)) := by
  show (if (y : Int) = 0 then none else some (Value.int .u64 (IntKind.u64.wrap ((x : Int).tdiv (y : Int))))) = _
  rw [if_neg (by omega), Int.tdiv_eq_ediv_of_nonneg (by omega), ← Int.natCast_ediv, wrapU_lt (Nat.lt_of_le_of_lt (Nat.div_le_self x y) hx)]

theorem wRem (x y : Nat) (hy : y ≠ 0) : binV .rem .u64 .u64 (x : Int) (y : Int) = some (vw (x % y)) := by
  show (if (y : Int) = 0 then none else some (Value.int .u64 ((x : Int).tmod (y : Int)))) = _
  rw [if_neg (by omega), Int.tmod_eq_emod_of_nonneg (by omega), ← Int.natCast_emod]

end Go.Vc
end

section
/- Numbers as lists of words, the lowest first. Plain: no program. -/
set_option linter.unusedSimpArgs false
set_option linter.unusedVariables false
namespace Go.Vc

def BW : Nat := 18446744073709551616
theorem BW_pos : 0 < BW := by unfold BW; omega
theorem BW_eq : BW = 18446744073709551616 := rfl
theorem BW_two : BW = 2 ^ 64 := rfl

def nv : List Nat → Nat
  | [] => 0
  | x :: r => x + BW * nv r

def dg (l : List Nat) (i : Nat) : Nat := l.getD i 0

def WF (l : List Nat) : Prop := ∀ x ∈ l, x < BW

theorem dg_nil (i : Nat) : dg [] i = 0 := by simp [dg]
theorem dg_ge {l : List Nat} {i : Nat} (h : l.length ≤ i) : dg l i = 0 := by simp [dg, List.getD, List.getElem?_eq_none h]
theorem dg_lt {l : List Nat} {i : Nat} (h : i < l.length) : l[i]? = some (dg l i) := by simp [dg, List.getD, h]
theorem dg_mem {l : List Nat} {i : Nat} (h : i < l.length) : dg l i ∈ l := by
  have : dg l i = l[i] := by simp [dg, List.getD, h]
  rw [this]; exact List.getElem_mem h
theorem WF.dg {l : List Nat} (h : WF l) (i : Nat) : dg l i < BW := by
  rcases Nat.lt_or_ge i l.length with h1 | h1
  · exact h _ (dg_mem h1)
  · rw [dg_ge h1]; exact BW_pos

theorem WF.nil : WF [] := fun _ h => by cases h
theorem WF.cons {x : Nat} {l : List Nat} (hx : x < BW) (h : WF l) : WF (x :: l) := fun y hy => by
  rcases List.mem_cons.1 hy with rfl | hy
  · exact hx
  · exact h y hy
theorem WF.tail {x : Nat} {l : List Nat} (h : WF (x :: l)) : WF l := fun y hy => h y (.tail _ hy)
theorem WF.head {x : Nat} {l : List Nat} (h : WF (x :: l)) : x < BW := h x (.head _)
theorem WF.append {a b : List Nat} (ha : WF a) (hb : WF b) : WF (a ++ b) := fun y hy => (List.mem_append.1 hy).elim (ha y) (hb y)
theorem WF.take {l : List Nat} (h : WF l) (n : Nat) : WF (l.take n) := fun y hy => h y (List.mem_of_mem_take hy)
theorem WF.drop {l : List Nat} (h : WF l) (n : Nat) : WF (l.drop n) := fun y hy => h y (List.mem_of_mem_drop hy)
theorem WF.set {l : List Nat} (h : WF l) (i : Nat) {x : Nat} (hx : x < BW) : WF (l.set i x) := fun y hy => (List.mem_or_eq_of_mem_set hy).elim (h y) (fun e => e ▸ hx)
theorem WF.replicate (n : Nat) {x : Nat} (hx : x < BW) : WF (List.replicate n x) := fun y hy => by rw [List.eq_of_mem_replicate hy]; exact hx

theorem nv_append (a b : List Nat) : nv (a ++ b) = nv a + BW ^ a.length * nv b := by
  induction a with
  | nil => simp [nv]
  | cons x r ih =>
    simp only [List.cons_append, nv, ih, List.length_cons, Nat.pow_succ]
    rw [Nat.mul_add, ← Nat.mul_assoc, Nat.mul_comm BW (BW ^ r.length)]; omega

theorem nv_lt {l : List Nat} (h : WF l) : nv l < BW ^ l.length := by
  induction l with
  | nil => simp [nv]
  | cons x r ih =>
    have h1 := ih h.tail
    have h2 := h.head
    simp only [nv, List.length_cons, Nat.pow_succ]
    have : BW * (nv r + 1) ≤ BW * BW ^ r.length := Nat.mul_le_mul_left _ h1
    rw [Nat.mul_comm (BW ^ r.length) BW]
    rw [Nat.mul_add] at this
    omega

theorem nv_split (l : List Nat) (n : Nat) : nv l = nv (l.take n) + BW ^ (min n l.length) * nv (l.drop n) := by
  have := nv_append (l.take n) (l.drop n)
  rw [List.take_append_drop, List.length_take] at this
  exact this

theorem nv_replicate_zero (n : Nat) : nv (List.replicate n 0) = 0 := by
  induction n with
  | zero => rfl
  | succ n ih => simp [List.replicate_succ, nv, ih]

theorem nv_zeros {l : List Nat} (h : ∀ i, dg l i = 0) : nv l = 0 := by
  induction l with
  | nil => rfl
  | cons x r ih =>
    have h0 : x = 0 := h 0
    have hr : ∀ i, dg r i = 0 := fun i => h (i + 1)
    simp [nv, h0, ih hr]

theorem dg_take {l : List Nat} {n i : Nat} (h : i < n) : dg (l.take n) i = dg l i := by
  simp [dg, List.getD, List.getElem?_take, h]
theorem dg_drop (l : List Nat) (n i : Nat) : dg (l.drop n) i = dg l (n + i) := by
  simp [dg, List.getD, List.getElem?_drop]
theorem dg_append_left {a b : List Nat} {i : Nat} (h : i < a.length) : dg (a ++ b) i = dg a i := by
  simp [dg, List.getD, List.getElem?_append, h]
theorem dg_append_right {a b : List Nat} {i : Nat} (h : a.length ≤ i) : dg (a ++ b) i = dg b (i - a.length) := by
  simp [dg, List.getD, List.getElem?_append, Nat.not_lt.2 h]
theorem dg_set_eq {l : List Nat} {i x : Nat} (h : i < l.length) : dg (l.set i x) i = x := by simp [dg, List.getD, h]
theorem dg_set_ne {l : List Nat} {i j x : Nat} (h : i ≠ j) : dg (l.set i x) j = dg l j := by simp [dg, List.getD, h]
theorem dg_replicate (n i x : Nat) (h : i < n) : dg (List.replicate n x) i = x := by simp [dg, List.getD, h]

theorem list_ext_dg {a b : List Nat} (hl : a.length = b.length) (h : ∀ i, i < a.length → dg a i = dg b i) : a = b := by
  apply List.ext_getElem hl
  intro i h1 h2
  have := h i h1
  simp [dg, List.getD, h1, h2] at this
  exact this

theorem take_succ_dg {l : List Nat} {i : Nat} (h : i < l.length) : l.take (i + 1) = l.take i ++ [dg l i] := by
  rw [List.take_succ_eq_append_getElem h]; simp [dg, List.getD, h]

theorem nv_take_succ {l : List Nat} {i : Nat} (h : i < l.length) : nv (l.take (i + 1)) = nv (l.take i) + BW ^ i * dg l i := by
  rw [take_succ_dg h, nv_append, List.length_take, Nat.min_eq_left (Nat.le_of_lt h)]; simp [nv]

theorem drop_dg {l : List Nat} {i : Nat} (h : i < l.length) : l.drop i = dg l i :: l.drop (i + 1) := by
  rw [List.drop_eq_getElem_cons h]; simp [dg, List.getD, h]

/-- m words are left when the leading zeros are struck. -/
structure IsN (l : List Nat) (m : Nat) : Prop where
  le : m ≤ l.length
  zero : ∀ j, m ≤ j → dg l j = 0
  top : m = 0 ∨ dg l (m - 1) ≠ 0

theorem IsN.nv {l : List Nat} {m : Nat} (h : IsN l m) : nv (l.take m) = nv l := by
  rw [nv_split l m, nv_zeros (l := l.drop m) (fun i => by rw [dg_drop]; exact h.zero _ (by omega))]; simp

/-- Without leading zeros. -/
def Nrm (l : List Nat) : Prop := l = [] ∨ dg l (l.length - 1) ≠ 0

theorem IsN.nrm {l : List Nat} {m : Nat} (h : IsN l m) : Nrm (l.take m) := by
  have hl : (l.take m).length = m := by rw [List.length_take]; exact Nat.min_eq_left h.le
  rcases h.top with h0 | h0
  · left; subst h0; simp
  · by_cases hm : m = 0
    · left; subst hm; simp
    · right; rw [hl, dg_take (by omega)]; exact h0

theorem nv_top {l : List Nat} (hn : l ≠ []) : nv l = nv (l.take (l.length - 1)) + BW ^ (l.length - 1) * dg l (l.length - 1) := by
  have hl : 0 < l.length := List.length_pos_iff.2 hn
  have := nv_take_succ (l := l) (i := l.length - 1) (by omega)
  rw [show l.length - 1 + 1 = l.length by omega, List.take_length] at this
  exact this

theorem Nrm.ge {l : List Nat} (h : Nrm l) (hn : l ≠ []) : BW ^ (l.length - 1) ≤ nv l := by
  rw [nv_top hn]
  have h1 := h.resolve_left hn
  have : BW ^ (l.length - 1) * 1 ≤ BW ^ (l.length - 1) * dg l (l.length - 1) := Nat.mul_le_mul_left _ (by omega)
  omega

theorem Nrm.zero {l : List Nat} (h : Nrm l) (h0 : nv l = 0) : l = [] := by
  rcases Classical.em (l = []) with e | e
  · exact e
  · have := h.ge e
    have := Nat.pow_pos (n := l.length - 1) BW_pos
    omega

theorem pow_le_pow {a b : Nat} (h : a ≤ b) : BW ^ a ≤ BW ^ b := Nat.pow_le_pow_right BW_pos h

/-- Fewer words: a smaller number. -/
theorem nv_lt_of_length {a b : List Nat} (ha : WF a) (hb : Nrm b) (h : a.length < b.length) : nv a < nv b := by
  have h1 := nv_lt ha
  have hb0 : b ≠ [] := by intro e; rw [e] at h; simp at h
  have h2 := hb.ge hb0
  have h3 := pow_le_pow (a := a.length) (b := b.length - 1) (by omega)
  omega

/-- The number tells the words. -/
theorem nv_inj : ∀ {a b : List Nat}, WF a → WF b → a.length = b.length → nv a = nv b → a = b
  | [], [], _, _, _, _ => rfl
  | x :: r, y :: s, ha, hb, hl, h => by
    simp only [nv] at h
    have h1 := ha.head
    have h2 := hb.head
    have e1 : x = y := by
      have h3 := congrArg (· % BW) h
      simp only [Nat.add_mul_mod_self_left] at h3
      rw [Nat.mod_eq_of_lt h1, Nat.mod_eq_of_lt h2] at h3; exact h3
    subst e1
    have e2 : nv r = nv s := Nat.eq_of_mul_eq_mul_left BW_pos (by omega)
    rw [nv_inj ha.tail hb.tail (by simpa using hl) e2]
  | [], y :: s, _, _, hl, _ => by simp at hl
  | x :: r, [], _, _, hl, _ => by simp at hl

theorem nrm_inj {a b : List Nat} (ha : WF a) (hb : WF b) (na : Nrm a) (nb : Nrm b) (h : nv a = nv b) : a = b := by
  rcases Nat.lt_trichotomy a.length b.length with hl | hl | hl
  · have := nv_lt_of_length ha nb hl; omega
  · exact nv_inj ha hb hl h
  · have := nv_lt_of_length hb na hl; omega

theorem nv_length_le {l : List Nat} {k : Nat} (h : Nrm l) (hk : nv l < BW ^ k) : l.length ≤ k := by
  rcases Classical.em (l = []) with e | e
  · simp [e]
  · have h1 := h.ge e
    rcases Nat.lt_or_ge k l.length with h2 | h2
    · have := pow_le_pow (a := k) (b := l.length - 1) (by omega); omega
    · exact h2

end Go.Vc
end

section
/- Memory: what a block holds, what a run may have turned, and the operations that read and write. -/
set_option linter.unusedSimpArgs false
set_option linter.unusedVariables false
namespace Go.Vc
open Go.Proofs

/-! ### What a run may have turned -/

structure Fm (S : Nat → Prop) (w w' : World) : Prop where
  os : w'.os = w.os
  tape : w'.tape = w.tape
  output : w'.output = w.output
  size : w.heap.size ≤ w'.heap.size
  keep : ∀ b, b < w.heap.size → ¬ S b → w'.heap[b]? = w.heap[b]?

theorem Fm.refl (S : Nat → Prop) (w : World) : Fm S w w := ⟨rfl, rfl, rfl, Nat.le_refl _, fun _ _ _ => rfl⟩

theorem Fm.trans {S S2 : Nat → Prop} {w w1 w2 : World} (h : Fm S w w1) (h2 : Fm S2 w1 w2) (hs : ∀ b, b < w.heap.size → S2 b → S b) : Fm S w w2 :=
  ⟨h2.os.trans h.os, h2.tape.trans h.tape, h2.output.trans h.output, Nat.le_trans h.size h2.size, fun b hb hn =>
    (h2.keep b (Nat.lt_of_lt_of_le hb h.size) (fun h' => hn (hs b hb h'))).trans (h.keep b hb hn)⟩

theorem Fm.mono {S S2 : Nat → Prop} {w w1 : World} (h : Fm S w w1) (hs : ∀ b, b < w.heap.size → S b → S2 b) : Fm S2 w w1 :=
  ⟨h.os, h.tape, h.output, h.size, fun b hb hn => h.keep b hb fun h' => hn (hs b hb h')⟩

theorem Fm.drew (S : Nat → Prop) (w : World) : Fm S w w.drew := ⟨rfl, rfl, rfl, Nat.le_refl _, fun _ _ _ => rfl⟩

theorem Fm.drew' {S : Nat → Prop} {w w' : World} (h : Fm S w.drew w') : Fm S w w' := ⟨h.os, h.tape, h.output, h.size, h.keep⟩

theorem Fm.dr {S : Nat → Prop} {w w' : World} (h : Fm S w w') : Fm S w w'.drew := ⟨h.os, h.tape, h.output, h.size, h.keep⟩

theorem lt_of_obj {w : World} {b : Nat} {o : Obj} (h : w.heap[b]? = some o) : b < w.heap.size := (Array.getElem?_eq_some_iff.1 h).1

theorem Fm.obj {S : Nat → Prop} {w w' : World} (h : Fm S w w') {b : Nat} {o : Obj} (hb : w.heap[b]? = some o) (hs : ¬ S b) : w'.heap[b]? = some o :=
  (h.keep b (lt_of_obj hb) hs).trans hb

/-! ### Blocks -/

abbrev Cl (w : World) (b : Nat) (cs : List Value) (T : TypeId) : Prop := w.heap[b]? = some (.cells cs.toArray T (0, 0))

theorem Cl.cell {w : World} {b i : Nat} {cs : List Value} {T : TypeId} {v : Value} (h : Cl w b cs T) (hi : cs[i]? = some v) : w.cell? ⟨b, i, none⟩ = some v := by
  simp only [World.cell?, h]; simpa using hi

theorem Cl.free {w : World} {b i : Nat} {cs : List Value} {T : TypeId} (h : Cl w b cs T) : w.frozen? ⟨b, i, none⟩ = false := by
  simp only [World.frozen?, h]; simp

noncomputable def notAgg (t : TypeId) : Bool := match P.underlying t with
  | some (.struct _) => false
  | some (.array _ _) => false
  | some _ => true
  | none => false

theorem isAgg_run {t : TypeId} (h : notAgg t = true) (w : World) : (isAgg t).run P w = .ok false w := by
  unfold notAgg at h
  simp only [isAgg, underlying, Sem.run_bind, program, Sem.run, Result.andThen_ok]
  split at h <;> simp_all

noncomputable def szOf (t : TypeId) : Option Nat := (P.info? t).map (·.size)

theorem sizeOf_run {t n : Nat} (h : szOf t = some n) (w : World) : (sizeOf t).run P w = .ok n w := by
  unfold szOf at h
  simp only [sizeOf, typeInfo, Sem.run_bind, program, Sem.run, Result.andThen_ok]
  cases hq : P.info? t with
  | none => simp [hq] at h
  | some i => simp [hq] at h; simp [h]

theorem loadVar_cell {t : TypeId} (ht : notAgg t = true) {w : World} {a : Addr} {v : Value} (h : w.cell? a = some v) : (loadVar t a).run P w = .ok v w := by
  simp only [loadVar, Sem.run_bind, isAgg_run ht, Result.andThen_ok, Bool.false_eq_true, if_false]
  simp only [load, Sem.run, h]

theorem ldc {t : TypeId} (ht : notAgg t = true) {w : World} {a : Addr} {v : Value} (h : w.cell? a = some v) : (Instr.loadAt t (.pointer (some a))).run P w = .ok v w := by
  simp only [Instr.loadAt, Instr.sureAddr, Sem.run_bind, pure, Sem.run, Result.andThen_ok, loadVar_cell ht h]

/-- A reading of one cell. -/
theorem ld {t : TypeId} (ht : notAgg t = true) {w : World} {b i : Nat} {cs : List Value} {T : TypeId} {v : Value} (h : Cl w b cs T) (hi : cs[i]? = some v) :
    (Instr.loadAt t (.pointer (some ⟨b, i, none⟩))).run P w = .ok v w := ldc ht (h.cell hi)

theorem setCell_row {w : World} {b i : Nat} {cs : List Value} {T : TypeId} (h : Cl w b cs T) (v : Value) : Cl (w.setCell ⟨b, i, none⟩ v) b (cs.set i v) T := by
  simp only [Cl, World.setCell, Array.getElem?_modify, h]
  simp

theorem setCell_fm (w : World) (b i : Nat) (v : Value) : Fm (· = b) w (w.setCell ⟨b, i, none⟩ v) := by
  refine ⟨rfl, rfl, rfl, by simp, fun k _ hk => ?_⟩
  simp only [World.setCell, Array.getElem?_modify]
  rw [if_neg (fun e => hk e.symm)]

/-- A store of one cell. -/
theorem st {t : TypeId} (hs : szOf t = some 1) {w : World} {b i : Nat} {cs : List Value} {T : TypeId} (h : Cl w b cs T) (hi : i < cs.length) {v : Value} (hv : v.oneCell' = true) :
    ∃ w', (Instr.storeAt t (.pointer (some ⟨b, i, none⟩)) v).run P w = .ok () w' ∧ Cl w' b (cs.set i v) T ∧ Fm (· = b) w w' ∧ w'.heap.size = w.heap.size := by
  refine ⟨w.setCell ⟨b, i, none⟩ v, ?_, setCell_row h v, setCell_fm w b i v, by simp⟩
  have hc : v.cells = #[v] := by cases v <;> first | rfl | cases hv
  have h1 : w.cell? ⟨b, i, none⟩ = some cs[i] := h.cell (by simp [hi])
  have h2 := h.free (i := i)
  have hst : (store (⟨b, i, none⟩ : Addr) v).run P w = .ok () (w.setCell ⟨b, i, none⟩ v) := by
    have := run_store P w ⟨b, i, none⟩ v .plain hv
    rw [this, h1, h2]; rfl
  have hadd : (⟨b, i, none⟩ : Addr).add 0 = ⟨b, i, none⟩ := by simp [Addr.add]
  simp only [Instr.storeAt, Instr.sureAddr, storeVar, Sem.run_bind, sizeOf_run hs, hc, storeCells]
  simp [hst, hadd]

/-! ### New blocks -/

theorem alloc_new {w : World} (cs : List Value) (T : TypeId) : Cl (w.alloc (.cells cs.toArray T)) w.heap.size cs T := by
  show (w.heap.push _)[w.heap.size]? = _
  simp

theorem alloc_fm (w : World) (o : Obj) : Fm (fun _ => False) w (w.alloc o) := by
  refine ⟨rfl, rfl, rfl, by simp, fun k hk _ => ?_⟩
  show (w.heap.push o)[k]? = _
  rw [Array.getElem?_push, if_neg (by omega)]

noncomputable def zeroOf (t : TypeId) : Option Value := (P.info? t).bind (·.zero)

theorem zeroValue_run {t : TypeId} {v : Value} (h : zeroOf t = some v) (w : World) : (zeroValue t).run P w = .ok v w := by
  unfold zeroOf at h
  simp only [zeroValue, typeInfo, Sem.run_bind, program, Sem.run, Result.andThen_ok]
  cases hq : P.info? t with
  | none => simp [hq] at h
  | some i => simp [hq] at h; simp [h]

/-- A new variable. -/
theorem nw {t : TypeId} {z : Value} (hz : zeroOf t = some z) {cs : List Value} (hc : z.cells = cs.toArray) (w : World) :
    ∃ w', (Instr.alloc t true (.tuple #[])).run P w = .ok (.pointer (some ⟨w.heap.size, 0, none⟩)) w' ∧ Cl w' w.heap.size cs t ∧ Fm (fun _ => False) w w' ∧ w'.heap.size = w.heap.size + 1 := by
  refine ⟨w.alloc (.cells cs.toArray t), ?_, alloc_new cs t, alloc_fm w _, by simp⟩
  simp only [Instr.alloc, Sem.run_bind, zeroValue_run hz, Result.andThen_ok, newVar, newRow, newObj, hc]
  rfl

/-- A variable that holds a value from the first. -/
theorem bx (t : TypeId) {v : Value} {cs : List Value} (hc : v.cells = cs.toArray) (w : World) :
    ∃ w', (Instr.box t v).run P w = .ok (.pointer (some ⟨w.heap.size, 0, none⟩)) w' ∧ Cl w' w.heap.size cs t ∧ Fm (fun _ => False) w w' ∧ w'.heap.size = w.heap.size + 1 := by
  refine ⟨w.alloc (.cells cs.toArray t), ?_, alloc_new cs t, alloc_fm w _, by simp⟩
  simp only [Instr.box, Sem.run_bind, newVar, newRow, newObj, hc]
  rfl

/-! ### Addresses -/

noncomputable def fldOff (s f : Nat) : Option Nat := match P.underlying s with
  | some (.struct fs) => match fs[f]? with
    | some fd => match szOf fd.type with
      | some (_ + 1) => some fd.offset
      | _ => none
    | none => none
  | _ => none

theorem addr_add (b o n : Nat) : (⟨b, o, none⟩ : Addr).add n = ⟨b, o + n, none⟩ := by
  unfold Addr.add; split <;> simp_all

theorem fa {s f off : Nat} (h : fldOff s f = some off) (b o : Nat) (w : World) : (Instr.fieldAt s (.pointer (some ⟨b, o, none⟩)) f).run P w = .ok (.pointer (some ⟨b, o + off, none⟩)) w := by
  unfold fldOff at h
  split at h
  · rename_i fs hu
    split at h
    · rename_i fd hf
      split at h
      · rename_i n hs
        cases h
        simp only [Instr.fieldAt, Sem.run_bind, underlying, program, Sem.run, Result.andThen_ok, hu]
        simp only [Result.andThen_ok, hf, Instr.sureAddr, pure, Sem.run, fieldPlace, Sem.run_bind, sizeOf_run hs]
        simp [addr_add]
      · cases h
    · cases h
  · cases h

noncomputable def slElem (t : TypeId) : Option TypeId := match P.underlying t with
  | some (.slice e) => match szOf e with
    | some 1 => some e
    | _ => none
  | _ => none

theorem slElem_spec {t e : TypeId} (h : slElem t = some e) : P.underlying t = some (.slice e) ∧ szOf e = some 1 := by
  unfold slElem at h
  split at h
  · rename_i e' hu
    split at h
    · rename_i hs; cases h; exact ⟨hu, hs⟩
    · cases h
  · cases h

theorem run_und {t : TypeId} {d : TypeDesc} (h : P.underlying t = some d) (w : World) : (underlying t).run P w = .ok d w := by
  simp only [underlying, Sem.run_bind, program, Sem.run, Result.andThen_ok, h]; rfl

/-- The address of an element. -/
theorem ia {t e : TypeId} (h : slElem t = some e) {b o n c i : Nat} (k : IntKind) (hi : i < n) (w : World) :
    (Instr.indexAt t (.slice (some ⟨b, o, none⟩) n c) (.int k (i : Int))).run P w = .ok (.pointer (some ⟨b, o + i, none⟩)) w := by
  obtain ⟨hu, hs⟩ := slElem_spec h
  simp only [Instr.indexAt, asIntOf, Sem.run_bind, run_und hu, pure, Sem.run, Result.andThen_ok]
  rw [if_pos ⟨by omega, by omega⟩]
  simp [Sem.run_bind, sizeOf_run hs, Sem.run, addr_add]

/-- A part of a slice. -/
def subA (a : Option Addr) (lo c : Nat) : Option Addr := if c = lo then a else a.map (·.add lo)

theorem sliceBound_ok {k : IntKind} {x y : Nat} (h : x ≤ y) (code : BoundsCode) (w : World) : (Instr.sliceBound (.int k (x : Int)) y code).run P w = .ok x w := by
  simp only [Instr.sliceBound, asIntOf, Sem.run_bind, pure, Sem.run, Result.andThen_ok]
  rw [if_pos ⟨by omega, by omega⟩]
  simp [Sem.run]

theorem sl {t e : TypeId} (h : slElem t = some e) {a : Option Addr} {n c lo hi : Nat} (k k' : IntKind) (h1 : lo ≤ hi) (h2 : hi ≤ c) (w : World) :
    (Instr.sliceAt t (.slice a n c) (some (.int k (lo : Int))) (some (.int k' (hi : Int))) none).run P w = .ok (.slice (subA a lo c) (hi - lo) (c - lo)) w := by
  obtain ⟨hu, hs⟩ := slElem_spec h
  simp only [Instr.sliceAt, Instr.slice, Instr.sliceBounds, Sem.run_bind, run_und hu, Result.andThen_ok, sliceBound_ok h1, sliceBound_ok h2, pure, Sem.run, sizeOf_run hs]
  simp only [subA, Nat.mul_one]

theorem slLo {t e : TypeId} (h : slElem t = some e) {a : Option Addr} {n c lo : Nat} (k : IntKind) (h1 : lo ≤ n) (w : World) :
    (Instr.sliceAt t (.slice a n c) (some (.int k (lo : Int))) none none).run P w = .ok (.slice (subA a lo c) (n - lo) (c - lo)) w := by
  obtain ⟨hu, hs⟩ := slElem_spec h
  simp only [Instr.sliceAt, Instr.slice, Instr.sliceBounds, Sem.run_bind, run_und hu, Result.andThen_ok, sliceBound_ok h1, pure, Sem.run, sizeOf_run hs]
  simp only [subA, Nat.mul_one]

theorem slHi {t e : TypeId} (h : slElem t = some e) {a : Option Addr} {n c hi : Nat} (k : IntKind) (h2 : hi ≤ c) (w : World) :
    (Instr.sliceAt t (.slice a n c) none (some (.int k (hi : Int))) none).run P w = .ok (.slice a hi c) w := by
  obtain ⟨hu, hs⟩ := slElem_spec h
  simp only [Instr.sliceAt, Instr.slice, Instr.sliceBounds, Sem.run_bind, run_und hu, Result.andThen_ok, sliceBound_ok h2, pure, Sem.run, sizeOf_run hs]
  simp only [Nat.mul_one, Nat.sub_zero]
  cases a <;> simp [Addr.add]

theorem subA_some {b o lo c : Nat} (h : lo < c) : subA (some ⟨b, o, none⟩) lo c = some ⟨b, o + lo, none⟩ := by
  simp [subA, Nat.ne_of_gt h, addr_add]
theorem subA_zero {a : Option Addr} {c : Nat} : subA a 0 c = a := by
  unfold subA; split
  · rfl
  · cases a <;> simp [Addr.add]

theorem ln {t e : TypeId} (h : slElem t = some e) (ty : TypeId) (cs : Array Bool) (a : Option Addr) (n c : Nat) (w : World) :
    (builtin .len #[t] ty cs #[.slice a n c]).run P w = .ok (.value (.int .i64 (n : Int))) w := by
  have hu := (slElem_spec h).1
  simp only [builtin, Builtin.len_, Sem.run_bind]
  simp [run_und hu, goInt]

theorem cp {t e : TypeId} (h : slElem t = some e) (ty : TypeId) (cs : Array Bool) (a : Option Addr) (n c : Nat) (w : World) :
    (builtin .cap #[t] ty cs #[.slice a n c]).run P w = .ok (.value (.int .i64 (c : Int))) w := by
  have hu := (slElem_spec h).1
  simp only [builtin, Builtin.cap_, Sem.run_bind]
  simp [run_und hu, goInt]

/-- From one kind of whole numbers to another. -/
noncomputable def intTo (s d : TypeId) : Option IntKind := match P.underlying s, P.underlying d with
  | some (.int _), some (.int k) => some k
  | _, _ => none

theorem cv {s d : TypeId} {k : IntKind} (h : intTo s d = some k) {k0 : IntKind} {x y : Int} (hy : k.wrap x = y) (w : World) : (convert s d (.int k0 x)).run P w = .ok (.int k y) w := by
  unfold intTo at h
  split at h
  · rename_i k1 k2 h1 h2
    cases h
    simp only [convert, Sem.run_bind, run_und h1, run_und h2, Result.andThen_ok, Conv.intToInt, pure, Sem.run, hy]
  · cases h

theorem wrapU_nat {x : Nat} (h : x < 18446744073709551616) : IntKind.u64.wrap (x : Int) = (x : Int) := by rw [wrapU]; omega


/-! ### The words of a walk -/

theorem rnA {q : Sem Value} {v : Value} {w : World} {nx : Value → World → Prop} (h : ∀ w', q.run P w' = .ok v w') (k : nx v w) : ∃ v w', q.run P w = .ok v w' ∧ nx v w' := ⟨v, w, h w, k⟩
theorem rnR {q : Sem Value} {v : Value} {w : World} {nx : Value → World → Prop} (h : q.run P w = .ok v w) (k : nx v w) : ∃ v w', q.run P w = .ok v w' ∧ nx v w' := ⟨v, w, h, k⟩
theorem rnL {t : TypeId} (ht : notAgg t = true) {w : World} {b i : Nat} {cs : List Value} {T : TypeId} {v : Value} {nx : Value → World → Prop} (h : Cl w b cs T) (hi : cs[i]? = some v) (k : nx v w) :
    ∃ v w', (Instr.loadAt t (.pointer (some ⟨b, i, none⟩))).run P w = .ok v w' ∧ nx v w' := ⟨v, w, ld ht h hi, k⟩
theorem rnC {t : TypeId} (ht : notAgg t = true) {w : World} {a : Addr} {v : Value} {nx : Value → World → Prop} (h : w.cell? a = some v) (k : nx v w) :
    ∃ v w', (Instr.loadAt t (.pointer (some a))).run P w = .ok v w' ∧ nx v w' := ⟨v, w, ldc ht h, k⟩
theorem tkA {q : Sem Value} {v : Value} {w : World} {nx : Option (World → Prop) → Value → Prop} (h : ∀ w', q.run P w' = .ok v w') (k : nx none v) : TkS P q w nx := .any v h k
theorem tkC {t : TypeId} (ht : notAgg t = true) {w : World} {a : Addr} {v : Value} {nx : Option (World → Prop) → Value → Prop} (h : w.cell? a = some v) (k : nx (some fun w' => w'.cell? a = some v) v) :
    TkS P (Instr.loadAt t (.pointer (some a))) w nx := .held v _ h (fun _ h' => ldc ht h') k
theorem tkL {t : TypeId} (ht : notAgg t = true) {w : World} {b i : Nat} {cs : List Value} {T : TypeId} {v : Value} {nx : Option (World → Prop) → Value → Prop} (h : Cl w b cs T) (hi : cs[i]? = some v)
    (k : nx (some fun w' => w'.cell? ⟨b, i, none⟩ = some v) v) : TkS P (Instr.loadAt t (.pointer (some ⟨b, i, none⟩))) w nx := tkC ht (h.cell hi) k

theorem vloop {body : Code} {q : Exit → Fr → World → Prop} {K : Fr} {w : World} (α : Type) (fr : α → Fr) (inv : α → World → Prop) (μ : α → Nat) (x : α) (hs : SubF (fr x) K) (hi : inv x w)
    (round : ∀ x w, inv x w → vcc P body (seqQ (fun K' w' => ∃ y, SubF (fr y) K' ∧ inv y w' ∧ μ y < μ x) q) (fr x) w) : vcc P (.loop body) q K w :=
  ⟨α, fr, inv, μ, ⟨x, hs, hi⟩, round⟩

end Go.Vc
end

section
/- Facts of the types and functions (printed by ty.py). -/
namespace Go.Vc
open Go.Proofs
theorem na_2 : notAgg 2 = true := by kernel_rfl
theorem sz_2 : szOf 2 = some 1 := by kernel_rfl
theorem na_3 : notAgg 3 = true := by kernel_rfl
theorem sz_3 : szOf 3 = some 1 := by kernel_rfl
theorem na_4 : notAgg 4 = true := by kernel_rfl
theorem sz_4 : szOf 4 = some 1 := by kernel_rfl
theorem na_5 : notAgg 5 = true := by kernel_rfl
theorem sz_5 : szOf 5 = some 1 := by kernel_rfl
theorem na_9 : notAgg 9 = true := by kernel_rfl
theorem sz_9 : szOf 9 = some 1 := by kernel_rfl
theorem na_22 : notAgg 22 = true := by kernel_rfl
theorem sz_22 : szOf 22 = some 1 := by kernel_rfl
theorem sz_27 : szOf 27 = some 2 := by kernel_rfl
theorem na_33 : notAgg 33 = true := by kernel_rfl
theorem sz_33 : szOf 33 = some 1 := by kernel_rfl
theorem sz_35 : szOf 35 = some 9 := by kernel_rfl
theorem sz_37 : szOf 37 = some 48 := by kernel_rfl
theorem na_52 : notAgg 52 = true := by kernel_rfl
theorem sz_52 : szOf 52 = some 1 := by kernel_rfl
theorem na_53 : notAgg 53 = true := by kernel_rfl
theorem sz_53 : szOf 53 = some 1 := by kernel_rfl
theorem na_54 : notAgg 54 = true := by kernel_rfl
theorem sz_54 : szOf 54 = some 1 := by kernel_rfl
theorem na_60 : notAgg 60 = true := by kernel_rfl
theorem sz_60 : szOf 60 = some 1 := by kernel_rfl
theorem na_64 : notAgg 64 = true := by kernel_rfl
theorem sz_64 : szOf 64 = some 1 := by kernel_rfl
theorem na_71 : notAgg 71 = true := by kernel_rfl
theorem sz_71 : szOf 71 = some 1 := by kernel_rfl
theorem sz_73 : szOf 73 = some 2 := by kernel_rfl
theorem na_101 : notAgg 101 = true := by kernel_rfl
theorem sz_101 : szOf 101 = some 1 := by kernel_rfl
theorem na_191 : notAgg 191 = true := by kernel_rfl
theorem sz_191 : szOf 191 = some 1 := by kernel_rfl
theorem sz_215 : szOf 215 = some 32 := by kernel_rfl
theorem sz_216 : szOf 216 = some 64 := by kernel_rfl
theorem fo_27_0 : fldOff 27 0 = some 0 := by kernel_rfl
theorem fo_27_1 : fldOff 27 1 = some 1 := by kernel_rfl
theorem fo_37_0 : fldOff 37 0 = some 0 := by kernel_rfl
theorem fo_37_5 : fldOff 37 5 = some 45 := by kernel_rfl
theorem fo_56_0 : fldOff 56 0 = some 0 := by kernel_rfl
theorem fo_56_1 : fldOff 56 1 = some 1 := by kernel_rfl
theorem fo_73_0 : fldOff 73 0 = some 0 := by kernel_rfl
theorem fo_87_2 : fldOff 87 2 = some 2 := by kernel_rfl
theorem fo_91_0 : fldOff 91 0 = some 0 := by kernel_rfl
theorem fo_91_1 : fldOff 91 1 = some 1 := by kernel_rfl
theorem fo_91_2 : fldOff 91 2 = some 2 := by kernel_rfl
theorem fo_94_0 : fldOff 94 0 = some 0 := by kernel_rfl
theorem fo_94_2 : fldOff 94 2 = some 2 := by kernel_rfl
theorem fo_94_5 : fldOff 94 5 = some 5 := by kernel_rfl
theorem fo_132_0 : fldOff 132 0 = some 0 := by kernel_rfl
theorem fo_132_1 : fldOff 132 1 = some 1 := by kernel_rfl
theorem fo_132_2 : fldOff 132 2 = some 2 := by kernel_rfl
theorem fo_193_0 : fldOff 193 0 = some 0 := by kernel_rfl
theorem fo_198_0 : fldOff 198 0 = some 0 := by kernel_rfl
theorem se_22 : slElem 22 = some 5 := by kernel_rfl
theorem se_53 : slElem 53 = some 101 := by kernel_rfl
theorem se_54 : slElem 54 = some 101 := by kernel_rfl
theorem cv_2_33 : intTo 2 33 = some .u64 := by kernel_rfl
theorem cv_3_60 : intTo 3 60 = some .u64 := by kernel_rfl
theorem cv_3_101 : intTo 3 101 = some .u64 := by kernel_rfl
theorem cv_5_3 : intTo 5 3 = some .i64 := by kernel_rfl
theorem cv_5_33 : intTo 5 33 = some .u64 := by kernel_rfl
theorem cv_5_101 : intTo 5 101 = some .u64 := by kernel_rfl
theorem cv_5_122 : intTo 5 122 = some .u32 := by kernel_rfl
theorem cv_33_5 : intTo 33 5 = some .u8 := by kernel_rfl
theorem cv_33_122 : intTo 33 122 = some .u32 := by kernel_rfl
theorem cv_60_3 : intTo 60 3 = some .i64 := by kernel_rfl
theorem cv_60_5 : intTo 60 5 = some .u8 := by kernel_rfl
theorem cv_60_122 : intTo 60 122 = some .u32 := by kernel_rfl
theorem cv_101_5 : intTo 101 5 = some .u8 := by kernel_rfl
theorem cv_122_5 : intTo 122 5 = some .u8 := by kernel_rfl
theorem cv_122_33 : intTo 122 33 = some .u64 := by kernel_rfl
theorem cv_122_60 : intTo 122 60 = some .u64 := by kernel_rfl
theorem cv_122_101 : intTo 122 101 = some .u64 := by kernel_rfl
theorem fn_2 : P.funcs[2]? = some Tryz.f2 := by unfold P; exact Tryz.func2
theorem ok_2 : codeOk Tryz.f2.ntmps ((Tryz.f2.body).getD .skip) = true := by kernel_rfl
theorem nm_2 : (Tryz.f2.name == "runtime.NumGoroutine") = false := by kernel_rfl
theorem fn_3 : P.funcs[3]? = some Tryz.f3 := by unfold P; exact Tryz.func3
theorem ok_3 : codeOk Tryz.f3.ntmps ((Tryz.f3.body).getD .skip) = true := by kernel_rfl
theorem nm_3 : (Tryz.f3.name == "runtime.NumGoroutine") = false := by kernel_rfl
theorem fn_4 : P.funcs[4]? = some Tryz.f4 := by unfold P; exact Tryz.func4
theorem ok_4 : codeOk Tryz.f4.ntmps ((Tryz.f4.body).getD .skip) = true := by kernel_rfl
theorem nm_4 : (Tryz.f4.name == "runtime.NumGoroutine") = false := by kernel_rfl
theorem fn_5 : P.funcs[5]? = some Tryz.f5 := by unfold P; exact Tryz.func5
theorem ok_5 : codeOk Tryz.f5.ntmps ((Tryz.f5.body).getD .skip) = true := by kernel_rfl
theorem nm_5 : (Tryz.f5.name == "runtime.NumGoroutine") = false := by kernel_rfl
theorem fn_6 : P.funcs[6]? = some Tryz.f6 := by unfold P; exact Tryz.func6
theorem ok_6 : codeOk Tryz.f6.ntmps ((Tryz.f6.body).getD .skip) = true := by kernel_rfl
theorem nm_6 : (Tryz.f6.name == "runtime.NumGoroutine") = false := by kernel_rfl
theorem fn_7 : P.funcs[7]? = some Tryz.f7 := by unfold P; exact Tryz.func7
theorem ok_7 : codeOk Tryz.f7.ntmps ((Tryz.f7.body).getD .skip) = true := by kernel_rfl
theorem nm_7 : (Tryz.f7.name == "runtime.NumGoroutine") = false := by kernel_rfl
theorem fn_8 : P.funcs[8]? = some Tryz.f8 := by unfold P; exact Tryz.func8
theorem ok_8 : codeOk Tryz.f8.ntmps ((Tryz.f8.body).getD .skip) = true := by kernel_rfl
theorem nm_8 : (Tryz.f8.name == "runtime.NumGoroutine") = false := by kernel_rfl
theorem fn_9 : P.funcs[9]? = some Tryz.f9 := by unfold P; exact Tryz.func9
theorem ok_9 : codeOk Tryz.f9.ntmps ((Tryz.f9.body).getD .skip) = true := by kernel_rfl
theorem nm_9 : (Tryz.f9.name == "runtime.NumGoroutine") = false := by kernel_rfl
theorem fn_10 : P.funcs[10]? = some Tryz.f10 := by unfold P; exact Tryz.func10
theorem ok_10 : codeOk Tryz.f10.ntmps ((Tryz.f10.body).getD .skip) = true := by kernel_rfl
theorem nm_10 : (Tryz.f10.name == "runtime.NumGoroutine") = false := by kernel_rfl
theorem fn_11 : P.funcs[11]? = some Tryz.f11 := by unfold P; exact Tryz.func11
theorem ok_11 : codeOk Tryz.f11.ntmps ((Tryz.f11.body).getD .skip) = true := by kernel_rfl
theorem nm_11 : (Tryz.f11.name == "runtime.NumGoroutine") = false := by kernel_rfl
theorem fn_12 : P.funcs[12]? = some Tryz.f12 := by unfold P; exact Tryz.func12
theorem ok_12 : codeOk Tryz.f12.ntmps ((Tryz.f12.body).getD .skip) = true := by kernel_rfl
theorem nm_12 : (Tryz.f12.name == "runtime.NumGoroutine") = false := by kernel_rfl
theorem fn_13 : P.funcs[13]? = some Tryz.f13 := by unfold P; exact Tryz.func13
theorem ok_13 : codeOk Tryz.f13.ntmps ((Tryz.f13.body).getD .skip) = true := by kernel_rfl
theorem nm_13 : (Tryz.f13.name == "runtime.NumGoroutine") = false := by kernel_rfl
theorem fn_14 : P.funcs[14]? = some Tryz.f14 := by unfold P; exact Tryz.func14
theorem ok_14 : codeOk Tryz.f14.ntmps ((Tryz.f14.body).getD .skip) = true := by kernel_rfl
theorem nm_14 : (Tryz.f14.name == "runtime.NumGoroutine") = false := by kernel_rfl
theorem fn_15 : P.funcs[15]? = some Tryz.f15 := by unfold P; exact Tryz.func15
theorem ok_15 : codeOk Tryz.f15.ntmps ((Tryz.f15.body).getD .skip) = true := by kernel_rfl
theorem nm_15 : (Tryz.f15.name == "runtime.NumGoroutine") = false := by kernel_rfl
theorem fn_16 : P.funcs[16]? = some Tryz.f16 := by unfold P; exact Tryz.func16
theorem ok_16 : codeOk Tryz.f16.ntmps ((Tryz.f16.body).getD .skip) = true := by kernel_rfl
theorem nm_16 : (Tryz.f16.name == "runtime.NumGoroutine") = false := by kernel_rfl
theorem fn_17 : P.funcs[17]? = some Tryz.f17 := by unfold P; exact Tryz.func17
theorem ok_17 : codeOk Tryz.f17.ntmps ((Tryz.f17.body).getD .skip) = true := by kernel_rfl
theorem nm_17 : (Tryz.f17.name == "runtime.NumGoroutine") = false := by kernel_rfl
theorem fn_18 : P.funcs[18]? = some Tryz.f18 := by unfold P; exact Tryz.func18
theorem ok_18 : codeOk Tryz.f18.ntmps ((Tryz.f18.body).getD .skip) = true := by kernel_rfl
theorem nm_18 : (Tryz.f18.name == "runtime.NumGoroutine") = false := by kernel_rfl
theorem fn_19 : P.funcs[19]? = some Tryz.f19 := by unfold P; exact Tryz.func19
theorem ok_19 : codeOk Tryz.f19.ntmps ((Tryz.f19.body).getD .skip) = true := by kernel_rfl
theorem nm_19 : (Tryz.f19.name == "runtime.NumGoroutine") = false := by kernel_rfl
theorem fn_20 : P.funcs[20]? = some Tryz.f20 := by unfold P; exact Tryz.func20
theorem ok_20 : codeOk Tryz.f20.ntmps ((Tryz.f20.body).getD .skip) = true := by kernel_rfl
theorem nm_20 : (Tryz.f20.name == "runtime.NumGoroutine") = false := by kernel_rfl
theorem fn_21 : P.funcs[21]? = some Tryz.f21 := by unfold P; exact Tryz.func21
theorem ok_21 : codeOk Tryz.f21.ntmps ((Tryz.f21.body).getD .skip) = true := by kernel_rfl
theorem nm_21 : (Tryz.f21.name == "runtime.NumGoroutine") = false := by kernel_rfl
theorem fn_22 : P.funcs[22]? = some Tryz.f22 := by unfold P; exact Tryz.func22
theorem ok_22 : codeOk Tryz.f22.ntmps ((Tryz.f22.body).getD .skip) = true := by kernel_rfl
theorem nm_22 : (Tryz.f22.name == "runtime.NumGoroutine") = false := by kernel_rfl
theorem fn_23 : P.funcs[23]? = some Tryz.f23 := by unfold P; exact Tryz.func23
theorem ok_23 : codeOk Tryz.f23.ntmps ((Tryz.f23.body).getD .skip) = true := by kernel_rfl
theorem nm_23 : (Tryz.f23.name == "runtime.NumGoroutine") = false := by kernel_rfl
theorem fn_24 : P.funcs[24]? = some Tryz.f24 := by unfold P; exact Tryz.func24
theorem ok_24 : codeOk Tryz.f24.ntmps ((Tryz.f24.body).getD .skip) = true := by kernel_rfl
theorem nm_24 : (Tryz.f24.name == "runtime.NumGoroutine") = false := by kernel_rfl
theorem fn_25 : P.funcs[25]? = some Tryz.f25 := by unfold P; exact Tryz.func25
theorem ok_25 : codeOk Tryz.f25.ntmps ((Tryz.f25.body).getD .skip) = true := by kernel_rfl
theorem nm_25 : (Tryz.f25.name == "runtime.NumGoroutine") = false := by kernel_rfl
theorem fn_26 : P.funcs[26]? = some Tryz.f26 := by unfold P; exact Tryz.func26
theorem ok_26 : codeOk Tryz.f26.ntmps ((Tryz.f26.body).getD .skip) = true := by kernel_rfl
theorem nm_26 : (Tryz.f26.name == "runtime.NumGoroutine") = false := by kernel_rfl
theorem fn_27 : P.funcs[27]? = some Tryz.f27 := by unfold P; exact Tryz.func27
theorem ok_27 : codeOk Tryz.f27.ntmps ((Tryz.f27.body).getD .skip) = true := by kernel_rfl
theorem nm_27 : (Tryz.f27.name == "runtime.NumGoroutine") = false := by kernel_rfl
theorem fn_28 : P.funcs[28]? = some Tryz.f28 := by unfold P; exact Tryz.func28
theorem ok_28 : codeOk Tryz.f28.ntmps ((Tryz.f28.body).getD .skip) = true := by kernel_rfl
theorem nm_28 : (Tryz.f28.name == "runtime.NumGoroutine") = false := by kernel_rfl
theorem fn_29 : P.funcs[29]? = some Tryz.f29 := by unfold P; exact Tryz.func29
theorem ok_29 : codeOk Tryz.f29.ntmps ((Tryz.f29.body).getD .skip) = true := by kernel_rfl
theorem nm_29 : (Tryz.f29.name == "runtime.NumGoroutine") = false := by kernel_rfl
theorem fn_30 : P.funcs[30]? = some Tryz.f30 := by unfold P; exact Tryz.func30
theorem ok_30 : codeOk Tryz.f30.ntmps ((Tryz.f30.body).getD .skip) = true := by kernel_rfl
theorem nm_30 : (Tryz.f30.name == "runtime.NumGoroutine") = false := by kernel_rfl
theorem fn_31 : P.funcs[31]? = some Tryz.f31 := by unfold P; exact Tryz.func31
theorem ok_31 : codeOk Tryz.f31.ntmps ((Tryz.f31.body).getD .skip) = true := by kernel_rfl
theorem nm_31 : (Tryz.f31.name == "runtime.NumGoroutine") = false := by kernel_rfl
theorem fn_32 : P.funcs[32]? = some Tryz.f32 := by unfold P; exact Tryz.func32
theorem ok_32 : codeOk Tryz.f32.ntmps ((Tryz.f32.body).getD .skip) = true := by kernel_rfl
theorem nm_32 : (Tryz.f32.name == "runtime.NumGoroutine") = false := by kernel_rfl
theorem fn_33 : P.funcs[33]? = some Tryz.f33 := by unfold P; exact Tryz.func33
theorem ok_33 : codeOk Tryz.f33.ntmps ((Tryz.f33.body).getD .skip) = true := by kernel_rfl
theorem nm_33 : (Tryz.f33.name == "runtime.NumGoroutine") = false := by kernel_rfl
theorem fn_34 : P.funcs[34]? = some Tryz.f34 := by unfold P; exact Tryz.func34
theorem ok_34 : codeOk Tryz.f34.ntmps ((Tryz.f34.body).getD .skip) = true := by kernel_rfl
theorem nm_34 : (Tryz.f34.name == "runtime.NumGoroutine") = false := by kernel_rfl
theorem fn_35 : P.funcs[35]? = some Tryz.f35 := by unfold P; exact Tryz.func35
theorem ok_35 : codeOk Tryz.f35.ntmps ((Tryz.f35.body).getD .skip) = true := by kernel_rfl
theorem nm_35 : (Tryz.f35.name == "runtime.NumGoroutine") = false := by kernel_rfl
theorem fn_36 : P.funcs[36]? = some Tryz.f36 := by unfold P; exact Tryz.func36
theorem ok_36 : codeOk Tryz.f36.ntmps ((Tryz.f36.body).getD .skip) = true := by kernel_rfl
theorem nm_36 : (Tryz.f36.name == "runtime.NumGoroutine") = false := by kernel_rfl
theorem fn_37 : P.funcs[37]? = some Tryz.f37 := by unfold P; exact Tryz.func37
theorem ok_37 : codeOk Tryz.f37.ntmps ((Tryz.f37.body).getD .skip) = true := by kernel_rfl
theorem nm_37 : (Tryz.f37.name == "runtime.NumGoroutine") = false := by kernel_rfl
theorem fn_38 : P.funcs[38]? = some Tryz.f38 := by unfold P; exact Tryz.func38
theorem ok_38 : codeOk Tryz.f38.ntmps ((Tryz.f38.body).getD .skip) = true := by kernel_rfl
theorem nm_38 : (Tryz.f38.name == "runtime.NumGoroutine") = false := by kernel_rfl
theorem fn_39 : P.funcs[39]? = some Tryz.f39 := by unfold P; exact Tryz.func39
theorem ok_39 : codeOk Tryz.f39.ntmps ((Tryz.f39.body).getD .skip) = true := by kernel_rfl
theorem nm_39 : (Tryz.f39.name == "runtime.NumGoroutine") = false := by kernel_rfl
theorem fn_40 : P.funcs[40]? = some Tryz.f40 := by unfold P; exact Tryz.func40
theorem ok_40 : codeOk Tryz.f40.ntmps ((Tryz.f40.body).getD .skip) = true := by kernel_rfl
theorem nm_40 : (Tryz.f40.name == "runtime.NumGoroutine") = false := by kernel_rfl
theorem fn_41 : P.funcs[41]? = some Tryz.f41 := by unfold P; exact Tryz.func41
theorem ok_41 : codeOk Tryz.f41.ntmps ((Tryz.f41.body).getD .skip) = true := by kernel_rfl
theorem nm_41 : (Tryz.f41.name == "runtime.NumGoroutine") = false := by kernel_rfl
theorem fn_42 : P.funcs[42]? = some Tryz.f42 := by unfold P; exact Tryz.func42
theorem ok_42 : codeOk Tryz.f42.ntmps ((Tryz.f42.body).getD .skip) = true := by kernel_rfl
theorem nm_42 : (Tryz.f42.name == "runtime.NumGoroutine") = false := by kernel_rfl
theorem fn_43 : P.funcs[43]? = some Tryz.f43 := by unfold P; exact Tryz.func43
theorem ok_43 : codeOk Tryz.f43.ntmps ((Tryz.f43.body).getD .skip) = true := by kernel_rfl
theorem nm_43 : (Tryz.f43.name == "runtime.NumGoroutine") = false := by kernel_rfl
theorem fn_44 : P.funcs[44]? = some Tryz.f44 := by unfold P; exact Tryz.func44
theorem ok_44 : codeOk Tryz.f44.ntmps ((Tryz.f44.body).getD .skip) = true := by kernel_rfl
theorem nm_44 : (Tryz.f44.name == "runtime.NumGoroutine") = false := by kernel_rfl
theorem fn_45 : P.funcs[45]? = some Tryz.f45 := by unfold P; exact Tryz.func45
theorem ok_45 : codeOk Tryz.f45.ntmps ((Tryz.f45.body).getD .skip) = true := by kernel_rfl
theorem nm_45 : (Tryz.f45.name == "runtime.NumGoroutine") = false := by kernel_rfl
theorem fn_46 : P.funcs[46]? = some Tryz.f46 := by unfold P; exact Tryz.func46
theorem ok_46 : codeOk Tryz.f46.ntmps ((Tryz.f46.body).getD .skip) = true := by kernel_rfl
theorem nm_46 : (Tryz.f46.name == "runtime.NumGoroutine") = false := by kernel_rfl
theorem fn_47 : P.funcs[47]? = some Tryz.f47 := by unfold P; exact Tryz.func47
theorem ok_47 : codeOk Tryz.f47.ntmps ((Tryz.f47.body).getD .skip) = true := by kernel_rfl
theorem nm_47 : (Tryz.f47.name == "runtime.NumGoroutine") = false := by kernel_rfl
theorem fn_50 : P.funcs[50]? = some Tryz.f50 := by unfold P; exact Tryz.func50
theorem ok_50 : codeOk Tryz.f50.ntmps ((Tryz.f50.body).getD .skip) = true := by kernel_rfl
theorem nm_50 : (Tryz.f50.name == "runtime.NumGoroutine") = false := by kernel_rfl
theorem fn_51 : P.funcs[51]? = some Tryz.f51 := by unfold P; exact Tryz.func51
theorem ok_51 : codeOk Tryz.f51.ntmps ((Tryz.f51.body).getD .skip) = true := by kernel_rfl
theorem nm_51 : (Tryz.f51.name == "runtime.NumGoroutine") = false := by kernel_rfl
theorem fn_52 : P.funcs[52]? = some Tryz.f52 := by unfold P; exact Tryz.func52
theorem ok_52 : codeOk Tryz.f52.ntmps ((Tryz.f52.body).getD .skip) = true := by kernel_rfl
theorem nm_52 : (Tryz.f52.name == "runtime.NumGoroutine") = false := by kernel_rfl
theorem fn_53 : P.funcs[53]? = some Tryz.f53 := by unfold P; exact Tryz.func53
theorem ok_53 : codeOk Tryz.f53.ntmps ((Tryz.f53.body).getD .skip) = true := by kernel_rfl
theorem nm_53 : (Tryz.f53.name == "runtime.NumGoroutine") = false := by kernel_rfl
theorem fn_54 : P.funcs[54]? = some Tryz.f54 := by unfold P; exact Tryz.func54
theorem ok_54 : codeOk Tryz.f54.ntmps ((Tryz.f54.body).getD .skip) = true := by kernel_rfl
theorem nm_54 : (Tryz.f54.name == "runtime.NumGoroutine") = false := by kernel_rfl
theorem fn_55 : P.funcs[55]? = some Tryz.f55 := by unfold P; exact Tryz.func55
theorem ok_55 : codeOk Tryz.f55.ntmps ((Tryz.f55.body).getD .skip) = true := by kernel_rfl
theorem nm_55 : (Tryz.f55.name == "runtime.NumGoroutine") = false := by kernel_rfl
theorem fn_56 : P.funcs[56]? = some Tryz.f56 := by unfold P; exact Tryz.func56
theorem ok_56 : codeOk Tryz.f56.ntmps ((Tryz.f56.body).getD .skip) = true := by kernel_rfl
theorem nm_56 : (Tryz.f56.name == "runtime.NumGoroutine") = false := by kernel_rfl
theorem fn_57 : P.funcs[57]? = some Tryz.f57 := by unfold P; exact Tryz.func57
theorem ok_57 : codeOk Tryz.f57.ntmps ((Tryz.f57.body).getD .skip) = true := by kernel_rfl
theorem nm_57 : (Tryz.f57.name == "runtime.NumGoroutine") = false := by kernel_rfl
theorem fn_58 : P.funcs[58]? = some Tryz.f58 := by unfold P; exact Tryz.func58
theorem ok_58 : codeOk Tryz.f58.ntmps ((Tryz.f58.body).getD .skip) = true := by kernel_rfl
theorem nm_58 : (Tryz.f58.name == "runtime.NumGoroutine") = false := by kernel_rfl
theorem fn_59 : P.funcs[59]? = some Tryz.f59 := by unfold P; exact Tryz.func59
theorem ok_59 : codeOk Tryz.f59.ntmps ((Tryz.f59.body).getD .skip) = true := by kernel_rfl
theorem nm_59 : (Tryz.f59.name == "runtime.NumGoroutine") = false := by kernel_rfl
theorem fn_60 : P.funcs[60]? = some Tryz.f60 := by unfold P; exact Tryz.func60
theorem ok_60 : codeOk Tryz.f60.ntmps ((Tryz.f60.body).getD .skip) = true := by kernel_rfl
theorem nm_60 : (Tryz.f60.name == "runtime.NumGoroutine") = false := by kernel_rfl
theorem fn_61 : P.funcs[61]? = some Tryz.f61 := by unfold P; exact Tryz.func61
theorem ok_61 : codeOk Tryz.f61.ntmps ((Tryz.f61.body).getD .skip) = true := by kernel_rfl
theorem nm_61 : (Tryz.f61.name == "runtime.NumGoroutine") = false := by kernel_rfl
theorem fn_62 : P.funcs[62]? = some Tryz.f62 := by unfold P; exact Tryz.func62
theorem ok_62 : codeOk Tryz.f62.ntmps ((Tryz.f62.body).getD .skip) = true := by kernel_rfl
theorem nm_62 : (Tryz.f62.name == "runtime.NumGoroutine") = false := by kernel_rfl
theorem fn_63 : P.funcs[63]? = some Tryz.f63 := by unfold P; exact Tryz.func63
theorem ok_63 : codeOk Tryz.f63.ntmps ((Tryz.f63.body).getD .skip) = true := by kernel_rfl
theorem nm_63 : (Tryz.f63.name == "runtime.NumGoroutine") = false := by kernel_rfl
theorem fn_64 : P.funcs[64]? = some Tryz.f64 := by unfold P; exact Tryz.func64
theorem ok_64 : codeOk Tryz.f64.ntmps ((Tryz.f64.body).getD .skip) = true := by kernel_rfl
theorem nm_64 : (Tryz.f64.name == "runtime.NumGoroutine") = false := by kernel_rfl
theorem fn_65 : P.funcs[65]? = some Tryz.f65 := by unfold P; exact Tryz.func65
theorem ok_65 : codeOk Tryz.f65.ntmps ((Tryz.f65.body).getD .skip) = true := by kernel_rfl
theorem nm_65 : (Tryz.f65.name == "runtime.NumGoroutine") = false := by kernel_rfl
theorem fn_66 : P.funcs[66]? = some Tryz.f66 := by unfold P; exact Tryz.func66
theorem ok_66 : codeOk Tryz.f66.ntmps ((Tryz.f66.body).getD .skip) = true := by kernel_rfl
theorem nm_66 : (Tryz.f66.name == "runtime.NumGoroutine") = false := by kernel_rfl
theorem fn_67 : P.funcs[67]? = some Tryz.f67 := by unfold P; exact Tryz.func67
theorem ok_67 : codeOk Tryz.f67.ntmps ((Tryz.f67.body).getD .skip) = true := by kernel_rfl
theorem nm_67 : (Tryz.f67.name == "runtime.NumGoroutine") = false := by kernel_rfl
theorem fn_68 : P.funcs[68]? = some Tryz.f68 := by unfold P; exact Tryz.func68
theorem ok_68 : codeOk Tryz.f68.ntmps ((Tryz.f68.body).getD .skip) = true := by kernel_rfl
theorem nm_68 : (Tryz.f68.name == "runtime.NumGoroutine") = false := by kernel_rfl
theorem fn_69 : P.funcs[69]? = some Tryz.f69 := by unfold P; exact Tryz.func69
theorem ok_69 : codeOk Tryz.f69.ntmps ((Tryz.f69.body).getD .skip) = true := by kernel_rfl
theorem nm_69 : (Tryz.f69.name == "runtime.NumGoroutine") = false := by kernel_rfl
theorem fn_70 : P.funcs[70]? = some Tryz.f70 := by unfold P; exact Tryz.func70
theorem ok_70 : codeOk Tryz.f70.ntmps ((Tryz.f70.body).getD .skip) = true := by kernel_rfl
theorem nm_70 : (Tryz.f70.name == "runtime.NumGoroutine") = false := by kernel_rfl
theorem fn_71 : P.funcs[71]? = some Tryz.f71 := by unfold P; exact Tryz.func71
theorem ok_71 : codeOk Tryz.f71.ntmps ((Tryz.f71.body).getD .skip) = true := by kernel_rfl
theorem nm_71 : (Tryz.f71.name == "runtime.NumGoroutine") = false := by kernel_rfl
theorem fn_72 : P.funcs[72]? = some Tryz.f72 := by unfold P; exact Tryz.func72
theorem ok_72 : codeOk Tryz.f72.ntmps ((Tryz.f72.body).getD .skip) = true := by kernel_rfl
theorem nm_72 : (Tryz.f72.name == "runtime.NumGoroutine") = false := by kernel_rfl
theorem fn_73 : P.funcs[73]? = some Tryz.f73 := by unfold P; exact Tryz.func73
theorem ok_73 : codeOk Tryz.f73.ntmps ((Tryz.f73.body).getD .skip) = true := by kernel_rfl
theorem nm_73 : (Tryz.f73.name == "runtime.NumGoroutine") = false := by kernel_rfl
theorem fn_74 : P.funcs[74]? = some Tryz.f74 := by unfold P; exact Tryz.func74
theorem ok_74 : codeOk Tryz.f74.ntmps ((Tryz.f74.body).getD .skip) = true := by kernel_rfl
theorem nm_74 : (Tryz.f74.name == "runtime.NumGoroutine") = false := by kernel_rfl
theorem fn_75 : P.funcs[75]? = some Tryz.f75 := by unfold P; exact Tryz.func75
theorem ok_75 : codeOk Tryz.f75.ntmps ((Tryz.f75.body).getD .skip) = true := by kernel_rfl
theorem nm_75 : (Tryz.f75.name == "runtime.NumGoroutine") = false := by kernel_rfl
theorem fn_76 : P.funcs[76]? = some Tryz.f76 := by unfold P; exact Tryz.func76
theorem ok_76 : codeOk Tryz.f76.ntmps ((Tryz.f76.body).getD .skip) = true := by kernel_rfl
theorem nm_76 : (Tryz.f76.name == "runtime.NumGoroutine") = false := by kernel_rfl
theorem fn_77 : P.funcs[77]? = some Tryz.f77 := by unfold P; exact Tryz.func77
theorem ok_77 : codeOk Tryz.f77.ntmps ((Tryz.f77.body).getD .skip) = true := by kernel_rfl
theorem nm_77 : (Tryz.f77.name == "runtime.NumGoroutine") = false := by kernel_rfl
theorem fn_78 : P.funcs[78]? = some Tryz.f78 := by unfold P; exact Tryz.func78
theorem ok_78 : codeOk Tryz.f78.ntmps ((Tryz.f78.body).getD .skip) = true := by kernel_rfl
theorem nm_78 : (Tryz.f78.name == "runtime.NumGoroutine") = false := by kernel_rfl
theorem fn_79 : P.funcs[79]? = some Tryz.f79 := by unfold P; exact Tryz.func79
theorem ok_79 : codeOk Tryz.f79.ntmps ((Tryz.f79.body).getD .skip) = true := by kernel_rfl
theorem nm_79 : (Tryz.f79.name == "runtime.NumGoroutine") = false := by kernel_rfl
theorem fn_80 : P.funcs[80]? = some Tryz.f80 := by unfold P; exact Tryz.func80
theorem ok_80 : codeOk Tryz.f80.ntmps ((Tryz.f80.body).getD .skip) = true := by kernel_rfl
theorem nm_80 : (Tryz.f80.name == "runtime.NumGoroutine") = false := by kernel_rfl
theorem fn_81 : P.funcs[81]? = some Tryz.f81 := by unfold P; exact Tryz.func81
theorem ok_81 : codeOk Tryz.f81.ntmps ((Tryz.f81.body).getD .skip) = true := by kernel_rfl
theorem nm_81 : (Tryz.f81.name == "runtime.NumGoroutine") = false := by kernel_rfl
theorem fn_82 : P.funcs[82]? = some Tryz.f82 := by unfold P; exact Tryz.func82
theorem ok_82 : codeOk Tryz.f82.ntmps ((Tryz.f82.body).getD .skip) = true := by kernel_rfl
theorem nm_82 : (Tryz.f82.name == "runtime.NumGoroutine") = false := by kernel_rfl
theorem fn_83 : P.funcs[83]? = some Tryz.f83 := by unfold P; exact Tryz.func83
theorem ok_83 : codeOk Tryz.f83.ntmps ((Tryz.f83.body).getD .skip) = true := by kernel_rfl
theorem nm_83 : (Tryz.f83.name == "runtime.NumGoroutine") = false := by kernel_rfl
theorem fn_84 : P.funcs[84]? = some Tryz.f84 := by unfold P; exact Tryz.func84
theorem ok_84 : codeOk Tryz.f84.ntmps ((Tryz.f84.body).getD .skip) = true := by kernel_rfl
theorem nm_84 : (Tryz.f84.name == "runtime.NumGoroutine") = false := by kernel_rfl
theorem fn_85 : P.funcs[85]? = some Tryz.f85 := by unfold P; exact Tryz.func85
theorem ok_85 : codeOk Tryz.f85.ntmps ((Tryz.f85.body).getD .skip) = true := by kernel_rfl
theorem nm_85 : (Tryz.f85.name == "runtime.NumGoroutine") = false := by kernel_rfl
theorem fn_86 : P.funcs[86]? = some Tryz.f86 := by unfold P; exact Tryz.func86
theorem ok_86 : codeOk Tryz.f86.ntmps ((Tryz.f86.body).getD .skip) = true := by kernel_rfl
theorem nm_86 : (Tryz.f86.name == "runtime.NumGoroutine") = false := by kernel_rfl
theorem fn_87 : P.funcs[87]? = some Tryz.f87 := by unfold P; exact Tryz.func87
theorem ok_87 : codeOk Tryz.f87.ntmps ((Tryz.f87.body).getD .skip) = true := by kernel_rfl
theorem nm_87 : (Tryz.f87.name == "runtime.NumGoroutine") = false := by kernel_rfl
theorem fn_88 : P.funcs[88]? = some Tryz.f88 := by unfold P; exact Tryz.func88
theorem ok_88 : codeOk Tryz.f88.ntmps ((Tryz.f88.body).getD .skip) = true := by kernel_rfl
theorem nm_88 : (Tryz.f88.name == "runtime.NumGoroutine") = false := by kernel_rfl
theorem fn_89 : P.funcs[89]? = some Tryz.f89 := by unfold P; exact Tryz.func89
theorem ok_89 : codeOk Tryz.f89.ntmps ((Tryz.f89.body).getD .skip) = true := by kernel_rfl
theorem nm_89 : (Tryz.f89.name == "runtime.NumGoroutine") = false := by kernel_rfl
theorem fn_90 : P.funcs[90]? = some Tryz.f90 := by unfold P; exact Tryz.func90
theorem ok_90 : codeOk Tryz.f90.ntmps ((Tryz.f90.body).getD .skip) = true := by kernel_rfl
theorem nm_90 : (Tryz.f90.name == "runtime.NumGoroutine") = false := by kernel_rfl
theorem fn_91 : P.funcs[91]? = some Tryz.f91 := by unfold P; exact Tryz.func91
theorem ok_91 : codeOk Tryz.f91.ntmps ((Tryz.f91.body).getD .skip) = true := by kernel_rfl
theorem nm_91 : (Tryz.f91.name == "runtime.NumGoroutine") = false := by kernel_rfl
theorem fn_92 : P.funcs[92]? = some Tryz.f92 := by unfold P; exact Tryz.func92
theorem ok_92 : codeOk Tryz.f92.ntmps ((Tryz.f92.body).getD .skip) = true := by kernel_rfl
theorem nm_92 : (Tryz.f92.name == "runtime.NumGoroutine") = false := by kernel_rfl
theorem fn_93 : P.funcs[93]? = some Tryz.f93 := by unfold P; exact Tryz.func93
theorem ok_93 : codeOk Tryz.f93.ntmps ((Tryz.f93.body).getD .skip) = true := by kernel_rfl
theorem nm_93 : (Tryz.f93.name == "runtime.NumGoroutine") = false := by kernel_rfl
theorem fn_94 : P.funcs[94]? = some Tryz.f94 := by unfold P; exact Tryz.func94
theorem ok_94 : codeOk Tryz.f94.ntmps ((Tryz.f94.body).getD .skip) = true := by kernel_rfl
theorem nm_94 : (Tryz.f94.name == "runtime.NumGoroutine") = false := by kernel_rfl
theorem fn_95 : P.funcs[95]? = some Tryz.f95 := by unfold P; exact Tryz.func95
theorem ok_95 : codeOk Tryz.f95.ntmps ((Tryz.f95.body).getD .skip) = true := by kernel_rfl
theorem nm_95 : (Tryz.f95.name == "runtime.NumGoroutine") = false := by kernel_rfl
theorem fn_96 : P.funcs[96]? = some Tryz.f96 := by unfold P; exact Tryz.func96
theorem ok_96 : codeOk Tryz.f96.ntmps ((Tryz.f96.body).getD .skip) = true := by kernel_rfl
theorem nm_96 : (Tryz.f96.name == "runtime.NumGoroutine") = false := by kernel_rfl
theorem fn_97 : P.funcs[97]? = some Tryz.f97 := by unfold P; exact Tryz.func97
theorem ok_97 : codeOk Tryz.f97.ntmps ((Tryz.f97.body).getD .skip) = true := by kernel_rfl
theorem nm_97 : (Tryz.f97.name == "runtime.NumGoroutine") = false := by kernel_rfl
theorem fn_98 : P.funcs[98]? = some Tryz.f98 := by unfold P; exact Tryz.func98
theorem ok_98 : codeOk Tryz.f98.ntmps ((Tryz.f98.body).getD .skip) = true := by kernel_rfl
theorem nm_98 : (Tryz.f98.name == "runtime.NumGoroutine") = false := by kernel_rfl
theorem fn_99 : P.funcs[99]? = some Tryz.f99 := by unfold P; exact Tryz.func99
theorem ok_99 : codeOk Tryz.f99.ntmps ((Tryz.f99.body).getD .skip) = true := by kernel_rfl
theorem nm_99 : (Tryz.f99.name == "runtime.NumGoroutine") = false := by kernel_rfl
theorem fn_100 : P.funcs[100]? = some Tryz.f100 := by unfold P; exact Tryz.func100
theorem ok_100 : codeOk Tryz.f100.ntmps ((Tryz.f100.body).getD .skip) = true := by kernel_rfl
theorem nm_100 : (Tryz.f100.name == "runtime.NumGoroutine") = false := by kernel_rfl
theorem fn_101 : P.funcs[101]? = some Tryz.f101 := by unfold P; exact Tryz.func101
theorem ok_101 : codeOk Tryz.f101.ntmps ((Tryz.f101.body).getD .skip) = true := by kernel_rfl
theorem nm_101 : (Tryz.f101.name == "runtime.NumGoroutine") = false := by kernel_rfl
theorem fn_102 : P.funcs[102]? = some Tryz.f102 := by unfold P; exact Tryz.func102
theorem ok_102 : codeOk Tryz.f102.ntmps ((Tryz.f102.body).getD .skip) = true := by kernel_rfl
theorem nm_102 : (Tryz.f102.name == "runtime.NumGoroutine") = false := by kernel_rfl
theorem fn_103 : P.funcs[103]? = some Tryz.f103 := by unfold P; exact Tryz.func103
theorem ok_103 : codeOk Tryz.f103.ntmps ((Tryz.f103.body).getD .skip) = true := by kernel_rfl
theorem nm_103 : (Tryz.f103.name == "runtime.NumGoroutine") = false := by kernel_rfl
theorem fn_104 : P.funcs[104]? = some Tryz.f104 := by unfold P; exact Tryz.func104
theorem ok_104 : codeOk Tryz.f104.ntmps ((Tryz.f104.body).getD .skip) = true := by kernel_rfl
theorem nm_104 : (Tryz.f104.name == "runtime.NumGoroutine") = false := by kernel_rfl
theorem fn_105 : P.funcs[105]? = some Tryz.f105 := by unfold P; exact Tryz.func105
theorem ok_105 : codeOk Tryz.f105.ntmps ((Tryz.f105.body).getD .skip) = true := by kernel_rfl
theorem nm_105 : (Tryz.f105.name == "runtime.NumGoroutine") = false := by kernel_rfl
theorem fn_106 : P.funcs[106]? = some Tryz.f106 := by unfold P; exact Tryz.func106
theorem ok_106 : codeOk Tryz.f106.ntmps ((Tryz.f106.body).getD .skip) = true := by kernel_rfl
theorem nm_106 : (Tryz.f106.name == "runtime.NumGoroutine") = false := by kernel_rfl
theorem fn_107 : P.funcs[107]? = some Tryz.f107 := by unfold P; exact Tryz.func107
theorem ok_107 : codeOk Tryz.f107.ntmps ((Tryz.f107.body).getD .skip) = true := by kernel_rfl
theorem nm_107 : (Tryz.f107.name == "runtime.NumGoroutine") = false := by kernel_rfl
theorem fn_108 : P.funcs[108]? = some Tryz.f108 := by unfold P; exact Tryz.func108
theorem ok_108 : codeOk Tryz.f108.ntmps ((Tryz.f108.body).getD .skip) = true := by kernel_rfl
theorem nm_108 : (Tryz.f108.name == "runtime.NumGoroutine") = false := by kernel_rfl
theorem fn_109 : P.funcs[109]? = some Tryz.f109 := by unfold P; exact Tryz.func109
theorem ok_109 : codeOk Tryz.f109.ntmps ((Tryz.f109.body).getD .skip) = true := by kernel_rfl
theorem nm_109 : (Tryz.f109.name == "runtime.NumGoroutine") = false := by kernel_rfl
theorem fn_110 : P.funcs[110]? = some Tryz.f110 := by unfold P; exact Tryz.func110
theorem ok_110 : codeOk Tryz.f110.ntmps ((Tryz.f110.body).getD .skip) = true := by kernel_rfl
theorem nm_110 : (Tryz.f110.name == "runtime.NumGoroutine") = false := by kernel_rfl
theorem fn_111 : P.funcs[111]? = some Tryz.f111 := by unfold P; exact Tryz.func111
theorem ok_111 : codeOk Tryz.f111.ntmps ((Tryz.f111.body).getD .skip) = true := by kernel_rfl
theorem nm_111 : (Tryz.f111.name == "runtime.NumGoroutine") = false := by kernel_rfl
theorem fn_112 : P.funcs[112]? = some Tryz.f112 := by unfold P; exact Tryz.func112
theorem ok_112 : codeOk Tryz.f112.ntmps ((Tryz.f112.body).getD .skip) = true := by kernel_rfl
theorem nm_112 : (Tryz.f112.name == "runtime.NumGoroutine") = false := by kernel_rfl
theorem fn_113 : P.funcs[113]? = some Tryz.f113 := by unfold P; exact Tryz.func113
theorem ok_113 : codeOk Tryz.f113.ntmps ((Tryz.f113.body).getD .skip) = true := by kernel_rfl
theorem nm_113 : (Tryz.f113.name == "runtime.NumGoroutine") = false := by kernel_rfl
theorem fn_114 : P.funcs[114]? = some Tryz.f114 := by unfold P; exact Tryz.func114
theorem ok_114 : codeOk Tryz.f114.ntmps ((Tryz.f114.body).getD .skip) = true := by kernel_rfl
theorem nm_114 : (Tryz.f114.name == "runtime.NumGoroutine") = false := by kernel_rfl
theorem fn_115 : P.funcs[115]? = some Tryz.f115 := by unfold P; exact Tryz.func115
theorem ok_115 : codeOk Tryz.f115.ntmps ((Tryz.f115.body).getD .skip) = true := by kernel_rfl
theorem nm_115 : (Tryz.f115.name == "runtime.NumGoroutine") = false := by kernel_rfl
theorem fn_116 : P.funcs[116]? = some Tryz.f116 := by unfold P; exact Tryz.func116
theorem ok_116 : codeOk Tryz.f116.ntmps ((Tryz.f116.body).getD .skip) = true := by kernel_rfl
theorem nm_116 : (Tryz.f116.name == "runtime.NumGoroutine") = false := by kernel_rfl
theorem fn_117 : P.funcs[117]? = some Tryz.f117 := by unfold P; exact Tryz.func117
theorem ok_117 : codeOk Tryz.f117.ntmps ((Tryz.f117.body).getD .skip) = true := by kernel_rfl
theorem nm_117 : (Tryz.f117.name == "runtime.NumGoroutine") = false := by kernel_rfl
theorem fn_118 : P.funcs[118]? = some Tryz.f118 := by unfold P; exact Tryz.func118
theorem ok_118 : codeOk Tryz.f118.ntmps ((Tryz.f118.body).getD .skip) = true := by kernel_rfl
theorem nm_118 : (Tryz.f118.name == "runtime.NumGoroutine") = false := by kernel_rfl
theorem fn_119 : P.funcs[119]? = some Tryz.f119 := by unfold P; exact Tryz.func119
theorem ok_119 : codeOk Tryz.f119.ntmps ((Tryz.f119.body).getD .skip) = true := by kernel_rfl
theorem nm_119 : (Tryz.f119.name == "runtime.NumGoroutine") = false := by kernel_rfl
theorem fn_120 : P.funcs[120]? = some Tryz.f120 := by unfold P; exact Tryz.func120
theorem ok_120 : codeOk Tryz.f120.ntmps ((Tryz.f120.body).getD .skip) = true := by kernel_rfl
theorem nm_120 : (Tryz.f120.name == "runtime.NumGoroutine") = false := by kernel_rfl
theorem fn_121 : P.funcs[121]? = some Tryz.f121 := by unfold P; exact Tryz.func121
theorem ok_121 : codeOk Tryz.f121.ntmps ((Tryz.f121.body).getD .skip) = true := by kernel_rfl
theorem nm_121 : (Tryz.f121.name == "runtime.NumGoroutine") = false := by kernel_rfl
theorem fn_122 : P.funcs[122]? = some Tryz.f122 := by unfold P; exact Tryz.func122
theorem ok_122 : codeOk Tryz.f122.ntmps ((Tryz.f122.body).getD .skip) = true := by kernel_rfl
theorem nm_122 : (Tryz.f122.name == "runtime.NumGoroutine") = false := by kernel_rfl
theorem fn_123 : P.funcs[123]? = some Tryz.f123 := by unfold P; exact Tryz.func123
theorem ok_123 : codeOk Tryz.f123.ntmps ((Tryz.f123.body).getD .skip) = true := by kernel_rfl
theorem nm_123 : (Tryz.f123.name == "runtime.NumGoroutine") = false := by kernel_rfl
theorem fn_124 : P.funcs[124]? = some Tryz.f124 := by unfold P; exact Tryz.func124
theorem ok_124 : codeOk Tryz.f124.ntmps ((Tryz.f124.body).getD .skip) = true := by kernel_rfl
theorem nm_124 : (Tryz.f124.name == "runtime.NumGoroutine") = false := by kernel_rfl
theorem fn_125 : P.funcs[125]? = some Tryz.f125 := by unfold P; exact Tryz.func125
theorem ok_125 : codeOk Tryz.f125.ntmps ((Tryz.f125.body).getD .skip) = true := by kernel_rfl
theorem nm_125 : (Tryz.f125.name == "runtime.NumGoroutine") = false := by kernel_rfl
theorem fn_126 : P.funcs[126]? = some Tryz.f126 := by unfold P; exact Tryz.func126
theorem ok_126 : codeOk Tryz.f126.ntmps ((Tryz.f126.body).getD .skip) = true := by kernel_rfl
theorem nm_126 : (Tryz.f126.name == "runtime.NumGoroutine") = false := by kernel_rfl
theorem fn_127 : P.funcs[127]? = some Tryz.f127 := by unfold P; exact Tryz.func127
theorem ok_127 : codeOk Tryz.f127.ntmps ((Tryz.f127.body).getD .skip) = true := by kernel_rfl
theorem nm_127 : (Tryz.f127.name == "runtime.NumGoroutine") = false := by kernel_rfl
theorem fn_128 : P.funcs[128]? = some Tryz.f128 := by unfold P; exact Tryz.func128
theorem ok_128 : codeOk Tryz.f128.ntmps ((Tryz.f128.body).getD .skip) = true := by kernel_rfl
theorem nm_128 : (Tryz.f128.name == "runtime.NumGoroutine") = false := by kernel_rfl
theorem fn_129 : P.funcs[129]? = some Tryz.f129 := by unfold P; exact Tryz.func129
theorem ok_129 : codeOk Tryz.f129.ntmps ((Tryz.f129.body).getD .skip) = true := by kernel_rfl
theorem nm_129 : (Tryz.f129.name == "runtime.NumGoroutine") = false := by kernel_rfl
theorem fn_130 : P.funcs[130]? = some Tryz.f130 := by unfold P; exact Tryz.func130
theorem ok_130 : codeOk Tryz.f130.ntmps ((Tryz.f130.body).getD .skip) = true := by kernel_rfl
theorem nm_130 : (Tryz.f130.name == "runtime.NumGoroutine") = false := by kernel_rfl
theorem fn_131 : P.funcs[131]? = some Tryz.f131 := by unfold P; exact Tryz.func131
theorem ok_131 : codeOk Tryz.f131.ntmps ((Tryz.f131.body).getD .skip) = true := by kernel_rfl
theorem nm_131 : (Tryz.f131.name == "runtime.NumGoroutine") = false := by kernel_rfl
theorem fn_132 : P.funcs[132]? = some Tryz.f132 := by unfold P; exact Tryz.func132
theorem ok_132 : codeOk Tryz.f132.ntmps ((Tryz.f132.body).getD .skip) = true := by kernel_rfl
theorem nm_132 : (Tryz.f132.name == "runtime.NumGoroutine") = false := by kernel_rfl
theorem fn_133 : P.funcs[133]? = some Tryz.f133 := by unfold P; exact Tryz.func133
theorem ok_133 : codeOk Tryz.f133.ntmps ((Tryz.f133.body).getD .skip) = true := by kernel_rfl
theorem nm_133 : (Tryz.f133.name == "runtime.NumGoroutine") = false := by kernel_rfl
theorem fn_134 : P.funcs[134]? = some Tryz.f134 := by unfold P; exact Tryz.func134
theorem ok_134 : codeOk Tryz.f134.ntmps ((Tryz.f134.body).getD .skip) = true := by kernel_rfl
theorem nm_134 : (Tryz.f134.name == "runtime.NumGoroutine") = false := by kernel_rfl
theorem fn_135 : P.funcs[135]? = some Tryz.f135 := by unfold P; exact Tryz.func135
theorem ok_135 : codeOk Tryz.f135.ntmps ((Tryz.f135.body).getD .skip) = true := by kernel_rfl
theorem nm_135 : (Tryz.f135.name == "runtime.NumGoroutine") = false := by kernel_rfl
theorem fn_136 : P.funcs[136]? = some Tryz.f136 := by unfold P; exact Tryz.func136
theorem ok_136 : codeOk Tryz.f136.ntmps ((Tryz.f136.body).getD .skip) = true := by kernel_rfl
theorem nm_136 : (Tryz.f136.name == "runtime.NumGoroutine") = false := by kernel_rfl
theorem fn_137 : P.funcs[137]? = some Tryz.f137 := by unfold P; exact Tryz.func137
theorem ok_137 : codeOk Tryz.f137.ntmps ((Tryz.f137.body).getD .skip) = true := by kernel_rfl
theorem nm_137 : (Tryz.f137.name == "runtime.NumGoroutine") = false := by kernel_rfl
theorem fn_138 : P.funcs[138]? = some Tryz.f138 := by unfold P; exact Tryz.func138
theorem ok_138 : codeOk Tryz.f138.ntmps ((Tryz.f138.body).getD .skip) = true := by kernel_rfl
theorem nm_138 : (Tryz.f138.name == "runtime.NumGoroutine") = false := by kernel_rfl
theorem fn_139 : P.funcs[139]? = some Tryz.f139 := by unfold P; exact Tryz.func139
theorem ok_139 : codeOk Tryz.f139.ntmps ((Tryz.f139.body).getD .skip) = true := by kernel_rfl
theorem nm_139 : (Tryz.f139.name == "runtime.NumGoroutine") = false := by kernel_rfl
theorem fn_140 : P.funcs[140]? = some Tryz.f140 := by unfold P; exact Tryz.func140
theorem ok_140 : codeOk Tryz.f140.ntmps ((Tryz.f140.body).getD .skip) = true := by kernel_rfl
theorem nm_140 : (Tryz.f140.name == "runtime.NumGoroutine") = false := by kernel_rfl
theorem fn_141 : P.funcs[141]? = some Tryz.f141 := by unfold P; exact Tryz.func141
theorem ok_141 : codeOk Tryz.f141.ntmps ((Tryz.f141.body).getD .skip) = true := by kernel_rfl
theorem nm_141 : (Tryz.f141.name == "runtime.NumGoroutine") = false := by kernel_rfl
theorem fn_142 : P.funcs[142]? = some Tryz.f142 := by unfold P; exact Tryz.func142
theorem ok_142 : codeOk Tryz.f142.ntmps ((Tryz.f142.body).getD .skip) = true := by kernel_rfl
theorem nm_142 : (Tryz.f142.name == "runtime.NumGoroutine") = false := by kernel_rfl
theorem fn_143 : P.funcs[143]? = some Tryz.f143 := by unfold P; exact Tryz.func143
theorem ok_143 : codeOk Tryz.f143.ntmps ((Tryz.f143.body).getD .skip) = true := by kernel_rfl
theorem nm_143 : (Tryz.f143.name == "runtime.NumGoroutine") = false := by kernel_rfl
theorem fn_144 : P.funcs[144]? = some Tryz.f144 := by unfold P; exact Tryz.func144
theorem ok_144 : codeOk Tryz.f144.ntmps ((Tryz.f144.body).getD .skip) = true := by kernel_rfl
theorem nm_144 : (Tryz.f144.name == "runtime.NumGoroutine") = false := by kernel_rfl
theorem fn_145 : P.funcs[145]? = some Tryz.f145 := by unfold P; exact Tryz.func145
theorem ok_145 : codeOk Tryz.f145.ntmps ((Tryz.f145.body).getD .skip) = true := by kernel_rfl
theorem nm_145 : (Tryz.f145.name == "runtime.NumGoroutine") = false := by kernel_rfl
theorem fn_146 : P.funcs[146]? = some Tryz.f146 := by unfold P; exact Tryz.func146
theorem ok_146 : codeOk Tryz.f146.ntmps ((Tryz.f146.body).getD .skip) = true := by kernel_rfl
theorem nm_146 : (Tryz.f146.name == "runtime.NumGoroutine") = false := by kernel_rfl
theorem fn_147 : P.funcs[147]? = some Tryz.f147 := by unfold P; exact Tryz.func147
theorem ok_147 : codeOk Tryz.f147.ntmps ((Tryz.f147.body).getD .skip) = true := by kernel_rfl
theorem nm_147 : (Tryz.f147.name == "runtime.NumGoroutine") = false := by kernel_rfl
theorem fn_148 : P.funcs[148]? = some Tryz.f148 := by unfold P; exact Tryz.func148
theorem ok_148 : codeOk Tryz.f148.ntmps ((Tryz.f148.body).getD .skip) = true := by kernel_rfl
theorem nm_148 : (Tryz.f148.name == "runtime.NumGoroutine") = false := by kernel_rfl
theorem fn_149 : P.funcs[149]? = some Tryz.f149 := by unfold P; exact Tryz.func149
theorem ok_149 : codeOk Tryz.f149.ntmps ((Tryz.f149.body).getD .skip) = true := by kernel_rfl
theorem nm_149 : (Tryz.f149.name == "runtime.NumGoroutine") = false := by kernel_rfl
theorem fn_150 : P.funcs[150]? = some Tryz.f150 := by unfold P; exact Tryz.func150
theorem ok_150 : codeOk Tryz.f150.ntmps ((Tryz.f150.body).getD .skip) = true := by kernel_rfl
theorem nm_150 : (Tryz.f150.name == "runtime.NumGoroutine") = false := by kernel_rfl
theorem fn_151 : P.funcs[151]? = some Tryz.f151 := by unfold P; exact Tryz.func151
theorem ok_151 : codeOk Tryz.f151.ntmps ((Tryz.f151.body).getD .skip) = true := by kernel_rfl
theorem nm_151 : (Tryz.f151.name == "runtime.NumGoroutine") = false := by kernel_rfl
theorem fn_152 : P.funcs[152]? = some Tryz.f152 := by unfold P; exact Tryz.func152
theorem ok_152 : codeOk Tryz.f152.ntmps ((Tryz.f152.body).getD .skip) = true := by kernel_rfl
theorem nm_152 : (Tryz.f152.name == "runtime.NumGoroutine") = false := by kernel_rfl
theorem fn_153 : P.funcs[153]? = some Tryz.f153 := by unfold P; exact Tryz.func153
theorem ok_153 : codeOk Tryz.f153.ntmps ((Tryz.f153.body).getD .skip) = true := by kernel_rfl
theorem nm_153 : (Tryz.f153.name == "runtime.NumGoroutine") = false := by kernel_rfl
theorem fn_154 : P.funcs[154]? = some Tryz.f154 := by unfold P; exact Tryz.func154
theorem ok_154 : codeOk Tryz.f154.ntmps ((Tryz.f154.body).getD .skip) = true := by kernel_rfl
theorem nm_154 : (Tryz.f154.name == "runtime.NumGoroutine") = false := by kernel_rfl
theorem fn_155 : P.funcs[155]? = some Tryz.f155 := by unfold P; exact Tryz.func155
theorem ok_155 : codeOk Tryz.f155.ntmps ((Tryz.f155.body).getD .skip) = true := by kernel_rfl
theorem nm_155 : (Tryz.f155.name == "runtime.NumGoroutine") = false := by kernel_rfl
theorem fn_156 : P.funcs[156]? = some Tryz.f156 := by unfold P; exact Tryz.func156
theorem ok_156 : codeOk Tryz.f156.ntmps ((Tryz.f156.body).getD .skip) = true := by kernel_rfl
theorem nm_156 : (Tryz.f156.name == "runtime.NumGoroutine") = false := by kernel_rfl
theorem fn_157 : P.funcs[157]? = some Tryz.f157 := by unfold P; exact Tryz.func157
theorem ok_157 : codeOk Tryz.f157.ntmps ((Tryz.f157.body).getD .skip) = true := by kernel_rfl
theorem nm_157 : (Tryz.f157.name == "runtime.NumGoroutine") = false := by kernel_rfl
theorem fn_158 : P.funcs[158]? = some Tryz.f158 := by unfold P; exact Tryz.func158
theorem ok_158 : codeOk Tryz.f158.ntmps ((Tryz.f158.body).getD .skip) = true := by kernel_rfl
theorem nm_158 : (Tryz.f158.name == "runtime.NumGoroutine") = false := by kernel_rfl
theorem fn_159 : P.funcs[159]? = some Tryz.f159 := by unfold P; exact Tryz.func159
theorem ok_159 : codeOk Tryz.f159.ntmps ((Tryz.f159.body).getD .skip) = true := by kernel_rfl
theorem nm_159 : (Tryz.f159.name == "runtime.NumGoroutine") = false := by kernel_rfl
theorem fn_160 : P.funcs[160]? = some Tryz.f160 := by unfold P; exact Tryz.func160
theorem ok_160 : codeOk Tryz.f160.ntmps ((Tryz.f160.body).getD .skip) = true := by kernel_rfl
theorem nm_160 : (Tryz.f160.name == "runtime.NumGoroutine") = false := by kernel_rfl
theorem fn_161 : P.funcs[161]? = some Tryz.f161 := by unfold P; exact Tryz.func161
theorem ok_161 : codeOk Tryz.f161.ntmps ((Tryz.f161.body).getD .skip) = true := by kernel_rfl
theorem nm_161 : (Tryz.f161.name == "runtime.NumGoroutine") = false := by kernel_rfl
theorem fn_162 : P.funcs[162]? = some Tryz.f162 := by unfold P; exact Tryz.func162
theorem ok_162 : codeOk Tryz.f162.ntmps ((Tryz.f162.body).getD .skip) = true := by kernel_rfl
theorem nm_162 : (Tryz.f162.name == "runtime.NumGoroutine") = false := by kernel_rfl
theorem fn_163 : P.funcs[163]? = some Tryz.f163 := by unfold P; exact Tryz.func163
theorem ok_163 : codeOk Tryz.f163.ntmps ((Tryz.f163.body).getD .skip) = true := by kernel_rfl
theorem nm_163 : (Tryz.f163.name == "runtime.NumGoroutine") = false := by kernel_rfl
theorem fn_164 : P.funcs[164]? = some Tryz.f164 := by unfold P; exact Tryz.func164
theorem ok_164 : codeOk Tryz.f164.ntmps ((Tryz.f164.body).getD .skip) = true := by kernel_rfl
theorem nm_164 : (Tryz.f164.name == "runtime.NumGoroutine") = false := by kernel_rfl
theorem fn_165 : P.funcs[165]? = some Tryz.f165 := by unfold P; exact Tryz.func165
theorem ok_165 : codeOk Tryz.f165.ntmps ((Tryz.f165.body).getD .skip) = true := by kernel_rfl
theorem nm_165 : (Tryz.f165.name == "runtime.NumGoroutine") = false := by kernel_rfl
theorem fn_166 : P.funcs[166]? = some Tryz.f166 := by unfold P; exact Tryz.func166
theorem ok_166 : codeOk Tryz.f166.ntmps ((Tryz.f166.body).getD .skip) = true := by kernel_rfl
theorem nm_166 : (Tryz.f166.name == "runtime.NumGoroutine") = false := by kernel_rfl
theorem fn_167 : P.funcs[167]? = some Tryz.f167 := by unfold P; exact Tryz.func167
theorem ok_167 : codeOk Tryz.f167.ntmps ((Tryz.f167.body).getD .skip) = true := by kernel_rfl
theorem nm_167 : (Tryz.f167.name == "runtime.NumGoroutine") = false := by kernel_rfl
theorem fn_168 : P.funcs[168]? = some Tryz.f168 := by unfold P; exact Tryz.func168
theorem ok_168 : codeOk Tryz.f168.ntmps ((Tryz.f168.body).getD .skip) = true := by kernel_rfl
theorem nm_168 : (Tryz.f168.name == "runtime.NumGoroutine") = false := by kernel_rfl
theorem fn_169 : P.funcs[169]? = some Tryz.f169 := by unfold P; exact Tryz.func169
theorem ok_169 : codeOk Tryz.f169.ntmps ((Tryz.f169.body).getD .skip) = true := by kernel_rfl
theorem nm_169 : (Tryz.f169.name == "runtime.NumGoroutine") = false := by kernel_rfl
theorem fn_170 : P.funcs[170]? = some Tryz.f170 := by unfold P; exact Tryz.func170
theorem ok_170 : codeOk Tryz.f170.ntmps ((Tryz.f170.body).getD .skip) = true := by kernel_rfl
theorem nm_170 : (Tryz.f170.name == "runtime.NumGoroutine") = false := by kernel_rfl
theorem fn_171 : P.funcs[171]? = some Tryz.f171 := by unfold P; exact Tryz.func171
theorem ok_171 : codeOk Tryz.f171.ntmps ((Tryz.f171.body).getD .skip) = true := by kernel_rfl
theorem nm_171 : (Tryz.f171.name == "runtime.NumGoroutine") = false := by kernel_rfl
theorem fn_172 : P.funcs[172]? = some Tryz.f172 := by unfold P; exact Tryz.func172
theorem ok_172 : codeOk Tryz.f172.ntmps ((Tryz.f172.body).getD .skip) = true := by kernel_rfl
theorem nm_172 : (Tryz.f172.name == "runtime.NumGoroutine") = false := by kernel_rfl
theorem fn_173 : P.funcs[173]? = some Tryz.f173 := by unfold P; exact Tryz.func173
theorem ok_173 : codeOk Tryz.f173.ntmps ((Tryz.f173.body).getD .skip) = true := by kernel_rfl
theorem nm_173 : (Tryz.f173.name == "runtime.NumGoroutine") = false := by kernel_rfl
theorem fn_174 : P.funcs[174]? = some Tryz.f174 := by unfold P; exact Tryz.func174
theorem ok_174 : codeOk Tryz.f174.ntmps ((Tryz.f174.body).getD .skip) = true := by kernel_rfl
theorem nm_174 : (Tryz.f174.name == "runtime.NumGoroutine") = false := by kernel_rfl
theorem fn_175 : P.funcs[175]? = some Tryz.f175 := by unfold P; exact Tryz.func175
theorem ok_175 : codeOk Tryz.f175.ntmps ((Tryz.f175.body).getD .skip) = true := by kernel_rfl
theorem nm_175 : (Tryz.f175.name == "runtime.NumGoroutine") = false := by kernel_rfl
theorem fn_176 : P.funcs[176]? = some Tryz.f176 := by unfold P; exact Tryz.func176
theorem ok_176 : codeOk Tryz.f176.ntmps ((Tryz.f176.body).getD .skip) = true := by kernel_rfl
theorem nm_176 : (Tryz.f176.name == "runtime.NumGoroutine") = false := by kernel_rfl
theorem fn_177 : P.funcs[177]? = some Tryz.f177 := by unfold P; exact Tryz.func177
theorem ok_177 : codeOk Tryz.f177.ntmps ((Tryz.f177.body).getD .skip) = true := by kernel_rfl
theorem nm_177 : (Tryz.f177.name == "runtime.NumGoroutine") = false := by kernel_rfl
theorem fn_178 : P.funcs[178]? = some Tryz.f178 := by unfold P; exact Tryz.func178
theorem ok_178 : codeOk Tryz.f178.ntmps ((Tryz.f178.body).getD .skip) = true := by kernel_rfl
theorem nm_178 : (Tryz.f178.name == "runtime.NumGoroutine") = false := by kernel_rfl
theorem fn_203 : P.funcs[203]? = some Tryz.f203 := by unfold P; exact Tryz.func203
theorem ok_203 : codeOk Tryz.f203.ntmps ((Tryz.f203.body).getD .skip) = true := by kernel_rfl
theorem nm_203 : (Tryz.f203.name == "runtime.NumGoroutine") = false := by kernel_rfl
theorem fn_205 : P.funcs[205]? = some Tryz.f205 := by unfold P; exact Tryz.func205
theorem ok_205 : codeOk Tryz.f205.ntmps ((Tryz.f205.body).getD .skip) = true := by kernel_rfl
theorem nm_205 : (Tryz.f205.name == "runtime.NumGoroutine") = false := by kernel_rfl
theorem fn_210 : P.funcs[210]? = some Tryz.f210 := by unfold P; exact Tryz.func210
theorem ok_210 : codeOk Tryz.f210.ntmps ((Tryz.f210.body).getD .skip) = true := by kernel_rfl
theorem nm_210 : (Tryz.f210.name == "runtime.NumGoroutine") = false := by kernel_rfl
theorem fn_211 : P.funcs[211]? = some Tryz.f211 := by unfold P; exact Tryz.func211
theorem ok_211 : codeOk Tryz.f211.ntmps ((Tryz.f211.body).getD .skip) = true := by kernel_rfl
theorem nm_211 : (Tryz.f211.name == "runtime.NumGoroutine") = false := by kernel_rfl
theorem fn_218 : P.funcs[218]? = some Tryz.f218 := by unfold P; exact Tryz.func218
theorem ok_218 : codeOk Tryz.f218.ntmps ((Tryz.f218.body).getD .skip) = true := by kernel_rfl
theorem nm_218 : (Tryz.f218.name == "runtime.NumGoroutine") = false := by kernel_rfl
theorem fn_220 : P.funcs[220]? = some Tryz.f220 := by unfold P; exact Tryz.func220
theorem ok_220 : codeOk Tryz.f220.ntmps ((Tryz.f220.body).getD .skip) = true := by kernel_rfl
theorem nm_220 : (Tryz.f220.name == "runtime.NumGoroutine") = false := by kernel_rfl
theorem fn_225 : P.funcs[225]? = some Tryz.f225 := by unfold P; exact Tryz.func225
theorem ok_225 : codeOk Tryz.f225.ntmps ((Tryz.f225.body).getD .skip) = true := by kernel_rfl
theorem nm_225 : (Tryz.f225.name == "runtime.NumGoroutine") = false := by kernel_rfl
theorem fn_227 : P.funcs[227]? = some Tryz.f227 := by unfold P; exact Tryz.func227
theorem ok_227 : codeOk Tryz.f227.ntmps ((Tryz.f227.body).getD .skip) = true := by kernel_rfl
theorem nm_227 : (Tryz.f227.name == "runtime.NumGoroutine") = false := by kernel_rfl
theorem fn_228 : P.funcs[228]? = some Tryz.f228 := by unfold P; exact Tryz.func228
theorem ok_228 : codeOk Tryz.f228.ntmps ((Tryz.f228.body).getD .skip) = true := by kernel_rfl
theorem nm_228 : (Tryz.f228.name == "runtime.NumGoroutine") = false := by kernel_rfl
theorem fn_229 : P.funcs[229]? = some Tryz.f229 := by unfold P; exact Tryz.func229
theorem ok_229 : codeOk Tryz.f229.ntmps ((Tryz.f229.body).getD .skip) = true := by kernel_rfl
theorem nm_229 : (Tryz.f229.name == "runtime.NumGoroutine") = false := by kernel_rfl
theorem fn_230 : P.funcs[230]? = some Tryz.f230 := by unfold P; exact Tryz.func230
theorem ok_230 : codeOk Tryz.f230.ntmps ((Tryz.f230.body).getD .skip) = true := by kernel_rfl
theorem nm_230 : (Tryz.f230.name == "runtime.NumGoroutine") = false := by kernel_rfl
theorem fn_231 : P.funcs[231]? = some Tryz.f231 := by unfold P; exact Tryz.func231
theorem ok_231 : codeOk Tryz.f231.ntmps ((Tryz.f231.body).getD .skip) = true := by kernel_rfl
theorem nm_231 : (Tryz.f231.name == "runtime.NumGoroutine") = false := by kernel_rfl
theorem fn_232 : P.funcs[232]? = some Tryz.f232 := by unfold P; exact Tryz.func232
theorem ok_232 : codeOk Tryz.f232.ntmps ((Tryz.f232.body).getD .skip) = true := by kernel_rfl
theorem nm_232 : (Tryz.f232.name == "runtime.NumGoroutine") = false := by kernel_rfl
theorem fn_233 : P.funcs[233]? = some Tryz.f233 := by unfold P; exact Tryz.func233
theorem ok_233 : codeOk Tryz.f233.ntmps ((Tryz.f233.body).getD .skip) = true := by kernel_rfl
theorem nm_233 : (Tryz.f233.name == "runtime.NumGoroutine") = false := by kernel_rfl
theorem fn_234 : P.funcs[234]? = some Tryz.f234 := by unfold P; exact Tryz.func234
theorem ok_234 : codeOk Tryz.f234.ntmps ((Tryz.f234.body).getD .skip) = true := by kernel_rfl
theorem nm_234 : (Tryz.f234.name == "runtime.NumGoroutine") = false := by kernel_rfl
theorem fn_235 : P.funcs[235]? = some Tryz.f235 := by unfold P; exact Tryz.func235
theorem ok_235 : codeOk Tryz.f235.ntmps ((Tryz.f235.body).getD .skip) = true := by kernel_rfl
theorem nm_235 : (Tryz.f235.name == "runtime.NumGoroutine") = false := by kernel_rfl
theorem fn_236 : P.funcs[236]? = some Tryz.f236 := by unfold P; exact Tryz.func236
theorem ok_236 : codeOk Tryz.f236.ntmps ((Tryz.f236.body).getD .skip) = true := by kernel_rfl
theorem nm_236 : (Tryz.f236.name == "runtime.NumGoroutine") = false := by kernel_rfl
theorem fn_237 : P.funcs[237]? = some Tryz.f237 := by unfold P; exact Tryz.func237
theorem ok_237 : codeOk Tryz.f237.ntmps ((Tryz.f237.body).getD .skip) = true := by kernel_rfl
theorem nm_237 : (Tryz.f237.name == "runtime.NumGoroutine") = false := by kernel_rfl
theorem fn_238 : P.funcs[238]? = some Tryz.f238 := by unfold P; exact Tryz.func238
theorem ok_238 : codeOk Tryz.f238.ntmps ((Tryz.f238.body).getD .skip) = true := by kernel_rfl
theorem nm_238 : (Tryz.f238.name == "runtime.NumGoroutine") = false := by kernel_rfl
theorem fn_239 : P.funcs[239]? = some Tryz.f239 := by unfold P; exact Tryz.func239
theorem ok_239 : codeOk Tryz.f239.ntmps ((Tryz.f239.body).getD .skip) = true := by kernel_rfl
theorem nm_239 : (Tryz.f239.name == "runtime.NumGoroutine") = false := by kernel_rfl
theorem fn_242 : P.funcs[242]? = some Tryz.f242 := by unfold P; exact Tryz.func242
theorem ok_242 : codeOk Tryz.f242.ntmps ((Tryz.f242.body).getD .skip) = true := by kernel_rfl
theorem nm_242 : (Tryz.f242.name == "runtime.NumGoroutine") = false := by kernel_rfl
theorem fn_243 : P.funcs[243]? = some Tryz.f243 := by unfold P; exact Tryz.func243
theorem ok_243 : codeOk Tryz.f243.ntmps ((Tryz.f243.body).getD .skip) = true := by kernel_rfl
theorem nm_243 : (Tryz.f243.name == "runtime.NumGoroutine") = false := by kernel_rfl
theorem fn_247 : P.funcs[247]? = some Tryz.f247 := by unfold P; exact Tryz.func247
theorem ok_247 : codeOk Tryz.f247.ntmps ((Tryz.f247.body).getD .skip) = true := by kernel_rfl
theorem nm_247 : (Tryz.f247.name == "runtime.NumGoroutine") = false := by kernel_rfl
theorem fn_248 : P.funcs[248]? = some Tryz.f248 := by unfold P; exact Tryz.func248
theorem ok_248 : codeOk Tryz.f248.ntmps ((Tryz.f248.body).getD .skip) = true := by kernel_rfl
theorem nm_248 : (Tryz.f248.name == "runtime.NumGoroutine") = false := by kernel_rfl
theorem fn_249 : P.funcs[249]? = some Tryz.f249 := by unfold P; exact Tryz.func249
theorem ok_249 : codeOk Tryz.f249.ntmps ((Tryz.f249.body).getD .skip) = true := by kernel_rfl
theorem nm_249 : (Tryz.f249.name == "runtime.NumGoroutine") = false := by kernel_rfl
theorem fn_265 : P.funcs[265]? = some Tryz.f265 := by unfold P; exact Tryz.func265
theorem ok_265 : codeOk Tryz.f265.ntmps ((Tryz.f265.body).getD .skip) = true := by kernel_rfl
theorem nm_265 : (Tryz.f265.name == "runtime.NumGoroutine") = false := by kernel_rfl
end Go.Vc
end

section
/- Blocks of words. -/
set_option linter.unusedSimpArgs false
set_option linter.unusedVariables false
namespace Go.Vc
open Go.Proofs

def vws (l : List Nat) : List Value := l.map vw
theorem vws_get {l : List Nat} {i : Nat} (h : i < l.length) : (vws l)[i]? = some (vw (dg l i)) := by
  simp [vws, dg_lt h]
theorem vws_len (l : List Nat) : (vws l).length = l.length := by simp [vws]
theorem vws_set (l : List Nat) (i x : Nat) : (vws l).set i (vw x) = vws (l.set i x) := by simp [vws, List.map_set]

/-- The block b holds the words l, all of them. -/
structure Wd (w : World) (b : Nat) (l : List Nat) : Prop where
  cl : Cl w b (vws l) 101
  wf : WF l

theorem Wd.fm {S : Nat → Prop} {w w' : World} {b : Nat} {l : List Nat} (h : Wd w b l) (f : Fm S w w') (hs : ¬ S b) : Wd w' b l := ⟨f.obj h.cl hs, h.wf⟩
theorem Wd.lt {w : World} {b : Nat} {l : List Nat} (h : Wd w b l) : b < w.heap.size := lt_of_obj h.cl
theorem Wd.drew {w : World} {b : Nat} {l : List Nat} (h : Wd w b l) : Wd w.drew b l := ⟨h.cl, h.wf⟩

theorem Wd.cell {w : World} {b i : Nat} {l : List Nat} (h : Wd w b l) (hi : i < l.length) : w.cell? ⟨b, i, none⟩ = some (vw (dg l i)) := h.cl.cell (vws_get hi)

theorem Wd.uniq {w : World} {b : Nat} {l l' : List Nat} (h : Wd w b l) (h' : Wd w b l') : l = l' := by
  have e := h.cl.symm.trans h'.cl
  simp only [Option.some.injEq, Obj.cells.injEq, List.toArray_eq_toArray_eq, and_true] at e
  have e2 : vws l = vws l' := by simpa using e
  unfold vws at e2
  exact List.map_inj_right (fun a b e => by simp [vw] at e; omega) |>.1 e2

/-- A store of a word. -/
theorem Wd.st {w : World} {b i : Nat} {l : List Nat} (h : Wd w b l) (hi : i < l.length) {x : Nat} (hx : x < BW) :
    ∃ w', (Instr.storeAt 101 (.pointer (some ⟨b, i, none⟩)) (vw x)).run P w = .ok () w' ∧ Wd w' b (l.set i x) ∧ Fm (· = b) w w' ∧ w'.heap.size = w.heap.size := by
  obtain ⟨w', e, hc, hf, hz⟩ := Vc.st sz_101 h.cl (by rw [vws_len]; exact hi) (v := vw x) rfl
  exact ⟨w', e, ⟨by rw [← vws_set]; exact hc, h.wf.set i hx⟩, hf, hz⟩

/-- Words that are read from the place o of the block b on. -/
structure Rd (w : World) (b o : Nat) (l : List Nat) : Prop where
  all : ∃ full, Wd w b full ∧ o + l.length ≤ full.length ∧ (full.drop o).take l.length = l

theorem Rd.wf {w : World} {b o : Nat} {l : List Nat} (h : Rd w b o l) : WF l := by
  obtain ⟨full, h1, _, h3⟩ := h.all
  rw [← h3]; exact (h1.wf.drop o).take _

theorem Rd.cell {w : World} {b o i : Nat} {l : List Nat} (h : Rd w b o l) (hi : i < l.length) : w.cell? ⟨b, o + i, none⟩ = some (vw (dg l i)) := by
  obtain ⟨full, h1, h2, h3⟩ := h.all
  rw [h1.cell (by omega)]
  have := dg_take (l := full.drop o) hi
  rw [h3, dg_drop] at this
  rw [this]

theorem Rd.fm {S : Nat → Prop} {w w' : World} {b o : Nat} {l : List Nat} (h : Rd w b o l) (f : Fm S w w') (hs : ¬ S b) : Rd w' b o l := by
  obtain ⟨full, h1, h2⟩ := h.all
  exact ⟨full, h1.fm f hs, h2⟩

theorem Rd.drew {w : World} {b o : Nat} {l : List Nat} (h : Rd w b o l) : Rd w.drew b o l := by
  obtain ⟨full, h1, h2⟩ := h.all
  exact ⟨full, h1.drew, h2⟩

theorem Rd.lt {w : World} {b o : Nat} {l : List Nat} (h : Rd w b o l) : b < w.heap.size := h.all.elim fun _ h => h.1.lt

theorem Wd.rd {w : World} {b : Nat} {l : List Nat} (h : Wd w b l) (o n : Nat) (hn : o + n ≤ l.length) : Rd w b o ((l.drop o).take n) := by
  have hl : ((l.drop o).take n).length = n := by simp; omega
  exact ⟨l, h, by rw [hl]; exact hn, by rw [hl]⟩

theorem Rd.sub {w : World} {b o : Nat} {l : List Nat} (h : Rd w b o l) (k n : Nat) (hn : k + n ≤ l.length) : Rd w b (o + k) ((l.drop k).take n) := by
  obtain ⟨full, h1, h2, h3⟩ := h.all
  have hl : ((l.drop k).take n).length = n := by simp; omega
  refine ⟨full, h1, by rw [hl]; omega, ?_⟩
  rw [hl]
  apply list_ext_dg (by simp; omega)
  intro i hi
  simp at hi
  rw [dg_take (by omega), dg_take (by omega), dg_drop, dg_drop]
  rw [← h3, dg_take (by omega), dg_drop]
  congr 1; omega

/-- A slice's value that reads as words. -/
structure Sv (w : World) (a : Option Addr) (l : List Nat) : Prop where
  rd : l ≠ [] → ∃ b o, a = some ⟨b, o, none⟩ ∧ Rd w b o l
  wf : WF l

theorem Sv.of_rd {w : World} {b o : Nat} {l : List Nat} (h : Rd w b o l) : Sv w (some ⟨b, o, none⟩) l := ⟨fun _ => ⟨b, o, rfl, h⟩, h.wf⟩
theorem Sv.nil (w : World) (a : Option Addr) : Sv w a [] := ⟨fun h => absurd rfl h, WF.nil⟩

end Go.Vc
end

section
/- math/bits. -/
set_option linter.unusedSimpArgs false
set_option linter.unusedVariables false
set_option maxRecDepth 4000
namespace Go.Vc
open Go.Proofs

theorem wAdd' {x y : Nat} (h : x + y < 18446744073709551616) : binV .add .u64 .u64 (x : Int) (y : Int) = some (vw (x + y)) := by rw [wAdd, Nat.mod_eq_of_lt h]
theorem wMul' {x y : Nat} (h : x * y < 18446744073709551616) : binV .mul .u64 .u64 (x : Int) (y : Int) = some (vw (x * y)) := by rw [wMul, Nat.mod_eq_of_lt h]
theorem wSub' {x y : Nat} (h : y ≤ x) (hx : x < 18446744073709551616) : binV .sub .u64 .u64 (x : Int) (y : Int) = some (vw (x - y)) := by
  rw [wSub x y (by omega)]; congr 2; omega

theorem und_fn (f : Nat) {fn : Func} (h : Tryz.prog.funcs[f]? = some fn) : P.funcs[f]? = some fn := by unfold P; exact h

theorem add64_c (x y c : Nat) (hc : c ≤ 1) (w : World) : CallX P 49 #[vw x, vw y, vw c] w fun v w' => w = w' ∧ v = .tuple #[vw ((x + y + c) % 18446744073709551616), vw ((x + y + c) / 18446744073709551616)] := by
  refine .inr ⟨_, w, ?_, rfl, rfl⟩
  rw [run_callFunc_extern (und_fn _ Tryz.func49) (by kernel_rfl) (by kernel_rfl) (by kernel_rfl) (e := add64Entry) (by kernel_rfl), run_add64 x y c (by omega) (by omega) (by omega) (by omega)]
  simp only [Result.andThen]
  congr 5

theorem sub64_c (x y b : Nat) (hb : b ≤ 1) (w : World) : CallX P 48 #[vw x, vw y, vw b] w fun v w' => w = w' ∧ v = .tuple #[vw ((x + 18446744073709551616 - y - b) % 18446744073709551616), vw (if x < y + b then 1 else 0)] := by
  refine .inr ⟨_, w, ?_, rfl, rfl⟩
  rw [run_callFunc_extern (und_fn _ Tryz.func48) (by kernel_rfl) (by kernel_rfl) (by kernel_rfl) (e := fun args => do
    let (x, y, b) ← Extern.MathBitsCarry.three "Sub64" args
    pure (Extern.MathBitsCarry.pair ((x + Extern.MathBitsCarry.m64 - y - b) % Extern.MathBitsCarry.m64) (if x < y + b then 1 else 0))) (by kernel_rfl)]
  have : b = 0 ∨ b = 1 := by omega
  rcases this with rfl | rfl <;> rfl

theorem bAdd_c (x y c : Nat) (hc : c ≤ 1) (w : World) : CallX P 108 #[vw x, vw y, vw c] w fun v w' => w = w' ∧ v = .tuple #[vw ((x + y + c) % 18446744073709551616), vw ((x + y + c) / 18446744073709551616)] := by
  refine calls_vc mo fn_108 rfl ok_108 (Nat.le_of_ble_eq_true rfl) nm_108 ?_
  refine ⟨fun hc => (by cases hc), fun _ => ?_⟩
  refine (add64_c x y c hc w).mono ?_
  rintro v w' ⟨rfl, rfl⟩
  refine ⟨rfl, ?_⟩
  exact ⟨rfl, rfl⟩

theorem bSub_c (x y b : Nat) (hb : b ≤ 1) (w : World) : CallX P 110 #[vw x, vw y, vw b] w fun v w' => w = w' ∧ v = .tuple #[vw ((x + 18446744073709551616 - y - b) % 18446744073709551616), vw (if x < y + b then 1 else 0)] := by
  refine calls_vc mo fn_110 rfl ok_110 (Nat.le_of_ble_eq_true rfl) nm_110 ?_
  refine ⟨fun hc => (by cases hc), fun _ => ?_⟩
  refine (sub64_c x y b hb w).mono ?_
  rintro v w' ⟨rfl, rfl⟩
  refine ⟨rfl, ?_⟩
  exact ⟨rfl, rfl⟩

theorem mul_lt_32 {a b : Nat} (ha : a < 4294967296) (hb : b < 4294967296) : a * b ≤ 18446744065119617025 := by
  have := Nat.mul_le_mul (show a ≤ 4294967295 by omega) (show b ≤ 4294967295 by omega)
  omega

theorem and_mask32 (x : Nat) : x &&& 4294967295 = x % 4294967296 := by
  have := Nat.and_two_pow_sub_one_eq_mod x 32
  simpa using this

theorem mul_hi (x y : Nat) : (x / 4294967296) * (y / 4294967296) + ((x / 4294967296) * (y % 4294967296) + (x % 4294967296) * (y % 4294967296) / 4294967296) / 4294967296 +
    (((x / 4294967296) * (y % 4294967296) + (x % 4294967296) * (y % 4294967296) / 4294967296) % 4294967296 + (x % 4294967296) * (y / 4294967296)) / 4294967296 = x * y / 18446744073709551616 := by
  have ex : x = x / 4294967296 * 4294967296 + x % 4294967296 := by omega
  have ey : y = y / 4294967296 * 4294967296 + y % 4294967296 := by omega
  generalize x / 4294967296 = x1 at *
  generalize x % 4294967296 = x0 at *
  generalize y / 4294967296 = y1 at *
  generalize y % 4294967296 = y0 at *
  have : x * y = x1 * y1 * 18446744073709551616 + (x1 * y0 + x0 * y1) * 4294967296 + x0 * y0 := by rw [ex, ey]; grind
  rw [this]
  generalize x1 * y1 = A
  generalize x1 * y0 = B
  generalize x0 * y0 = C
  generalize x0 * y1 = D
  omega

theorem mul64_c (x y : Nat) (hx : x < 18446744073709551616) (hy : y < 18446744073709551616) (w : World) : CallX P 167 #[vw x, vw y] w fun v w' => w = w' ∧
    v = .tuple #[vw (x * y / 18446744073709551616), vw (x * y % 18446744073709551616)] := by
  have hx1 : x / 4294967296 < 4294967296 := by omega
  have hx0 : x % 4294967296 < 4294967296 := by omega
  have hy1 : y / 4294967296 < 4294967296 := by omega
  have hy0 : y % 4294967296 < 4294967296 := by omega
  have p1 := mul_lt_32 hx0 hy0
  have p2 := mul_lt_32 hx1 hy0
  have p3 := mul_lt_32 hx0 hy1
  have p4 := mul_lt_32 hx1 hy1
  have e2 := mul_hi x y
  refine calls_vc mo fn_167 rfl ok_167 (Nat.le_of_ble_eq_true rfl) nm_167 ?_
  have sh : ∀ z, binV .shr .u64 .u64 ((z : Nat) : Int) ((32 : Nat) : Int) = some (vw (z / 4294967296)) := fun z => wShr z 32 _ (by omega)
  have mk : ∀ z : Nat, z < 18446744073709551616 → binV .and .u64 .u64 (z : Int) ((4294967295 : Nat) : Int) = some (vw (z % 4294967296)) := fun z hz => by rw [wAnd z _ hz (by omega), and_mask32]
  refine ⟨_, mk x hx, ?_⟩
  refine ⟨_, sh x, ?_⟩
  refine ⟨_, mk y hy, ?_⟩
  refine ⟨_, sh y, ?_⟩
  refine ⟨_, wMul' (by omega), ?_⟩
  refine ⟨_, wMul' (by omega), ?_⟩
  refine ⟨_, sh _, ?_⟩
  refine ⟨_, wAdd' (by omega), ?_⟩
  refine ⟨_, mk _ (by omega), ?_⟩
  refine ⟨_, sh _, ?_⟩
  refine ⟨_, wMul' (by omega), ?_⟩
  refine ⟨_, wAdd' (by omega), ?_⟩
  refine ⟨_, wMul' (by omega), ?_⟩
  refine ⟨_, wAdd' (by omega), ?_⟩
  refine ⟨_, sh _, ?_⟩
  refine ⟨_, wAdd' (by omega), ?_⟩
  refine ⟨_, wMul x y, ?_⟩
  refine ⟨rfl, ?_⟩
  refine ⟨rfl, ?_⟩
  rw [← e2]
  rfl

theorem bMul_c (x y : Nat) (hx : x < 18446744073709551616) (hy : y < 18446744073709551616) (w : World) : CallX P 145 #[vw x, vw y] w fun v w' => w = w' ∧
    v = .tuple #[vw (x * y / 18446744073709551616), vw (x * y % 18446744073709551616)] := by
  refine calls_vc mo fn_145 rfl ok_145 (Nat.le_of_ble_eq_true rfl) nm_145 ?_
  refine ⟨fun hc => (by cases hc), fun _ => ?_⟩
  refine (mul64_c x y hx hy w).mono ?_
  rintro v w' ⟨rfl, rfl⟩
  refine ⟨rfl, ?_⟩
  exact ⟨rfl, rfl⟩

/-! ### The same, by what they are -/

theorem bAdd_a {x y c : Nat} (hx : x < BW) (hy : y < BW) (hc : c ≤ 1) (w : World) : CallX P 108 #[vw x, vw y, vw c] w fun v w' => w = w' ∧ ∃ s d, v = .tuple #[vw s, vw d] ∧ s < BW ∧ d ≤ 1 ∧ s + BW * d = x + y + c := by
  refine (bAdd_c x y c hc w).mono ?_
  rintro v w' ⟨rfl, rfl⟩
  unfold BW at *
  refine ⟨rfl, _, _, rfl, ?_, ?_, ?_⟩
  · omega
  · omega
  · omega

theorem sub_words {x y b : Nat} (hx : x < BW) (hy : y < BW) (hb : b ≤ 1) : (x + 18446744073709551616 - y - b) % 18446744073709551616 + y + b = x + BW * (if x < y + b then 1 else 0) := by
  unfold BW at *
  split <;> omega

theorem bSub_a {x y b : Nat} (hx : x < BW) (hy : y < BW) (hb : b ≤ 1) (w : World) : CallX P 110 #[vw x, vw y, vw b] w fun v w' => w = w' ∧ ∃ s d, v = .tuple #[vw s, vw d] ∧ s < BW ∧ d ≤ 1 ∧ s + y + b = x + BW * d := by
  refine (bSub_c x y b hb w).mono ?_
  intro v w' h
  have e := sub_words hx hy hb
  have h1 : (x + 18446744073709551616 - y - b) % 18446744073709551616 < BW := Nat.mod_lt _ BW_pos
  have h2 : (if x < y + b then 1 else 0) ≤ 1 := by split <;> omega
  generalize (x + 18446744073709551616 - y - b) % 18446744073709551616 = s at *
  generalize (if x < y + b then 1 else 0) = d at *
  exact ⟨h.1, s, d, h.2, h1, h2, e⟩

theorem mul_words {x y : Nat} (hx : x < BW) (hy : y < BW) : x * y / 18446744073709551616 < BW ∧ x * y % 18446744073709551616 < BW ∧ x * y % 18446744073709551616 + BW * (x * y / 18446744073709551616) = x * y := by
  have hm : x * y ≤ (BW - 1) * (BW - 1) := Nat.mul_le_mul (by omega) (by omega)
  generalize x * y = p at *
  unfold BW at *
  omega

theorem bMul_a {x y : Nat} (hx : x < BW) (hy : y < BW) (w : World) : CallX P 145 #[vw x, vw y] w fun v w' => w = w' ∧ ∃ hi lo, v = .tuple #[vw hi, vw lo] ∧ hi < BW ∧ lo < BW ∧ lo + BW * hi = x * y := by
  refine (bMul_c x y hx hy w).mono ?_
  intro v w' h
  have e := mul_words hx hy
  generalize x * y / 18446744073709551616 = hi at *
  generalize x * y % 18446744073709551616 = lo at *
  exact ⟨h.1, hi, lo, h.2, e.1, e.2.1, e.2.2⟩

end Go.Vc
end

section
/- A row of words of which a part is written anew. -/
set_option linter.unusedSimpArgs false
set_option linter.unusedVariables false
namespace Go.Vc

def splice (Z : List Nat) (o : Nat) (l : List Nat) : List Nat := Z.take o ++ l ++ Z.drop (o + l.length)

theorem splice_len {Z : List Nat} {o : Nat} {l : List Nat} (h : o + l.length ≤ Z.length) : (splice Z o l).length = Z.length := by
  simp [splice]; omega

theorem dg_splice_in {Z : List Nat} {o : Nat} {l : List Nat} (h : o + l.length ≤ Z.length) {i : Nat} (hi : i < l.length) : dg (splice Z o l) (o + i) = dg l i := by
  have h1 : (Z.take o).length = o := by simp; omega
  unfold splice
  rw [dg_append_left (by simp; omega), dg_append_right (by omega), h1]; congr 1; omega

theorem dg_splice_low {Z : List Nat} {o : Nat} {l : List Nat} (h : o + l.length ≤ Z.length) {i : Nat} (hi : i < o) : dg (splice Z o l) i = dg Z i := by
  have h1 : (Z.take o).length = o := by simp; omega
  unfold splice
  rw [List.append_assoc, dg_append_left (by omega), dg_take hi]

theorem dg_splice_high {Z : List Nat} {o : Nat} {l : List Nat} (h : o + l.length ≤ Z.length) {i : Nat} (hi : o + l.length ≤ i) : dg (splice Z o l) i = dg Z i := by
  have h1 : (Z.take o).length = o := by simp; omega
  unfold splice
  rw [dg_append_right (by simp; omega), dg_drop]; congr 1; simp; omega

theorem splice_nil (Z : List Nat) (o : Nat) : splice Z o [] = Z := by simp [splice]

theorem splice_snoc {Z : List Nat} {o : Nat} {l : List Nat} (h : o + l.length < Z.length) (x : Nat) : (splice Z o l).set (o + l.length) x = splice Z o (l ++ [x]) := by
  have h0 : o + l.length ≤ Z.length := by omega
  have h0' : o + (l ++ [x]).length ≤ Z.length := by simp; omega
  apply list_ext_dg (by rw [List.length_set, splice_len h0, splice_len h0'])
  intro i hi
  rw [List.length_set, splice_len h0] at hi
  rcases Nat.lt_trichotomy i (o + l.length) with h1 | h1 | h1
  · rw [dg_set_ne (by omega)]
    rcases Nat.lt_or_ge i o with h2 | h2
    · rw [dg_splice_low h0 h2, dg_splice_low h0' h2]
    · obtain ⟨j, rfl⟩ : ∃ j, i = o + j := ⟨i - o, by omega⟩
      rw [dg_splice_in h0 (by omega), dg_splice_in h0' (by simp; omega), dg_append_left (by omega)]
  · subst h1
    rw [dg_set_eq (by rw [splice_len h0]; omega), dg_splice_in h0' (by simp), dg_append_right (by omega)]; simp [dg]
  · rw [dg_set_ne (by omega), dg_splice_high h0 (by omega), dg_splice_high h0' (by simp; omega)]

theorem splice_mid {Z : List Nat} {o : Nat} {l : List Nat} (h : o + l.length ≤ Z.length) : ((splice Z o l).drop o).take l.length = l := by
  apply list_ext_dg (by simp [splice_len h]; omega)
  intro i hi
  have hi2 : i < l.length := by simp at hi; omega
  rw [dg_take hi2, dg_drop, dg_splice_in h hi2]

theorem WF.splice {Z : List Nat} {o : Nat} {l : List Nat} (h : WF Z) (hl : WF l) : WF (splice Z o l) := ((h.take o).append hl).append (h.drop _)

/-- What is read is not yet written over. -/
theorem rd_after {w u : World} {bz bx oz ox i : Nat} {Z l xs : List Nat} (hx : Rd w bx ox xs) (hZ : Wd w bz Z) (f : Fm (· = bz) w u) (hu : Wd u bz (splice Z oz l))
    (hle : oz + l.length ≤ Z.length) (hc : bx = bz → oz ≤ ox ∨ ox + xs.length ≤ oz) (hi : l.length ≤ i) (hi2 : i < xs.length) : u.cell? ⟨bx, ox + i, none⟩ = some (vw (dg xs i)) := by
  rcases Classical.em (bx = bz) with e | e
  · subst e
    obtain ⟨full, h1, h2, h3⟩ := hx.all
    have := hZ.uniq h1
    subst this
    rw [hu.cell (by rw [splice_len hle]; omega)]
    have h4 : dg xs i = dg Z (ox + i) := by rw [← h3, dg_take hi2, dg_drop]
    rw [h4]
    rcases hc rfl with h | h
    · rw [dg_splice_high hle (by omega)]
    · rw [dg_splice_low hle (by omega)]
  · exact (hx.fm f e).cell hi2

/-- What is read lies outside of what is written. -/
theorem rd_out {w u : World} {bz bx O ox i : Nat} {Z r xs : List Nat} (hx : Rd w bx ox xs) (hZ : Wd w bz Z) (f : Fm (· = bz) w u) (hu : Wd u bz (splice Z O r))
    (hle : O + r.length ≤ Z.length) (hc : bx = bz → ox + i < O ∨ O + r.length ≤ ox + i) (hi2 : i < xs.length) : u.cell? ⟨bx, ox + i, none⟩ = some (vw (dg xs i)) := by
  rcases Classical.em (bx = bz) with e | e
  · subst e
    obtain ⟨full, h1, h2, h3⟩ := hx.all
    have := hZ.uniq h1
    subst this
    rw [hu.cell (by rw [splice_len hle]; omega)]
    have h4 : dg xs i = dg Z (ox + i) := by rw [← h3, dg_take hi2, dg_drop]
    rw [h4]
    rcases hc rfl with h | h
    · rw [dg_splice_low hle h]
    · rw [dg_splice_high hle h]
  · exact (hx.fm f e).cell hi2

theorem splice_cons {Z : List Nat} {o : Nat} {r : List Nat} (h : o + 1 + r.length ≤ Z.length) (x : Nat) : (splice Z (o + 1) r).set o x = splice Z o (x :: r) := by
  have h2 : o + (x :: r).length ≤ Z.length := by simp; omega
  apply list_ext_dg (by rw [List.length_set, splice_len h, splice_len h2])
  intro i hi
  rw [List.length_set, splice_len h] at hi
  rcases Nat.lt_trichotomy i o with h1 | h1 | h1
  · rw [dg_set_ne (by omega), dg_splice_low h (by omega), dg_splice_low h2 h1]
  · subst h1
    rw [dg_set_eq (by rw [splice_len h]; omega)]
    have := dg_splice_in h2 (i := 0) (by simp)
    rw [Nat.add_zero] at this
    rw [this]; rfl
  · rw [dg_set_ne (by omega)]
    rcases Nat.lt_or_ge i (o + 1 + r.length) with h4 | h4
    · obtain ⟨j, rfl⟩ : ∃ j, i = o + 1 + j := ⟨i - (o + 1), by omega⟩
      have := dg_splice_in h2 (i := j + 1) (by simp; omega)
      rw [dg_splice_in h (by omega), show o + 1 + j = o + (j + 1) by omega, this]; rfl
    · rw [dg_splice_high h h4, dg_splice_high h2 (by simp; omega)]

/-- The part that has been written, read. -/
theorem rd_spliced {u : World} {b o : Nat} {Z l : List Nat} (hu : Wd u b (splice Z o l)) (h : o + l.length ≤ Z.length) : Rd u b o l :=
  ⟨_, hu, by rw [splice_len h]; exact h, splice_mid h⟩

theorem splice_append {Z : List Nat} {o : Nat} {l r : List Nat} (h : o + l.length + r.length ≤ Z.length) : splice (splice Z o l) (o + l.length) r = splice Z o (l ++ r) := by
  have h1 : o + l.length ≤ Z.length := by omega
  have h2 : o + l.length + r.length ≤ (splice Z o l).length := by rw [splice_len h1]; exact h
  have h3 : o + (l ++ r).length ≤ Z.length := by rw [List.length_append]; omega
  apply list_ext_dg (by rw [splice_len h2, splice_len h1, splice_len h3])
  intro i hi
  rw [splice_len h2, splice_len h1] at hi
  rcases Nat.lt_or_ge i (o + l.length) with h4 | h4
  · rw [dg_splice_low h2 h4]
    rcases Nat.lt_or_ge i o with h5 | h5
    · rw [dg_splice_low h1 h5, dg_splice_low h3 h5]
    · obtain ⟨j, rfl⟩ : ∃ j, i = o + j := ⟨i - o, by omega⟩
      rw [dg_splice_in h1 (by omega), dg_splice_in h3 (by rw [List.length_append]; omega), dg_append_left (by omega)]
  · rcases Nat.lt_or_ge i (o + l.length + r.length) with h5 | h5
    · obtain ⟨j, rfl⟩ : ∃ j, i = o + l.length + j := ⟨i - (o + l.length), by omega⟩
      rw [dg_splice_in h2 (by omega), show o + l.length + j = o + (l.length + j) by omega, dg_splice_in h3 (by rw [List.length_append]; omega), dg_append_right (by omega)]
      congr 1; omega
    · rw [dg_splice_high h2 h5, dg_splice_high h1 (by omega), dg_splice_high h3 (by rw [List.length_append]; omega)]

/-- What stands there already. -/
theorem splice_self {Z : List Nat} {o : Nat} {l : List Nat} (h : o + l.length ≤ Z.length) (e : (Z.drop o).take l.length = l) : splice Z o l = Z := by
  apply list_ext_dg (splice_len h)
  intro i hi
  rw [splice_len h] at hi
  rcases Nat.lt_or_ge i o with h4 | h4
  · rw [dg_splice_low h h4]
  · rcases Nat.lt_or_ge i (o + l.length) with h5 | h5
    · obtain ⟨j, rfl⟩ : ∃ j, i = o + j := ⟨i - o, by omega⟩
      rw [dg_splice_in h (by omega), ← e, dg_take (by omega), dg_drop]
    · rw [dg_splice_high h h5]

/-- What is read at the very place that is written: the rest stands there. -/
theorem splice_rest {w : World} {b o : Nat} {Z xs l : List Nat} (hZ : Wd w b Z) (hx : Rd w b o xs) (hl : l.length ≤ xs.length) : splice Z o (l ++ xs.drop l.length) = splice Z o l := by
  obtain ⟨full, h1, h2, h3⟩ := hx.all
  have := hZ.uniq h1
  subst this
  have ha : (l ++ xs.drop l.length).length = xs.length := by rw [List.length_append, List.length_drop]; omega
  have h4 : o + (l ++ xs.drop l.length).length ≤ Z.length := by rw [ha]; exact h2
  have h5 : o + l.length ≤ Z.length := by omega
  apply list_ext_dg (by rw [splice_len h4, splice_len h5])
  intro i hi
  rw [splice_len h4] at hi
  rcases Nat.lt_or_ge i o with h6 | h6
  · rw [dg_splice_low h4 h6, dg_splice_low h5 h6]
  · rcases Nat.lt_or_ge i (o + xs.length) with h7 | h7
    · obtain ⟨j, rfl⟩ : ∃ j, i = o + j := ⟨i - o, by omega⟩
      rw [dg_splice_in h4 (by omega)]
      rcases Nat.lt_or_ge j l.length with h8 | h8
      · rw [dg_append_left h8, dg_splice_in h5 h8]
      · rw [dg_append_right h8, dg_drop, dg_splice_high h5 (by omega), show l.length + (j - l.length) = j by omega]
        rw [← h3, dg_take (by omega), dg_drop]
    · rw [dg_splice_high h4 (by omega), dg_splice_high h5 (by omega)]

/-! ### One word more (over any base) -/

theorem stepSub {N B A X Y c r x y q : Nat} (h : A + Y = X + N * c) (e : r + y + c = x + B * q) : A + N * r + (Y + N * y) = X + N * x + N * B * q := by
  have e3 : N * (r + y + c) = N * (x + B * q) := by rw [e]
  simp only [Nat.mul_add, ← Nat.mul_assoc] at e3
  omega

theorem stepAdd {N B A X Y c r x y q : Nat} (h : A + N * c = X + Y) (e : r + B * q = x + y + c) : A + N * r + N * B * q = X + N * x + (Y + N * y) := by
  have e3 : N * (r + B * q) = N * (x + y + c) := by rw [e]
  simp only [Nat.mul_add, ← Nat.mul_assoc] at e3
  omega

theorem stepMul {N B A X y k c r x q : Nat} (h : A + N * c = X * y + k) (e : r + B * q = x * y + c) : A + N * r + N * B * q = (X + N * x) * y + k := by
  have e3 : N * (r + B * q) = N * (x * y + c) := by rw [e]
  simp only [Nat.mul_add, ← Nat.mul_assoc] at e3
  rw [Nat.add_mul]
  omega

theorem stepAddMul {N B A X Y m a c r x y q : Nat} (h : A + N * c = X + Y * m + a) (e : r + B * q = y * m + x + c) : A + N * r + N * B * q = X + N * x + (Y + N * y) * m + a := by
  have e3 : N * (r + B * q) = N * (y * m + x + c) := by rw [e]
  simp only [Nat.mul_add, ← Nat.mul_assoc] at e3
  rw [Nat.add_mul]
  omega

end Go.Vc
end

section
/- norm, addVV, subVV and their kin. -/
set_option linter.unusedSimpArgs false
set_option linter.unusedVariables false
set_option maxRecDepth 4000
namespace Go.Vc
open Go.Proofs

abbrev Post := Value → World → Prop

/-- nat.norm strikes the leading zeros. -/
theorem norm_c {w : World} {a : Option Addr} {l : List Nat} {c : Nat} (h : Sv w a l) (hc : l.length ≤ c) (hb : c < 9223372036854775808) :
    CallX P 47 #[.slice a l.length c] w fun v w' => w = w' ∧ ∃ m, v = .slice a m c ∧ IsN l m := by
  refine calls_vc mo fn_47 rfl ok_47 (Nat.le_of_ble_eq_true rfl) nm_47 ?_
  refine ⟨_, _, ln se_54 _ _ _ _ _ _, ?_⟩
  refine vloop Nat (fun i => ⟨[(0, .slice a l.length c), (3, .int .i64 (i : Int))], []⟩) (fun i u => u = w ∧ i ≤ l.length ∧ ∀ j, i ≤ j → dg l j = 0) (fun i => i) l.length ⟨⟨rfl, rfl, trivial⟩, rfl⟩
    ⟨rfl, Nat.le_refl _, fun j hj => dg_ge hj⟩ ?_
  rintro i u ⟨rfl, hi, hz⟩
  rcases Nat.eq_zero_or_pos i with rfl | hpos
  · refine ⟨_, bGtF (by omega), ?_⟩
    refine ⟨fun hc => (by cases hc), fun _ => ?_⟩
    refine rnA (sl se_54 _ _ (Nat.zero_le _) (Nat.zero_le c)) ?_
    refine ⟨rfl, ?_⟩
    exact ⟨rfl, 0, by rw [subA_zero]; rfl, ⟨Nat.zero_le _, fun j hj => hz j hj, .inl rfl⟩⟩
  · have hne : l ≠ [] := fun e => by rw [e] at hi; simp at hi; omega
    obtain ⟨b, o, rfl, hr⟩ := h.rd hne
    refine ⟨_, bGt (by omega), ?_⟩
    refine ⟨_, nSub i 1 (by omega) (by omega), ?_⟩
    refine rnA (ia se_54 _ (by omega)) ?_
    refine rnC na_101 (hr.cell (by omega)) ?_
    rcases Classical.em (dg l (i - 1) = 0) with h0 | h0
    · refine ⟨_, bEq (by omega), ?_⟩
      refine ⟨fun _ => ?_, fun hc => (by cases hc)⟩
      refine ⟨_, nSub i 1 (by omega) (by omega), ?_⟩
      refine ⟨i - 1, ⟨⟨rfl, rfl, trivial⟩, rfl⟩, ⟨rfl, by omega, fun j hj => ?_⟩, by omega⟩
      rcases Nat.lt_or_ge j i with hj2 | hj2
      · rw [show j = i - 1 by omega]; exact h0
      · exact hz j hj2
    · refine ⟨_, bEqF (by omega), ?_⟩
      refine ⟨fun hc => (by cases hc), fun _ => ?_⟩
      refine rnA (sl se_54 _ _ (Nat.zero_le i) (by omega)) ?_
      refine ⟨rfl, ?_⟩
      exact ⟨rfl, i, by rw [subA_zero]; rfl, ⟨hi, hz, .inr h0⟩⟩


/-- z = x + y, word by word; the carry is handed back. -/
theorem addVV_g_c {w : World} {bz oz cz bx ox cx by_ oy cy : Nat} {Z xs ys : List Nat} (hZ : Wd w bz Z) (hx : Rd w bx ox xs) (hy : Rd w by_ oy ys) (hl : ys.length = xs.length)
    (hz : oz + xs.length ≤ Z.length) (cxx : bx = bz → oz ≤ ox ∨ ox + xs.length ≤ oz) (cyy : by_ = bz → oz ≤ oy ∨ oy + ys.length ≤ oz) (hb : xs.length < 4611686018427387904) :
    CallX P 107 #[.slice (some ⟨bz, oz, none⟩) xs.length cz, .slice (some ⟨bx, ox, none⟩) xs.length cx, .slice (some ⟨by_, oy, none⟩) ys.length cy] w fun v w' =>
      ∃ zs c, v = vw c ∧ c ≤ 1 ∧ zs.length = xs.length ∧ Wd w' bz (splice Z oz zs) ∧ nv zs + BW ^ xs.length * c = nv xs + nv ys ∧ Fm (· = bz) w w' ∧ w'.heap.size = w.heap.size := by
  refine calls_vc mo fn_107 rfl ok_107 (Nat.le_of_ble_eq_true rfl) nm_107 ?_
  refine ⟨_, _, ln se_53 _ _ _ _ _ _, ?_⟩
  refine ⟨_, _, ln se_53 _ _ _ _ _ _, ?_⟩
  refine ⟨_, bNeF rfl, ?_⟩
  refine ⟨_, _, ln se_53 _ _ _ _ _ _, ?_⟩
  refine ⟨_, _, ln se_53 _ _ _ _ _ _, ?_⟩
  refine ⟨_, bNeF (by omega), ?_⟩
  refine ⟨fun hc => (by cases hc), fun _ => ?_⟩
  refine ⟨_, _, ln se_53 _ _ _ _ _ _, ?_⟩
  refine vloop (List Nat × Nat) (fun p => ⟨[(0, .slice (some ⟨bz, oz, none⟩) xs.length cz), (1, .slice (some ⟨bx, ox, none⟩) xs.length cx), (2, .slice (some ⟨by_, oy, none⟩) ys.length cy),
      (6, vw p.2), (24, .int .i64 (xs.length : Int)), (25, .int .i64 (p.1.length : Int))], []⟩)
    (fun p u => p.1.length ≤ xs.length ∧ p.2 ≤ 1 ∧ Wd u bz (splice Z oz p.1) ∧ Fm (· = bz) w u ∧ u.heap.size = w.heap.size ∧
      nv p.1 + BW ^ p.1.length * p.2 = nv (xs.take p.1.length) + nv (ys.take p.1.length)) (fun p => xs.length - p.1.length) ([], 0)
    ⟨⟨rfl, rfl, rfl, rfl, rfl, rfl, trivial⟩, rfl⟩ ⟨Nat.zero_le _, by omega, by rw [splice_nil]; exact hZ, Fm.refl _ _, rfl, by simp [nv]⟩ ?_
  rintro ⟨l, c⟩ u ⟨hlen, hc, hW, hF, hsz, hv⟩
  dsimp only at hlen hc hW hv ⊢
  rcases Nat.lt_or_ge l.length xs.length with hlt | hge
  · refine ⟨_, bLt (by omega), ?_⟩
    refine ⟨fun _ => ?_, fun hc => (by cases hc)⟩
    refine ⟨.take 0 (.take 1 (.take 2 (.take 3 (.take 4 (.take 5 (.take 6 (.take 7 (.take 8 (.one 9 [] (.take 10 (.take 11 (.take 12 (.take 13 (.take 14 (.done))))))))))))))), by kernel_rfl, ?_⟩
    refine tkA (ia se_53 _ hlt) ?_
    refine tkC na_101 (rd_after hx hZ hF.dr hW.drew (by omega) cxx (Nat.le_refl _) hlt) ?_
    refine tkA (ia se_53 _ (by omega)) ?_
    refine tkC na_101 (rd_after hy hZ hF.dr hW.drew (by omega) cyy (Nat.le_refl _) (by omega)) ?_
    refine (bAdd_c _ _ _ hc _).mono ?_
    rintro v1 w1 ⟨rfl, rfl⟩
    refine ⟨trivial, ?_⟩
    refine rnA (ia se_53 _ hlt) ?_
    obtain ⟨w2, e2, hW2, hF2, hz2⟩ := (hW.drew).st (i := oz + l.length) (by rw [splice_len (by omega)]; omega) (x := (dg xs l.length + dg ys l.length + c) % 18446744073709551616) (by unfold BW; omega)
    refine ⟨w2, e2, ?_⟩
    rw [splice_snoc (by omega)] at hW2
    refine ⟨_, nAdd l.length 1 (by omega), ?_⟩
    refine ⟨(l ++ [(dg xs l.length + dg ys l.length + c) % 18446744073709551616], (dg xs l.length + dg ys l.length + c) / 18446744073709551616), ⟨⟨rfl, rfl, rfl, rfl, rfl, by simp; rfl, trivial⟩, rfl⟩, ⟨by simp; omega, ?_, hW2, ?_, by rw [hz2]; exact hsz, ?_⟩, by simp; omega⟩
    · have h1 := hx.wf.dg l.length
      have h2 := hy.wf.dg l.length
      simp only [BW_eq] at h1 h2
      show (dg xs l.length + dg ys l.length + c) / 18446744073709551616 ≤ 1
      omega
    · exact hF.trans hF2.drew' (fun b _ h => h)
    · dsimp only
      rw [List.length_append, nv_append, List.length_singleton, nv_take_succ hlt, nv_take_succ (by omega), Nat.pow_succ]
      simp only [nv, Nat.mul_zero, Nat.add_zero]
      have e := Nat.div_add_mod (dg xs l.length + dg ys l.length + c) BW
      rw [← BW_eq]
      generalize (dg xs l.length + dg ys l.length + c) / BW = q at *
      generalize (dg xs l.length + dg ys l.length + c) % BW = r at *
      have e3 : BW ^ l.length * (BW * q + r) = BW ^ l.length * (dg xs l.length + dg ys l.length + c) := by rw [e]
      grind
  · have hll : l.length = xs.length := by omega
    refine ⟨_, bLtF (by omega), ?_⟩
    refine ⟨fun hc => (by cases hc), fun _ => ?_⟩
    refine ⟨rfl, ?_⟩
    refine ⟨l, c, rfl, hc, hll, hW, ?_, hF, hsz⟩
    rw [hll, List.take_length, ← hl, List.take_length] at hv
    rw [← hl]; exact hv

end Go.Vc
end

section
/- subVV, mulAddVWW, addMulVVWW. -/
set_option linter.unusedSimpArgs false
set_option linter.unusedVariables false
set_option maxRecDepth 4000
namespace Go.Vc
open Go.Proofs


/-- z = x - y, word by word; the borrow is handed back. -/
theorem subVV_g_c {w : World} {bz oz cz bx ox cx by_ oy cy : Nat} {Z xs ys : List Nat} (hZ : Wd w bz Z) (hx : Rd w bx ox xs) (hy : Rd w by_ oy ys) (hl : ys.length = xs.length)
    (hz : oz + xs.length ≤ Z.length) (cxx : bx = bz → oz ≤ ox ∨ ox + xs.length ≤ oz) (cyy : by_ = bz → oz ≤ oy ∨ oy + ys.length ≤ oz) (hb : xs.length < 4611686018427387904) :
    CallX P 109 #[.slice (some ⟨bz, oz, none⟩) xs.length cz, .slice (some ⟨bx, ox, none⟩) xs.length cx, .slice (some ⟨by_, oy, none⟩) ys.length cy] w fun v w' =>
      ∃ zs c, v = vw c ∧ c ≤ 1 ∧ zs.length = xs.length ∧ Wd w' bz (splice Z oz zs) ∧ nv zs + nv ys = nv xs + BW ^ xs.length * c ∧ Fm (· = bz) w w' ∧ w'.heap.size = w.heap.size := by
  refine calls_vc mo fn_109 rfl ok_109 (Nat.le_of_ble_eq_true rfl) nm_109 ?_
  refine ⟨_, _, ln se_53 _ _ _ _ _ _, ?_⟩
  refine ⟨_, _, ln se_53 _ _ _ _ _ _, ?_⟩
  refine ⟨_, bNeF rfl, ?_⟩
  refine ⟨_, _, ln se_53 _ _ _ _ _ _, ?_⟩
  refine ⟨_, _, ln se_53 _ _ _ _ _ _, ?_⟩
  refine ⟨_, bNeF (by omega), ?_⟩
  refine ⟨fun hc => (by cases hc), fun _ => ?_⟩
  refine ⟨_, _, ln se_53 _ _ _ _ _ _, ?_⟩
  refine vloop (List Nat × Nat) (fun p => ⟨[(0, .slice (some ⟨bz, oz, none⟩) xs.length cz), (1, .slice (some ⟨bx, ox, none⟩) xs.length cx), (2, .slice (some ⟨by_, oy, none⟩) ys.length cy),
      (6, vw p.2), (24, .int .i64 (xs.length : Int)), (25, .int .i64 (p.1.length : Int))], []⟩)
    (fun p u => p.1.length ≤ xs.length ∧ p.2 ≤ 1 ∧ Wd u bz (splice Z oz p.1) ∧ Fm (· = bz) w u ∧ u.heap.size = w.heap.size ∧
      nv p.1 + nv (ys.take p.1.length) = nv (xs.take p.1.length) + BW ^ p.1.length * p.2) (fun p => xs.length - p.1.length) ([], 0)
    ⟨⟨rfl, rfl, rfl, rfl, rfl, rfl, trivial⟩, rfl⟩ ⟨Nat.zero_le _, by omega, by rw [splice_nil]; exact hZ, Fm.refl _ _, rfl, by simp [nv]⟩ ?_
  rintro ⟨l, c⟩ u ⟨hlen, hc, hW, hF, hsz, hv⟩
  dsimp only at hlen hc hW hv ⊢
  rcases Nat.lt_or_ge l.length xs.length with hlt | hge
  · refine ⟨_, bLt (by omega), ?_⟩
    refine ⟨fun _ => ?_, fun hc => (by cases hc)⟩
    refine ⟨.take 0 (.take 1 (.take 2 (.take 3 (.take 4 (.take 5 (.take 6 (.take 7 (.take 8 (.one 9 [] (.take 10 (.take 11 (.take 12 (.take 13 (.take 14 (.done))))))))))))))), by kernel_rfl, ?_⟩
    refine tkA (ia se_53 _ hlt) ?_
    refine tkC na_101 (rd_after hx hZ hF.dr hW.drew (by omega) cxx (Nat.le_refl _) hlt) ?_
    refine tkA (ia se_53 _ (by omega)) ?_
    refine tkC na_101 (rd_after hy hZ hF.dr hW.drew (by omega) cyy (Nat.le_refl _) (by omega)) ?_
    have h1 := hx.wf.dg l.length
    have h2 := hy.wf.dg l.length
    refine (bSub_a h1 h2 hc _).mono ?_
    rintro v1 w1 ⟨rfl, r, q, rfl, hr, hq, e⟩
    refine ⟨trivial, ?_⟩
    refine rnA (ia se_53 _ hlt) ?_
    obtain ⟨w2, e2, hW2, hF2, hz2⟩ := (hW.drew).st (i := oz + l.length) (by rw [splice_len (by omega)]; omega) hr
    refine ⟨w2, e2, ?_⟩
    rw [splice_snoc (by omega)] at hW2
    refine ⟨_, nAdd l.length 1 (by omega), ?_⟩
    refine ⟨(l ++ [r], q), ⟨⟨rfl, rfl, rfl, rfl, rfl, by simp; rfl, trivial⟩, rfl⟩, ⟨by simp; omega, hq, hW2, ?_, by rw [hz2]; exact hsz, ?_⟩, by simp; omega⟩
    · exact hF.trans hF2.drew' (fun b _ h => h)
    · dsimp only
      rw [List.length_append, nv_append, List.length_singleton, nv_take_succ hlt, nv_take_succ (by omega), Nat.pow_succ]
      simp only [nv, Nat.mul_zero, Nat.add_zero]
      exact stepSub hv e
  · have hll : l.length = xs.length := by omega
    refine ⟨_, bLtF (by omega), ?_⟩
    refine ⟨fun hc => (by cases hc), fun _ => ?_⟩
    refine ⟨rfl, ?_⟩
    refine ⟨l, c, rfl, hc, hll, hW, ?_, hF, hsz⟩
    rw [hll, List.take_length, ← hl, List.take_length] at hv
    rw [← hl]; exact hv

/-- mulAddWWW_g: x*y + c in two words. -/
theorem mulAddWWW_c {x y c : Nat} (hx : x < BW) (hy : y < BW) (hc : c < BW) (w : World) : CallX P 174 #[vw x, vw y, vw c] w fun v w' => w = w' ∧ ∃ hi lo, v = .tuple #[vw hi, vw lo] ∧ hi < BW ∧ lo < BW ∧ lo + BW * hi = x * y + c := by
  have hm : x * y ≤ (BW - 1) * (BW - 1) := Nat.mul_le_mul (by omega) (by omega)
  generalize hp : x * y = p at hm
  refine calls_vc mo fn_174 rfl ok_174 (Nat.le_of_ble_eq_true rfl) nm_174 ?_
  refine (bMul_a hx hy w).mono ?_
  rintro v1 w1 ⟨rfl, hi, lo, rfl, h1, h2, e⟩
  refine (bAdd_a h2 hc (Nat.zero_le 1) _).mono ?_
  rintro v1 w1 ⟨rfl, s, d, rfl, h3, h4, e2⟩
  rw [hp] at e
  refine ⟨_, wAdd' (by unfold BW at *; omega), ?_⟩
  refine ⟨rfl, ?_⟩
  refine ⟨rfl, hi + d, s, rfl, by unfold BW at *; omega, h3, ?_⟩
  unfold BW at *
  omega

/-- z = x*y + r for a word y. -/
theorem mulAddVWW_g_c {w : World} {bz oz cz bx ox cx y r : Nat} {Z xs : List Nat} (hZ : Wd w bz Z) (hx : Rd w bx ox xs) (hy : y < BW) (hr : r < BW)
    (hz : oz + xs.length ≤ Z.length) (cxx : bx = bz → oz ≤ ox ∨ ox + xs.length ≤ oz) (hb : xs.length < 4611686018427387904) :
    CallX P 159 #[.slice (some ⟨bz, oz, none⟩) xs.length cz, .slice (some ⟨bx, ox, none⟩) xs.length cx, vw y, vw r] w fun v w' =>
      ∃ zs c, v = vw c ∧ c < BW ∧ zs.length = xs.length ∧ Wd w' bz (splice Z oz zs) ∧ nv zs + BW ^ xs.length * c = nv xs * y + r ∧ Fm (· = bz) w w' ∧ w'.heap.size = w.heap.size := by
  refine calls_vc mo fn_159 rfl ok_159 (Nat.le_of_ble_eq_true rfl) nm_159 ?_
  refine ⟨_, _, ln se_53 _ _ _ _ _ _, ?_⟩
  refine ⟨_, _, ln se_53 _ _ _ _ _ _, ?_⟩
  refine ⟨_, bNeF rfl, ?_⟩
  refine ⟨fun hc => (by cases hc), fun _ => ?_⟩
  refine ⟨_, _, ln se_53 _ _ _ _ _ _, ?_⟩
  refine vloop (List Nat × Nat) (fun p => ⟨[(0, .slice (some ⟨bz, oz, none⟩) xs.length cz), (1, .slice (some ⟨bx, ox, none⟩) xs.length cx), (2, vw y),
      (8, vw p.2), (18, .int .i64 (xs.length : Int)), (19, .int .i64 (p.1.length : Int))], []⟩)
    (fun p u => p.1.length ≤ xs.length ∧ p.2 < BW ∧ Wd u bz (splice Z oz p.1) ∧ Fm (· = bz) w u ∧ u.heap.size = w.heap.size ∧
      nv p.1 + BW ^ p.1.length * p.2 = nv (xs.take p.1.length) * y + r) (fun p => xs.length - p.1.length) ([], r)
    ⟨⟨rfl, rfl, rfl, rfl, rfl, rfl, trivial⟩, rfl⟩ ⟨Nat.zero_le _, hr, by rw [splice_nil]; exact hZ, Fm.refl _ _, rfl, by simp [nv]⟩ ?_
  rintro ⟨l, c⟩ u ⟨hlen, hc, hW, hF, hsz, hv⟩
  dsimp only at hlen hc hW hv ⊢
  rcases Nat.lt_or_ge l.length xs.length with hlt | hge
  · refine ⟨_, bLt (by omega), ?_⟩
    refine ⟨fun _ => ?_, fun hc => (by cases hc)⟩
    refine rnA (ia se_53 _ hlt) ?_
    refine rnC na_101 (rd_after hx hZ hF hW (by omega) cxx (Nat.le_refl _) hlt) ?_
    have h1 := hx.wf.dg l.length
    refine (mulAddWWW_c h1 hy hc _).mono ?_
    rintro v1 w1 ⟨rfl, q, r, rfl, hq, hr2, e⟩
    refine rnA (ia se_53 _ hlt) ?_
    obtain ⟨w2, e2, hW2, hF2, hz2⟩ := hW.st (i := oz + l.length) (by rw [splice_len (by omega)]; omega) hr2
    refine ⟨w2, e2, ?_⟩
    rw [splice_snoc (by omega)] at hW2
    refine ⟨_, nAdd l.length 1 (by omega), ?_⟩
    refine ⟨(l ++ [r], q), ⟨⟨rfl, rfl, rfl, rfl, rfl, by simp; rfl, trivial⟩, rfl⟩, ⟨by simp; omega, hq, hW2, hF.trans hF2 (fun b _ h => h), by rw [hz2]; exact hsz, ?_⟩, by simp; omega⟩
    dsimp only
    rw [List.length_append, nv_append, List.length_singleton, nv_take_succ hlt, Nat.pow_succ]
    simp only [nv, Nat.mul_zero, Nat.add_zero]
    exact stepMul hv e
  · have hll : l.length = xs.length := by omega
    refine ⟨_, bLtF (by omega), ?_⟩
    refine ⟨fun hc => (by cases hc), fun _ => ?_⟩
    refine ⟨rfl, ?_⟩
    refine ⟨l, c, rfl, hc, hll, hW, ?_, hF, hsz⟩
    rw [hll, List.take_length] at hv
    exact hv

/-- z = x + y*m + a for words m, a. -/
theorem addMulVVWW_g_c {w : World} {bz oz cz bx ox cx by_ oy cy m a : Nat} {Z xs ys : List Nat} (hZ : Wd w bz Z) (hx : Rd w bx ox xs) (hy : Rd w by_ oy ys) (hl : ys.length = xs.length) (hm : m < BW) (ha : a < BW)
    (hz : oz + xs.length ≤ Z.length) (cxx : bx = bz → oz ≤ ox ∨ ox + xs.length ≤ oz) (cyy : by_ = bz → oz ≤ oy ∨ oy + ys.length ≤ oz) (hb : xs.length < 4611686018427387904) :
    CallX P 168 #[.slice (some ⟨bz, oz, none⟩) xs.length cz, .slice (some ⟨bx, ox, none⟩) xs.length cx, .slice (some ⟨by_, oy, none⟩) ys.length cy, vw m, vw a] w fun v w' =>
      ∃ zs c, v = vw c ∧ c < BW ∧ zs.length = xs.length ∧ Wd w' bz (splice Z oz zs) ∧ nv zs + BW ^ xs.length * c = nv xs + nv ys * m + a ∧ Fm (· = bz) w w' ∧ w'.heap.size = w.heap.size := by
  refine calls_vc mo fn_168 rfl ok_168 (Nat.le_of_ble_eq_true rfl) nm_168 ?_
  refine ⟨_, _, ln se_53 _ _ _ _ _ _, ?_⟩
  refine ⟨_, _, ln se_53 _ _ _ _ _ _, ?_⟩
  refine ⟨_, bNeF rfl, ?_⟩
  refine ⟨_, _, ln se_53 _ _ _ _ _ _, ?_⟩
  refine ⟨_, _, ln se_53 _ _ _ _ _ _, ?_⟩
  refine ⟨_, bNeF (by omega), ?_⟩
  refine ⟨fun hc => (by cases hc), fun _ => ?_⟩
  refine ⟨_, _, ln se_53 _ _ _ _ _ _, ?_⟩
  refine vloop (List Nat × Nat) (fun p => ⟨[(0, .slice (some ⟨bz, oz, none⟩) xs.length cz), (1, .slice (some ⟨bx, ox, none⟩) xs.length cx), (2, .slice (some ⟨by_, oy, none⟩) ys.length cy), (3, vw m),
      (10, vw p.2), (31, .int .i64 (xs.length : Int)), (32, .int .i64 (p.1.length : Int))], []⟩)
    (fun p u => p.1.length ≤ xs.length ∧ p.2 < BW ∧ Wd u bz (splice Z oz p.1) ∧ Fm (· = bz) w u ∧ u.heap.size = w.heap.size ∧
      nv p.1 + BW ^ p.1.length * p.2 = nv (xs.take p.1.length) + nv (ys.take p.1.length) * m + a) (fun p => xs.length - p.1.length) ([], a)
    ⟨⟨rfl, rfl, rfl, rfl, rfl, rfl, rfl, trivial⟩, rfl⟩ ⟨Nat.zero_le _, ha, by rw [splice_nil]; exact hZ, Fm.refl _ _, rfl, by simp [nv]⟩ ?_
  rintro ⟨l, c⟩ u ⟨hlen, hc, hW, hF, hsz, hv⟩
  dsimp only at hlen hc hW hv ⊢
  rcases Nat.lt_or_ge l.length xs.length with hlt | hge
  · refine ⟨_, bLt (by omega), ?_⟩
    refine ⟨fun _ => ?_, fun hc => (by cases hc)⟩
    refine ⟨.take 0 (.take 1 (.take 2 (.take 3 (.take 4 (.take 5 (.take 6 (.take 7 (.take 8 (.one 9 [] (.take 10 (.take 11 (.take 12 (.take 13 (.take 14 (.done))))))))))))))), by kernel_rfl, ?_⟩
    refine tkA (ia se_53 _ (by omega)) ?_
    refine tkC na_101 (rd_after hy hZ hF.dr hW.drew (by omega) cyy (Nat.le_refl _) (by omega)) ?_
    refine tkA (ia se_53 _ hlt) ?_
    refine tkC na_101 (rd_after hx hZ hF.dr hW.drew (by omega) cxx (Nat.le_refl _) hlt) ?_
    have h1 := hx.wf.dg l.length
    have h2 := hy.wf.dg l.length
    refine (mulAddWWW_c h2 hm h1 _).mono ?_
    rintro v1 w1 ⟨rfl, hi, lo, rfl, hhi, hlo, e⟩
    refine ⟨trivial, ?_⟩
    refine (bAdd_a hlo hc (Nat.zero_le 1) _).mono ?_
    rintro v1 w1 ⟨rfl, s, d, rfl, hs, hd, e1⟩
    refine rnA (ia se_53 _ hlt) ?_
    obtain ⟨w2, e2, hW2, hF2, hz2⟩ := (hW.drew).st (i := oz + l.length) (by rw [splice_len (by omega)]; omega) hs
    refine ⟨w2, e2, ?_⟩
    rw [splice_snoc (by omega)] at hW2
    have hmm : dg ys l.length * m ≤ (BW - 1) * (BW - 1) := Nat.mul_le_mul (by omega) (by omega)
    have hb2 : d + hi < BW := by
      generalize dg ys l.length * m = p at *
      unfold BW at *; omega
    refine ⟨_, wAdd' hb2, ?_⟩
    refine ⟨_, nAdd l.length 1 (by omega), ?_⟩
    refine ⟨(l ++ [s], d + hi), ⟨⟨rfl, rfl, rfl, rfl, rfl, rfl, by simp; rfl, trivial⟩, rfl⟩, ⟨by simp; omega, hb2, hW2, hF.trans hF2.drew' (fun b _ h => h), by rw [hz2]; exact hsz, ?_⟩, by simp; omega⟩
    dsimp only
    rw [List.length_append, nv_append, List.length_singleton, nv_take_succ hlt, nv_take_succ (by omega), Nat.pow_succ]
    simp only [nv, Nat.mul_zero, Nat.add_zero]
    have e4 : s + BW * (d + hi) = dg ys l.length * m + dg xs l.length + c := by rw [Nat.mul_add]; omega
    exact stepAddMul hv e4
  · have hll : l.length = xs.length := by omega
    refine ⟨_, bLtF (by omega), ?_⟩
    refine ⟨fun hc => (by cases hc), fun _ => ?_⟩
    refine ⟨rfl, ?_⟩
    refine ⟨l, c, rfl, hc, hll, hW, ?_, hF, hsz⟩
    rw [hll, List.take_length, ← hl, List.take_length] at hv
    rw [← hl]; exact hv

end Go.Vc
end

section
/- The built-in copy and clear over words, and pointers held against one another. -/
set_option linter.unusedSimpArgs false
set_option linter.unusedVariables false
namespace Go.Vc
open Go.Proofs

theorem setCells_fm (b : Nat) : ∀ (vs : List Value) (o : Nat) (w : World), Fm (· = b) w (w.setCells b o vs)
  | [], _, w => Fm.refl _ w
  | v :: r, o, w => (setCell_fm w b o v).trans (setCells_fm b r (o + 1) _) (fun _ _ h => h)

theorem setCells_size (b : Nat) : ∀ (vs : List Value) (o : Nat) (w : World), (w.setCells b o vs).heap.size = w.heap.size
  | [], _, w => rfl
  | v :: r, o, w => by rw [World.setCells, setCells_size b r]; simp

theorem Wd.setCells {b : Nat} : ∀ {l : List Nat} {o : Nat} {w : World} {Z : List Nat}, Wd w b Z → WF l → o + l.length ≤ Z.length → Wd (w.setCells b o (vws l)) b (splice Z o l)
  | [], o, w, Z, h, _, _ => by rw [splice_nil]; exact h
  | x :: r, o, w, Z, h, hl, hz => by
    have hz' : o + (r.length + 1) ≤ Z.length := by simpa using hz
    have h1 : Wd (w.setCell ⟨b, o, none⟩ (vw x)) b (Z.set o x) := ⟨by rw [← vws_set]; exact setCell_row h.cl _, h.wf.set _ hl.head⟩
    have h2 := Wd.setCells (l := r) (o := o + 1) h1 hl.tail (by rw [List.length_set]; omega)
    have e : splice (Z.set o x) (o + 1) r = splice Z o (x :: r) := by
      apply list_ext_dg (by rw [splice_len (by rw [List.length_set]; omega), splice_len hz, List.length_set])
      intro i hi
      rw [splice_len (by rw [List.length_set]; omega), List.length_set] at hi
      rcases Nat.lt_trichotomy i o with h3 | h3 | h3
      · rw [dg_splice_low (by rw [List.length_set]; omega) (by omega), dg_splice_low hz h3, dg_set_ne (by omega)]
      · subst h3
        rw [dg_splice_low (by rw [List.length_set]; omega) (by omega), dg_set_eq (by omega)]
        have := dg_splice_in hz (i := 0) (by simp)
        rw [Nat.add_zero] at this
        rw [this]; rfl
      · rcases Nat.lt_or_ge i (o + 1 + r.length) with h4 | h4
        · obtain ⟨j, rfl⟩ : ∃ j, i = o + 1 + j := ⟨i - (o + 1), by omega⟩
          rw [dg_splice_in (by rw [List.length_set]; omega) (by omega)]
          have := dg_splice_in hz (i := j + 1) (by simp; omega)
          rw [show o + 1 + j = o + (j + 1) by omega, this]; rfl
        · rw [dg_splice_high (by rw [List.length_set]; omega) (by omega), dg_set_ne (by omega), dg_splice_high hz (by simp; omega)]
    rw [← e]; exact h2

theorem slElem_info {t e : TypeId} (h : slElem t = some e) : P.underlying t = some (.slice e) ∧ (P.info? e).map (·.size) = some 1 := slElem_spec h

theorem oneCell_vws (l : List Nat) : ∀ v ∈ vws l, v.oneCell' = true := by
  intro v hv
  obtain ⟨x, _, rfl⟩ := List.mem_map.1 hv
  rfl

/-- copy: m words, no more than either holds. -/
theorem cpy {t e : TypeId} (h : slElem t = some e) {w : World} {bz oz bx ox dn dc sn sc : Nat} {Z xs : List Nat} (hZ : Wd w bz Z) (hx : Rd w bx ox xs) (hn : xs.length = min sn dn) (hz : oz + xs.length ≤ Z.length)
    (t' ty : TypeId) (cs : Array Bool) :
    ∃ w', (builtin .copy #[t, t'] ty cs #[.slice (some ⟨bz, oz, none⟩) dn dc, .slice (some ⟨bx, ox, none⟩) sn sc]).run P w = .ok (.value (.int .i64 (xs.length : Int))) w' ∧ Wd w' bz (splice Z oz xs) ∧ Fm (· = bz) w w' ∧ w'.heap.size = w.heap.size := by
  obtain ⟨hu, hs⟩ := slElem_info h
  refine ⟨w.setCells bz oz (vws xs), ?_, hZ.setCells hx.wf hz, setCells_fm _ _ _ _, setCells_size _ _ _ _⟩
  have := run_copy_cells (P := P) w t t' ty e bz oz dn dc ⟨bx, ox, none⟩ sn sc (vws xs) hu hs (by rw [vws_len]; exact hn) (by
    intro j v hj
    have hj2 : j < xs.length := by
      have := (List.getElem?_eq_some_iff.1 hj).1
      rwa [vws_len] at this
    rw [vws_get hj2] at hj
    cases hj
    rw [addr_add]
    exact hx.cell hj2) (by
    intro j hj
    rw [vws_len] at hj
    rw [hZ.cell (by omega)]; rfl) (fun j _ => hZ.cl.free) (oneCell_vws _)
  simp only [builtin, Sem.run_bind, this, Result.andThen_ok, vws_len]
  rfl

/-- copy of nothing. -/
theorem cpy0 {t e : TypeId} (h : slElem t = some e) {d a : Option Addr} {dn dc sn sc : Nat} (hn : min sn dn = 0) (t' ty : TypeId) (cs : Array Bool) (w : World) :
    (builtin .copy #[t, t'] ty cs #[.slice d dn dc, .slice a sn sc]).run P w = .ok (.value (.int .i64 0)) w := by
  obtain ⟨hu, hs⟩ := slElem_info h
  have := run_copy_none (P := P) w t t' ty e d a dn dc sn sc hu hs hn
  simp only [builtin, Sem.run_bind, this, Result.andThen_ok]
  rfl

/-- clear of words. -/
theorem clr {t e : TypeId} (h : slElem t = some e) (hzv : zeroOf e = some (vw 0)) {w : World} {bz oz n c : Nat} {Z : List Nat} (hZ : Wd w bz Z) (hz : oz + n ≤ Z.length) (ty : TypeId) (cs : Array Bool) :
    ∃ v w', (builtin .clear #[t] ty cs #[.slice (some ⟨bz, oz, none⟩) n c]).run P w = .ok (.value v) w' ∧ Wd w' bz (splice Z oz (List.replicate n 0)) ∧ Fm (· = bz) w w' ∧ w'.heap.size = w.heap.size := by
  obtain ⟨hu, hs⟩ := slElem_info h
  rcases Nat.eq_zero_or_pos n with rfl | hn
  · refine ⟨.tuple #[], w, ?_, by rw [List.replicate_zero, splice_nil]; exact hZ, Fm.refl _ _, rfl⟩
    simp [builtin, Builtin.clear_, run_und hu, zeroValue_run hzv, Builtin.zeroCells, storeCells, vw, Value.cells]
  · have := Lib.run_clear_slice (P := P) w t e ty (vw 0) hu (fun w => zeroValue_run hzv w) rfl rfl bz oz n c hn (by
      intro j hj
      rw [hZ.cell (by omega)]; rfl) (fun j _ => hZ.cl.free)
    have e : List.replicate n (vw 0) = vws (List.replicate n 0) := by simp [vws]
    rw [e] at this
    refine ⟨.tuple #[], _, ?_, hZ.setCells (WF.replicate n BW_pos) (by simpa using hz), setCells_fm _ _ _ _, setCells_size _ _ _ _⟩
    simp only [builtin, Sem.run_bind, this, Result.andThen_ok]
    rfl

theorem clr0 {t e : TypeId} (h : slElem t = some e) {z : Value} (hzv : zeroOf e = some z) {a : Option Addr} {c : Nat} (ty : TypeId) (cs : Array Bool) (w : World) :
    (builtin .clear #[t] ty cs #[.slice a 0 c]).run P w = .ok (.value (.tuple #[])) w := by
  obtain ⟨hu, hs⟩ := slElem_info h
  cases a <;> simp [builtin, Builtin.clear_, run_und hu, zeroValue_run hzv, Builtin.zeroCells, storeCells]

/-! ### Pointers -/

noncomputable def ptOk (t : TypeId) : Bool := match P.underlying t with
  | some (.pointer e) => match szOf e with
    | some (_ + 1) => true
    | _ => false
  | _ => false

def Live (w : World) (b : Nat) : Prop := ∃ cs T, w.heap[b]? = some (.cells cs T (0, 0))
theorem Wd.live {w : World} {b : Nat} {l : List Nat} (h : Wd w b l) : Live w b := ⟨_, _, h.cl⟩
theorem Rd.live {w : World} {b o : Nat} {l : List Nat} (h : Rd w b o l) : Live w b := h.all.elim fun _ h => h.1.live
theorem Cl.live {w : World} {b : Nat} {cs : List Value} {T : TypeId} (h : Cl w b cs T) : Live w b := ⟨_, _, h⟩

theorem eqIn_ptr (d : Nat) {t : TypeId} (h : ptOk t = true) {w : World} {a b : Addr} (ha : Live w a.block) (hb : Live w b.block) : (Op.equalIn (d + 1) t (.pointer (some a)) (.pointer (some b))).run P w = .ok (decide (a = b)) w := by
  unfold ptOk at h
  split at h
  · rename_i e hu
    split at h
    · rename_i n hs
      have hsame : (sameAddr a b).run P w = .ok (decide (a = b)) w := by
        rcases Classical.em (a = b) with e1 | e1
        · subst e1; rw [run_sameAddr_same]; simp
        · obtain ⟨ca, ta, h1⟩ := ha
          obtain ⟨cb, tb, h2⟩ := hb
          rw [run_sameAddr_other w e1 h1 h2]; simp [e1]
      simp only [Op.equalIn, Sem.run_bind, run_und hu, Result.andThen_ok, sizeOf_run hs]
      simp [hsame]
    · cases h
  · cases h

theorem eq_ptr {t : TypeId} (h : ptOk t = true) {w : World} {a b : Addr} (ha : Live w a.block) (hb : Live w b.block) : (Op.equal t (.pointer (some a)) (.pointer (some b))).run P w = .ok (decide (a = b)) w := eqIn_ptr 9999 h ha hb

theorem pE {t : TypeId} (h : ptOk t = true) {w : World} {a b : Addr} (ha : Live w a.block) (hb : Live w b.block) (x y : Operand) :
    (do eqGuard .eql t x y (.pointer (some a)) (.pointer (some b)); binOp .eql t (.pointer (some a)) (.pointer (some b)) : Sem Value).run P w = .ok (.bool (decide (a = b))) w := by
  simp [binOp, eqGuard, eq_ptr h ha hb]

theorem pN {t : TypeId} (h : ptOk t = true) {w : World} {a b : Addr} (ha : Live w a.block) (hb : Live w b.block) (x y : Operand) :
    (do eqGuard .neq t x y (.pointer (some a)) (.pointer (some b)); binOp .neq t (.pointer (some a)) (.pointer (some b)) : Sem Value).run P w = .ok (.bool (!decide (a = b))) w := by
  simp [binOp, eqGuard, eq_ptr h ha hb]

end Go.Vc
end

section
/- The vector operations by their Go names; addVW, subVW; the shifts. -/
set_option linter.unusedSimpArgs false
set_option linter.unusedVariables false
set_option maxRecDepth 4000
namespace Go.Vc
open Go.Proofs

theorem addVV_c {w : World} {bz oz cz bx ox cx by_ oy cy : Nat} {Z xs ys : List Nat} (hZ : Wd w bz Z) (hx : Rd w bx ox xs) (hy : Rd w by_ oy ys) (hl : ys.length = xs.length)
    (hz : oz + xs.length ≤ Z.length) (cxx : bx = bz → oz ≤ ox ∨ ox + xs.length ≤ oz) (cyy : by_ = bz → oz ≤ oy ∨ oy + ys.length ≤ oz) (hb : xs.length < 4611686018427387904) :
    CallX P 91 #[.slice (some ⟨bz, oz, none⟩) xs.length cz, .slice (some ⟨bx, ox, none⟩) xs.length cx, .slice (some ⟨by_, oy, none⟩) ys.length cy] w fun v w' =>
      ∃ zs c, v = vw c ∧ c ≤ 1 ∧ zs.length = xs.length ∧ Wd w' bz (splice Z oz zs) ∧ nv zs + BW ^ xs.length * c = nv xs + nv ys ∧ Fm (· = bz) w w' ∧ w'.heap.size = w.heap.size := by
  refine calls_vc mo fn_91 rfl ok_91 (Nat.le_of_ble_eq_true rfl) nm_91 ?_
  refine (addVV_g_c hZ hx hy hl hz cxx cyy hb).mono ?_
  rintro v1 w1 h
  exact ⟨rfl, h⟩

theorem subVV_c {w : World} {bz oz cz bx ox cx by_ oy cy : Nat} {Z xs ys : List Nat} (hZ : Wd w bz Z) (hx : Rd w bx ox xs) (hy : Rd w by_ oy ys) (hl : ys.length = xs.length)
    (hz : oz + xs.length ≤ Z.length) (cxx : bx = bz → oz ≤ ox ∨ ox + xs.length ≤ oz) (cyy : by_ = bz → oz ≤ oy ∨ oy + ys.length ≤ oz) (hb : xs.length < 4611686018427387904) :
    CallX P 93 #[.slice (some ⟨bz, oz, none⟩) xs.length cz, .slice (some ⟨bx, ox, none⟩) xs.length cx, .slice (some ⟨by_, oy, none⟩) ys.length cy] w fun v w' =>
      ∃ zs c, v = vw c ∧ c ≤ 1 ∧ zs.length = xs.length ∧ Wd w' bz (splice Z oz zs) ∧ nv zs + nv ys = nv xs + BW ^ xs.length * c ∧ Fm (· = bz) w w' ∧ w'.heap.size = w.heap.size := by
  refine calls_vc mo fn_93 rfl ok_93 (Nat.le_of_ble_eq_true rfl) nm_93 ?_
  refine (subVV_g_c hZ hx hy hl hz cxx cyy hb).mono ?_
  rintro v1 w1 h
  exact ⟨rfl, h⟩

theorem mulAddVWW_c {w : World} {bz oz cz bx ox cx y r : Nat} {Z xs : List Nat} (hZ : Wd w bz Z) (hx : Rd w bx ox xs) (hy : y < BW) (hr : r < BW)
    (hz : oz + xs.length ≤ Z.length) (cxx : bx = bz → oz ≤ ox ∨ ox + xs.length ≤ oz) (hb : xs.length < 4611686018427387904) :
    CallX P 137 #[.slice (some ⟨bz, oz, none⟩) xs.length cz, .slice (some ⟨bx, ox, none⟩) xs.length cx, vw y, vw r] w fun v w' =>
      ∃ zs c, v = vw c ∧ c < BW ∧ zs.length = xs.length ∧ Wd w' bz (splice Z oz zs) ∧ nv zs + BW ^ xs.length * c = nv xs * y + r ∧ Fm (· = bz) w w' ∧ w'.heap.size = w.heap.size := by
  refine calls_vc mo fn_137 rfl ok_137 (Nat.le_of_ble_eq_true rfl) nm_137 ?_
  refine (mulAddVWW_g_c hZ hx hy hr hz cxx hb).mono ?_
  rintro v1 w1 h
  exact ⟨rfl, h⟩

theorem addMulVVWW_c {w : World} {bz oz cz bx ox cx by_ oy cy m a : Nat} {Z xs ys : List Nat} (hZ : Wd w bz Z) (hx : Rd w bx ox xs) (hy : Rd w by_ oy ys) (hl : ys.length = xs.length) (hm : m < BW) (ha : a < BW)
    (hz : oz + xs.length ≤ Z.length) (cxx : bx = bz → oz ≤ ox ∨ ox + xs.length ≤ oz) (cyy : by_ = bz → oz ≤ oy ∨ oy + ys.length ≤ oz) (hb : xs.length < 4611686018427387904) :
    CallX P 146 #[.slice (some ⟨bz, oz, none⟩) xs.length cz, .slice (some ⟨bx, ox, none⟩) xs.length cx, .slice (some ⟨by_, oy, none⟩) ys.length cy, vw m, vw a] w fun v w' =>
      ∃ zs c, v = vw c ∧ c < BW ∧ zs.length = xs.length ∧ Wd w' bz (splice Z oz zs) ∧ nv zs + BW ^ xs.length * c = nv xs + nv ys * m + a ∧ Fm (· = bz) w w' ∧ w'.heap.size = w.heap.size := by
  refine calls_vc mo fn_146 rfl ok_146 (Nat.le_of_ble_eq_true rfl) nm_146 ?_
  refine (addMulVVWW_g_c hZ hx hy hl hm ha hz cxx cyy hb).mono ?_
  rintro v1 w1 h
  exact ⟨rfl, h⟩

theorem nv_rest {N X A Y c : Nat} {l xs : List Nat} (hl : l.length ≤ xs.length) (h : nv l = nv (xs.take l.length) + Y) : nv (l ++ xs.drop l.length) = nv xs + Y := by
  rw [nv_append]
  have := nv_split xs l.length
  rw [Nat.min_eq_left hl] at this
  omega

theorem nv_rest2 {y : Nat} {l xs : List Nat} (hl : l.length ≤ xs.length) (h : nv l + y = nv (xs.take l.length)) : nv (l ++ xs.drop l.length) + y = nv xs := by
  rw [nv_append]
  have := nv_split xs l.length
  rw [Nat.min_eq_left hl] at this
  omega

/-- z = x + y, the carry handed back. -/
theorem addVW_c {w : World} {bz oz cz bx ox cx y : Nat} {Z xs : List Nat} (hZ : Wd w bz Z) (hx : Rd w bx ox xs) (hy : y < BW) (hn : 0 < xs.length)
    (hz : oz + xs.length ≤ Z.length) (cxx : bx = bz → ox = oz) (hb : xs.length < 4611686018427387904) (hcz : xs.length ≤ cz) (hcx : xs.length ≤ cx) :
    CallX P 92 #[.slice (some ⟨bz, oz, none⟩) xs.length cz, .slice (some ⟨bx, ox, none⟩) xs.length cx, vw y] w fun v w' =>
      ∃ zs c, v = vw c ∧ c ≤ 1 ∧ zs.length = xs.length ∧ Wd w' bz (splice Z oz zs) ∧ nv zs + BW ^ xs.length * c = nv xs + y ∧ Fm (· = bz) w w' ∧ w'.heap.size = w.heap.size := by
  have cxx' : bx = bz → oz ≤ ox ∨ ox + xs.length ≤ oz := fun e => .inl (by rw [cxx e]; exact Nat.le_refl _)
  refine calls_vc mo fn_92 rfl ok_92 (Nat.le_of_ble_eq_true rfl) nm_92 ?_
  refine ⟨_, _, ln se_53 _ _ _ _ _ _, ?_⟩
  refine ⟨_, _, ln se_53 _ _ _ _ _ _, ?_⟩
  refine ⟨_, bNeF rfl, ?_⟩
  refine ⟨fun hc => (by cases hc), fun _ => ?_⟩
  refine ⟨_, _, ln se_53 _ _ _ _ _ _, ?_⟩
  refine ⟨_, bEqF (by omega), ?_⟩
  refine ⟨fun hc => (by cases hc), fun _ => ?_⟩
  refine rnA (ia se_53 _ hn) ?_
  refine rnC na_101 (hx.cell hn) ?_
  refine (bAdd_a (hx.wf.dg 0) hy (Nat.zero_le 1) _).mono ?_
  rintro v1 w1 ⟨rfl, s, d, rfl, hs, hd, e1⟩
  refine rnA (ia se_53 _ hn) ?_
  obtain ⟨w2, e2, hW2, hF2, hz2⟩ := hZ.st (i := oz + 0) (by omega) hs
  refine ⟨w2, e2, ?_⟩
  have hset : Z.set (oz + 0) s = splice Z oz [s] := by
    have := splice_snoc (Z := Z) (o := oz) (l := []) (by simp; omega) s
    rw [splice_nil] at this; exact this
  rw [hset] at hW2
  have hlz : Live w2 bz := hW2.live
  have hlx : Live w2 bx := by
    rcases Classical.em (bx = bz) with e | e
    · rw [e]; exact hlz
    · exact (hx.fm hF2 e).live
  have hx0 : nv [s] + BW ^ 1 * d = nv (xs.take 1) + y := by
    have := nv_take_succ (l := xs) (i := 0) hn
    rw [this]; simp [nv]; omega
  -- what is left to do when no carry goes on
  have fin : ∀ (u : World) (l : List Nat), 0 < l.length → l.length ≤ xs.length → Wd u bz (splice Z oz l) → Fm (· = bz) w u → u.heap.size = w.heap.size → nv l = nv (xs.take l.length) + y →
      (bx = bz → ∃ zs c, vw 0 = vw c ∧ c ≤ 1 ∧ zs.length = xs.length ∧ Wd u bz (splice Z oz zs) ∧ nv zs + BW ^ xs.length * c = nv xs + y ∧ Fm (· = bz) w u ∧ u.heap.size = w.heap.size) ∧
      (bx ≠ bz → ∀ t' ty cs, ∃ w', (builtin .copy #[53, t'] ty cs #[.slice (subA (some ⟨bz, oz, none⟩) l.length cz) (xs.length - l.length) (cz - l.length), .slice (subA (some ⟨bx, ox, none⟩) l.length cx) (xs.length - l.length) (cx - l.length)]).run P u
          = .ok (.value (.int .i64 ((xs.length - l.length : Nat) : Int))) w' ∧ ∃ zs c, vw 0 = vw c ∧ c ≤ 1 ∧ zs.length = xs.length ∧ Wd w' bz (splice Z oz zs) ∧ nv zs + BW ^ xs.length * c = nv xs + y ∧ Fm (· = bz) w w' ∧ w'.heap.size = w.heap.size) := by
    intro u l h0 hl hW hF hsz hv
    have hlen : (l ++ xs.drop l.length).length = xs.length := by rw [List.length_append, List.length_drop]; omega
    have hval := nv_rest (N := 0) (X := 0) (A := 0) (c := 0) hl hv
    refine ⟨fun e => ⟨l ++ xs.drop l.length, 0, rfl, by omega, hlen, ?_, by omega, hF, hsz⟩, fun e t' ty cs => ?_⟩
    · subst e
      have := cxx rfl
      subst this
      rw [splice_rest hZ hx hl]; exact hW
    · rcases Nat.lt_or_ge l.length xs.length with h1 | h1
      · rw [subA_some (by omega), subA_some (by omega)]
        have hr := (hx.fm hF e).sub l.length (xs.length - l.length) (by omega)
        have hd : (xs.drop l.length).take (xs.length - l.length) = xs.drop l.length := by rw [List.take_of_length_le]; rw [List.length_drop]; exact Nat.le_refl _
        rw [hd] at hr
        obtain ⟨w', e', hW', hF', hs'⟩ := cpy se_53 (oz := oz + l.length) (bx := bx) (ox := ox + l.length) (dn := xs.length - l.length) (sn := xs.length - l.length) (dc := cz - l.length) (sc := cx - l.length) hW hr (by rw [List.length_drop]; omega) (by rw [List.length_drop, splice_len (Z := Z) (o := oz) (l := l) (by omega)]; omega) t' ty cs
        rw [List.length_drop] at e'
        refine ⟨w', e', l ++ xs.drop l.length, 0, rfl, by omega, hlen, ?_, by omega, hF.trans hF' (fun _ _ h => h), by omega⟩
        have e5 := splice_append (Z := Z) (o := oz) (l := l) (r := xs.drop l.length) (by rw [List.length_drop]; omega)
        rw [← e5]; exact hW'
      · have h2 : xs.length - l.length = 0 := by omega
        rw [h2]
        refine ⟨u, cpy0 se_53 (by simp) t' ty cs u, l ++ xs.drop l.length, 0, rfl, by omega, hlen, ?_, by omega, hF, hsz⟩
        rw [List.drop_eq_nil_of_le h1, List.append_nil]; exact hW
  rcases Nat.eq_zero_or_pos d with rfl | hdp
  · refine ⟨_, bEq (by omega), ?_⟩
    refine ⟨fun _ => ?_, fun hc => (by cases hc)⟩
    have f1 := (fin w2.drew [s] (by simp) (by simp; omega) hW2.drew hF2.dr hz2 (by simpa using hx0)).1
    have f2 := (fin w2.drew.drew [s] (by simp) (by simp; omega) hW2.drew.drew hF2.dr.dr hz2 (by simpa using hx0)).2
    refine ⟨.take 0 (.take 1 (.take 2 (.take 3 (.take 4 (.done))))), by kernel_rfl, ?_⟩
    refine tkA (ia se_53 _ hn) ?_
    refine tkA (ia se_53 _ hn) ?_
    refine .held _ (fun u => Live u bz ∧ Live u bx) ⟨hlz, hlx⟩ (fun u h => pN (by kernel_rfl) h.1 h.2 _ _) ?_
    rcases Classical.em (bx = bz) with e | e
    · have hoo := cxx e
      refine ⟨fun hc => (by simp [e, hoo] at hc), fun _ => ?_⟩
      exact ⟨rfl, f1 e⟩
    · refine ⟨fun _ => ?_, fun hc => (by simp [Ne.symm e] at hc)⟩
      refine ⟨.take 0 (.take 1 (.take 2 (.take 3 (.one 4 [] (.done))))), by kernel_rfl, ?_⟩
      refine tkA (slLo (lo := 1) se_53 _ (by omega)) ?_
      refine tkA (slLo (lo := 1) se_53 _ (by omega)) ?_
      obtain ⟨w', e', h'⟩ := f2 e _ _ _
      refine ⟨_, w', e', ?_⟩
      refine ⟨trivial, ?_⟩
      exact ⟨rfl, h'⟩
  · have : d = 1 := by omega
    subst this
    refine ⟨_, bEqF (by omega), ?_⟩
    refine ⟨fun hc => (by cases hc), fun _ => ?_⟩
    refine vloop (List Nat) (fun l => ⟨[(0, .slice (some ⟨bz, oz, none⟩) xs.length cz), (1, .slice (some ⟨bx, ox, none⟩) xs.length cx), (9, .int .i64 (l.length : Int))], []⟩)
      (fun l u => 0 < l.length ∧ l.length ≤ xs.length ∧ Wd u bz (splice Z oz l) ∧ Fm (· = bz) w u ∧ u.heap.size = w.heap.size ∧ nv l + BW ^ l.length = nv (xs.take l.length) + y) (fun l => xs.length - l.length) [s]
      ⟨⟨rfl, rfl, rfl, trivial⟩, rfl⟩ ⟨by simp, by simp; omega, hW2, hF2, hz2, by simpa using hx0⟩ ?_
    rintro l u ⟨h0, hlen, hW, hF, hsz, hv⟩
    refine ⟨_, _, ln se_53 _ _ _ _ _ _, ?_⟩
    rcases Nat.lt_or_ge l.length xs.length with hlt | hge
    · refine ⟨_, bLt (by omega), ?_⟩
      refine ⟨fun _ => ?_, fun hc => (by cases hc)⟩
      refine rnA (ia se_53 _ hlt) ?_
      refine rnC na_101 (rd_after hx hZ hF hW (by omega) cxx' (Nat.le_refl _) hlt) ?_
      have hxl := hx.wf.dg l.length
      have hpow : BW ^ (l.length + 1) = BW ^ l.length * BW := Nat.pow_succ ..
      rcases Classical.em (dg xs l.length = 18446744073709551615) with hm | hm
      · refine ⟨_, bNeF (by rw [hm]; rfl), ?_⟩
        refine ⟨fun hc => (by cases hc), fun _ => ?_⟩
        refine rnA (ia se_53 _ hlt) ?_
        obtain ⟨w3, e3, hW3, hF3, hz3⟩ := hW.st (i := oz + l.length) (by rw [splice_len (by omega)]; omega) BW_pos
        refine ⟨w3, e3, ?_⟩
        rw [splice_snoc (by omega)] at hW3
        refine ⟨_, nAdd l.length 1 (by omega), ?_⟩
        refine ⟨l ++ [0], ⟨⟨rfl, rfl, by simp; rfl, trivial⟩, rfl⟩, ⟨by simp, by simp; omega, hW3, hF.trans hF3 (fun _ _ h => h), by omega, ?_⟩, by simp; omega⟩
        rw [List.length_append, nv_append, List.length_singleton, nv_take_succ hlt, hpow, hm]
        simp only [nv, Nat.mul_zero, Nat.add_zero]
        have : BW ^ l.length * BW = BW ^ l.length * 18446744073709551615 + BW ^ l.length := by rw [← Nat.mul_succ]; rfl
        omega
      · refine ⟨_, bNe (by omega), ?_⟩
        refine ⟨fun _ => ?_, fun hc => (by cases hc)⟩
        refine ⟨_, wAdd' (y := 1) (by unfold BW at hxl; omega), ?_⟩
        refine rnA (ia se_53 _ hlt) ?_
        obtain ⟨w3, e3, hW3, hF3, hz3⟩ := hW.st (i := oz + l.length) (by rw [splice_len (by omega)]; omega) (x := dg xs l.length + 1) (by unfold BW at *; omega)
        refine ⟨w3, e3, ?_⟩
        rw [splice_snoc (by omega)] at hW3
        have hlz : Live w3 bz := hW3.live
        have hlx : Live w3 bx := by
          rcases Classical.em (bx = bz) with e | e
          · rw [e]; exact hlz
          · exact (hx.fm (hF.trans hF3 (fun _ _ h => h)) e).live
        have hv3 : nv (l ++ [dg xs l.length + 1]) = nv (xs.take (l ++ [dg xs l.length + 1]).length) + y := by
          rw [List.length_append, nv_append, List.length_singleton, nv_take_succ hlt]
          simp only [nv, Nat.mul_zero, Nat.add_zero, Nat.mul_add, Nat.mul_one]
          omega
        have f1 := (fin w3.drew (l ++ [dg xs l.length + 1]) (by simp) (by simp; omega) hW3.drew (hF.trans hF3 (fun _ _ h => h)).dr (hz3.trans hsz) hv3).1
        have f2 := (fin w3.drew.drew (l ++ [dg xs l.length + 1]) (by simp) (by simp; omega) hW3.drew.drew (hF.trans hF3 (fun _ _ h => h)).dr.dr (hz3.trans hsz) hv3).2
        rw [List.length_append, List.length_singleton] at f2
        refine ⟨.take 0 (.take 1 (.take 2 (.take 3 (.take 4 (.done))))), by kernel_rfl, ?_⟩
        refine tkA (ia se_53 _ hn) ?_
        refine tkA (ia se_53 _ hn) ?_
        refine .held _ (fun u => Live u bz ∧ Live u bx) ⟨hlz, hlx⟩ (fun u h => pN (by kernel_rfl) h.1 h.2 _ _) ?_
        rcases Classical.em (bx = bz) with e | e
        · have hoo := cxx e
          refine ⟨fun hc => (by simp [e, hoo] at hc), fun _ => ?_⟩
          exact ⟨rfl, f1 e⟩
        · refine ⟨fun _ => ?_, fun hc => (by simp [Ne.symm e] at hc)⟩
          refine ⟨.take 0 (.take 1 (.take 2 (.take 3 (.take 4 (.take 5 (.take 6 (.take 7 (.one 8 [] (.done))))))))), by kernel_rfl, ?_⟩
          refine ⟨_, nAdd l.length 1 (by omega), ?_⟩
          refine tkA (slLo se_53 _ (by omega)) ?_
          refine ⟨_, nAdd l.length 1 (by omega), ?_⟩
          refine tkA (slLo se_53 _ (by omega)) ?_
          obtain ⟨w', e', h'⟩ := f2 e _ _ _
          refine ⟨_, w', e', ?_⟩
          refine ⟨trivial, ?_⟩
          exact ⟨rfl, h'⟩
    · have hll : l.length = xs.length := by omega
      refine ⟨_, bLtF (by omega), ?_⟩
      refine ⟨fun hc => (by cases hc), fun _ => ?_⟩
      refine ⟨rfl, ?_⟩
      refine ⟨l, 1, rfl, Nat.le_refl 1, hll, hW, ?_, hF, hsz⟩
      rw [hll, List.take_length] at hv
      omega

/-- z = x - y, the borrow handed back. -/
theorem subVW_c {w : World} {bz oz cz bx ox cx y : Nat} {Z xs : List Nat} (hZ : Wd w bz Z) (hx : Rd w bx ox xs) (hy : y < BW) (hn : 0 < xs.length)
    (hz : oz + xs.length ≤ Z.length) (cxx : bx = bz → ox = oz) (hb : xs.length < 4611686018427387904) (hcz : xs.length ≤ cz) (hcx : xs.length ≤ cx) :
    CallX P 94 #[.slice (some ⟨bz, oz, none⟩) xs.length cz, .slice (some ⟨bx, ox, none⟩) xs.length cx, vw y] w fun v w' =>
      ∃ zs c, v = vw c ∧ c ≤ 1 ∧ zs.length = xs.length ∧ Wd w' bz (splice Z oz zs) ∧ nv zs + y = nv xs + BW ^ xs.length * c ∧ Fm (· = bz) w w' ∧ w'.heap.size = w.heap.size := by
  have cxx' : bx = bz → oz ≤ ox ∨ ox + xs.length ≤ oz := fun e => .inl (by rw [cxx e]; exact Nat.le_refl _)
  refine calls_vc mo fn_94 rfl ok_94 (Nat.le_of_ble_eq_true rfl) nm_94 ?_
  refine ⟨_, _, ln se_53 _ _ _ _ _ _, ?_⟩
  refine ⟨_, _, ln se_53 _ _ _ _ _ _, ?_⟩
  refine ⟨_, bNeF rfl, ?_⟩
  refine ⟨fun hc => (by cases hc), fun _ => ?_⟩
  refine ⟨_, _, ln se_53 _ _ _ _ _ _, ?_⟩
  refine ⟨_, bEqF (by omega), ?_⟩
  refine ⟨fun hc => (by cases hc), fun _ => ?_⟩
  refine rnA (ia se_53 _ hn) ?_
  refine rnC na_101 (hx.cell hn) ?_
  refine (bSub_a (hx.wf.dg 0) hy (Nat.zero_le 1) _).mono ?_
  rintro v1 w1 ⟨rfl, s, d, rfl, hs, hd, e1⟩
  refine rnA (ia se_53 _ hn) ?_
  obtain ⟨w2, e2, hW2, hF2, hz2⟩ := hZ.st (i := oz + 0) (by omega) hs
  refine ⟨w2, e2, ?_⟩
  have hset : Z.set (oz + 0) s = splice Z oz [s] := by
    have := splice_snoc (Z := Z) (o := oz) (l := []) (by simp; omega) s
    rw [splice_nil] at this; exact this
  rw [hset] at hW2
  have hlz : Live w2 bz := hW2.live
  have hlx : Live w2 bx := by
    rcases Classical.em (bx = bz) with e | e
    · rw [e]; exact hlz
    · exact (hx.fm hF2 e).live
  have hx0 : nv [s] + y = nv (xs.take 1) + BW ^ 1 * d := by
    have := nv_take_succ (l := xs) (i := 0) hn
    rw [this]; simp [nv]; omega
  -- what is left to do when no carry goes on
  have fin : ∀ (u : World) (l : List Nat), 0 < l.length → l.length ≤ xs.length → Wd u bz (splice Z oz l) → Fm (· = bz) w u → u.heap.size = w.heap.size → nv l + y = nv (xs.take l.length) →
      (bx = bz → ∃ zs c, vw 0 = vw c ∧ c ≤ 1 ∧ zs.length = xs.length ∧ Wd u bz (splice Z oz zs) ∧ nv zs + y = nv xs + BW ^ xs.length * c ∧ Fm (· = bz) w u ∧ u.heap.size = w.heap.size) ∧
      (bx ≠ bz → ∀ t' ty cs, ∃ w', (builtin .copy #[53, t'] ty cs #[.slice (subA (some ⟨bz, oz, none⟩) l.length cz) (xs.length - l.length) (cz - l.length), .slice (subA (some ⟨bx, ox, none⟩) l.length cx) (xs.length - l.length) (cx - l.length)]).run P u
          = .ok (.value (.int .i64 ((xs.length - l.length : Nat) : Int))) w' ∧ ∃ zs c, vw 0 = vw c ∧ c ≤ 1 ∧ zs.length = xs.length ∧ Wd w' bz (splice Z oz zs) ∧ nv zs + y = nv xs + BW ^ xs.length * c ∧ Fm (· = bz) w w' ∧ w'.heap.size = w.heap.size) := by
    intro u l h0 hl hW hF hsz hv
    have hlen : (l ++ xs.drop l.length).length = xs.length := by rw [List.length_append, List.length_drop]; omega
    have hval := nv_rest2 hl hv
    refine ⟨fun e => ⟨l ++ xs.drop l.length, 0, rfl, by omega, hlen, ?_, by omega, hF, hsz⟩, fun e t' ty cs => ?_⟩
    · subst e
      have := cxx rfl
      subst this
      rw [splice_rest hZ hx hl]; exact hW
    · rcases Nat.lt_or_ge l.length xs.length with h1 | h1
      · rw [subA_some (by omega), subA_some (by omega)]
        have hr := (hx.fm hF e).sub l.length (xs.length - l.length) (by omega)
        have hd : (xs.drop l.length).take (xs.length - l.length) = xs.drop l.length := by rw [List.take_of_length_le]; rw [List.length_drop]; exact Nat.le_refl _
        rw [hd] at hr
        obtain ⟨w', e', hW', hF', hs'⟩ := cpy se_53 (oz := oz + l.length) (bx := bx) (ox := ox + l.length) (dn := xs.length - l.length) (sn := xs.length - l.length) (dc := cz - l.length) (sc := cx - l.length) hW hr (by rw [List.length_drop]; omega) (by rw [List.length_drop, splice_len (Z := Z) (o := oz) (l := l) (by omega)]; omega) t' ty cs
        rw [List.length_drop] at e'
        refine ⟨w', e', l ++ xs.drop l.length, 0, rfl, by omega, hlen, ?_, by omega, hF.trans hF' (fun _ _ h => h), by omega⟩
        have e5 := splice_append (Z := Z) (o := oz) (l := l) (r := xs.drop l.length) (by rw [List.length_drop]; omega)
        rw [← e5]; exact hW'
      · have h2 : xs.length - l.length = 0 := by omega
        rw [h2]
        refine ⟨u, cpy0 se_53 (by simp) t' ty cs u, l ++ xs.drop l.length, 0, rfl, by omega, hlen, ?_, by omega, hF, hsz⟩
        rw [List.drop_eq_nil_of_le h1, List.append_nil]; exact hW
  rcases Nat.eq_zero_or_pos d with rfl | hdp
  · refine ⟨_, bEq (by omega), ?_⟩
    refine ⟨fun _ => ?_, fun hc => (by cases hc)⟩
    have f1 := (fin w2.drew [s] (by simp) (by simp; omega) hW2.drew hF2.dr hz2 (by simpa using hx0)).1
    have f2 := (fin w2.drew.drew [s] (by simp) (by simp; omega) hW2.drew.drew hF2.dr.dr hz2 (by simpa using hx0)).2
    refine ⟨.take 0 (.take 1 (.take 2 (.take 3 (.take 4 (.done))))), by kernel_rfl, ?_⟩
    refine tkA (ia se_53 _ hn) ?_
    refine tkA (ia se_53 _ hn) ?_
    refine .held _ (fun u => Live u bz ∧ Live u bx) ⟨hlz, hlx⟩ (fun u h => pN (by kernel_rfl) h.1 h.2 _ _) ?_
    rcases Classical.em (bx = bz) with e | e
    · have hoo := cxx e
      refine ⟨fun hc => (by simp [e, hoo] at hc), fun _ => ?_⟩
      exact ⟨rfl, f1 e⟩
    · refine ⟨fun _ => ?_, fun hc => (by simp [Ne.symm e] at hc)⟩
      refine ⟨.take 0 (.take 1 (.take 2 (.take 3 (.one 4 [] (.done))))), by kernel_rfl, ?_⟩
      refine tkA (slLo (lo := 1) se_53 _ (by omega)) ?_
      refine tkA (slLo (lo := 1) se_53 _ (by omega)) ?_
      obtain ⟨w', e', h'⟩ := f2 e _ _ _
      refine ⟨_, w', e', ?_⟩
      refine ⟨trivial, ?_⟩
      exact ⟨rfl, h'⟩
  · have : d = 1 := by omega
    subst this
    refine ⟨_, bEqF (by omega), ?_⟩
    refine ⟨fun hc => (by cases hc), fun _ => ?_⟩
    refine vloop (List Nat) (fun l => ⟨[(0, .slice (some ⟨bz, oz, none⟩) xs.length cz), (1, .slice (some ⟨bx, ox, none⟩) xs.length cx), (9, .int .i64 (l.length : Int))], []⟩)
      (fun l u => 0 < l.length ∧ l.length ≤ xs.length ∧ Wd u bz (splice Z oz l) ∧ Fm (· = bz) w u ∧ u.heap.size = w.heap.size ∧ nv l + y = nv (xs.take l.length) + BW ^ l.length) (fun l => xs.length - l.length) [s]
      ⟨⟨rfl, rfl, rfl, trivial⟩, rfl⟩ ⟨by simp, by simp; omega, hW2, hF2, hz2, by simpa using hx0⟩ ?_
    rintro l u ⟨h0, hlen, hW, hF, hsz, hv⟩
    refine ⟨_, _, ln se_53 _ _ _ _ _ _, ?_⟩
    rcases Nat.lt_or_ge l.length xs.length with hlt | hge
    · refine ⟨_, bLt (by omega), ?_⟩
      refine ⟨fun _ => ?_, fun hc => (by cases hc)⟩
      refine rnA (ia se_53 _ hlt) ?_
      refine rnC na_101 (rd_after hx hZ hF hW (by omega) cxx' (Nat.le_refl _) hlt) ?_
      have hxl := hx.wf.dg l.length
      have hpow : BW ^ (l.length + 1) = BW ^ l.length * BW := Nat.pow_succ ..
      rcases Classical.em (dg xs l.length = 0) with hm | hm
      · refine ⟨_, bNeF (by rw [hm]; rfl), ?_⟩
        refine ⟨fun hc => (by cases hc), fun _ => ?_⟩
        refine rnA (ia se_53 _ hlt) ?_
        obtain ⟨w3, e3, hW3, hF3, hz3⟩ := hW.st (i := oz + l.length) (by rw [splice_len (by omega)]; omega) (x := 18446744073709551615) (by unfold BW; omega)
        refine ⟨w3, e3, ?_⟩
        rw [splice_snoc (by omega)] at hW3
        refine ⟨_, nAdd l.length 1 (by omega), ?_⟩
        refine ⟨l ++ [18446744073709551615], ⟨⟨rfl, rfl, by simp; rfl, trivial⟩, rfl⟩, ⟨by simp, by simp; omega, hW3, hF.trans hF3 (fun _ _ h => h), by omega, ?_⟩, by simp; omega⟩
        rw [List.length_append, nv_append, List.length_singleton, nv_take_succ hlt, hpow, hm]
        simp only [nv, Nat.mul_zero, Nat.add_zero]
        have : BW ^ l.length * BW = BW ^ l.length * 18446744073709551615 + BW ^ l.length := by rw [← Nat.mul_succ]; rfl
        omega
      · refine ⟨_, bNe (by omega), ?_⟩
        refine ⟨fun _ => ?_, fun hc => (by cases hc)⟩
        refine ⟨_, wSub' (y := 1) (by omega) (by unfold BW at hxl; omega), ?_⟩
        refine rnA (ia se_53 _ hlt) ?_
        obtain ⟨w3, e3, hW3, hF3, hz3⟩ := hW.st (i := oz + l.length) (by rw [splice_len (by omega)]; omega) (x := dg xs l.length - 1) (by unfold BW at *; omega)
        refine ⟨w3, e3, ?_⟩
        rw [splice_snoc (by omega)] at hW3
        have hlz : Live w3 bz := hW3.live
        have hlx : Live w3 bx := by
          rcases Classical.em (bx = bz) with e | e
          · rw [e]; exact hlz
          · exact (hx.fm (hF.trans hF3 (fun _ _ h => h)) e).live
        have hv3 : nv (l ++ [dg xs l.length - 1]) + y = nv (xs.take (l ++ [dg xs l.length - 1]).length) := by
          rw [List.length_append, nv_append, List.length_singleton, nv_take_succ hlt]
          simp only [nv, Nat.mul_zero, Nat.add_zero]
          have : BW ^ l.length * dg xs l.length = BW ^ l.length * (dg xs l.length - 1) + BW ^ l.length := by rw [← Nat.mul_succ]; congr 1; omega
          omega
        have f1 := (fin w3.drew (l ++ [dg xs l.length - 1]) (by simp) (by simp; omega) hW3.drew (hF.trans hF3 (fun _ _ h => h)).dr (hz3.trans hsz) hv3).1
        have f2 := (fin w3.drew.drew (l ++ [dg xs l.length - 1]) (by simp) (by simp; omega) hW3.drew.drew (hF.trans hF3 (fun _ _ h => h)).dr.dr (hz3.trans hsz) hv3).2
        rw [List.length_append, List.length_singleton] at f2
        refine ⟨.take 0 (.take 1 (.take 2 (.take 3 (.take 4 (.done))))), by kernel_rfl, ?_⟩
        refine tkA (ia se_53 _ hn) ?_
        refine tkA (ia se_53 _ hn) ?_
        refine .held _ (fun u => Live u bz ∧ Live u bx) ⟨hlz, hlx⟩ (fun u h => pN (by kernel_rfl) h.1 h.2 _ _) ?_
        rcases Classical.em (bx = bz) with e | e
        · have hoo := cxx e
          refine ⟨fun hc => (by simp [e, hoo] at hc), fun _ => ?_⟩
          exact ⟨rfl, f1 e⟩
        · refine ⟨fun _ => ?_, fun hc => (by simp [Ne.symm e] at hc)⟩
          refine ⟨.take 0 (.take 1 (.take 2 (.take 3 (.take 4 (.take 5 (.take 6 (.take 7 (.one 8 [] (.done))))))))), by kernel_rfl, ?_⟩
          refine ⟨_, nAdd l.length 1 (by omega), ?_⟩
          refine tkA (slLo se_53 _ (by omega)) ?_
          refine ⟨_, nAdd l.length 1 (by omega), ?_⟩
          refine tkA (slLo se_53 _ (by omega)) ?_
          obtain ⟨w', e', h'⟩ := f2 e _ _ _
          refine ⟨_, w', e', ?_⟩
          refine ⟨trivial, ?_⟩
          exact ⟨rfl, h'⟩
    · have hll : l.length = xs.length := by omega
      refine ⟨_, bLtF (by omega), ?_⟩
      refine ⟨fun hc => (by cases hc), fun _ => ?_⟩
      refine ⟨rfl, ?_⟩
      refine ⟨l, 1, rfl, Nat.le_refl 1, hll, hW, ?_, hF, hsz⟩
      rw [hll, List.take_length] at hv
      omega

end Go.Vc
end
