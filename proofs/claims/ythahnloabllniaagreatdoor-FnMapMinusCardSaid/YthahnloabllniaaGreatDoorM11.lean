/- Blocks of bytes; beUint32, beUint64, bigEndianWord. -/
import Derived.Test.YthahnloabllniaaGreatDoorM10
section
set_option linter.unusedSimpArgs false
set_option linter.unusedVariables false
set_option maxRecDepth 8000
namespace Go.Vc
open Go.Proofs

abbrev vb (x : Nat) : Value := .int .u8 (x : Int)
abbrev v32 (x : Nat) : Value := .int .u32 (x : Int)
def vbs (l : List Nat) : List Value := l.map vb
theorem vbs_get {l : List Nat} {i : Nat} (h : i < l.length) : (vbs l)[i]? = some (vb (dg l i)) := by
  simp [vbs, dg_lt h]
theorem vbs_len (l : List Nat) : (vbs l).length = l.length := by simp [vbs]
theorem vbs_set (l : List Nat) (i x : Nat) : (vbs l).set i (vb x) = vbs (l.set i x) := by simp [vbs, List.map_set]

/-- Bytes. -/
def BF (l : List Nat) : Prop := ∀ x ∈ l, x < 256
theorem BF.dg {l : List Nat} (h : BF l) (i : Nat) : dg l i < 256 := by
  rcases Nat.lt_or_ge i l.length with h1 | h1
  · exact h _ (dg_mem h1)
  · rw [dg_ge h1]; omega
theorem BF.take {l : List Nat} (h : BF l) (n : Nat) : BF (l.take n) := fun y hy => h y (List.mem_of_mem_take hy)
theorem BF.drop {l : List Nat} (h : BF l) (n : Nat) : BF (l.drop n) := fun y hy => h y (List.mem_of_mem_drop hy)
theorem BF.set {l : List Nat} (h : BF l) (i : Nat) {x : Nat} (hx : x < 256) : BF (l.set i x) := fun y hy => (List.mem_or_eq_of_mem_set hy).elim (h y) (fun e => e ▸ hx)
theorem BF.append {a b : List Nat} (ha : BF a) (hb : BF b) : BF (a ++ b) := fun y hy => (List.mem_append.1 hy).elim (ha y) (hb y)
theorem BF.tail {x : Nat} {l : List Nat} (h : BF (x :: l)) : BF l := fun y hy => h y (.tail _ hy)
theorem BF.head {x : Nat} {l : List Nat} (h : BF (x :: l)) : x < 256 := h x (.head _)

structure Bd (w : World) (b : Nat) (l : List Nat) : Prop where
  cl : Cl w b (vbs l) 5
  bf : BF l

theorem Bd.fm {S : Nat → Prop} {w w' : World} {b : Nat} {l : List Nat} (h : Bd w b l) (f : Fm S w w') (hs : ¬ S b) : Bd w' b l := ⟨f.obj h.cl hs, h.bf⟩
theorem Bd.lt {w : World} {b : Nat} {l : List Nat} (h : Bd w b l) : b < w.heap.size := lt_of_obj h.cl
theorem Bd.drew {w : World} {b : Nat} {l : List Nat} (h : Bd w b l) : Bd w.drew b l := ⟨h.cl, h.bf⟩
theorem Bd.cell {w : World} {b i : Nat} {l : List Nat} (h : Bd w b l) (hi : i < l.length) : w.cell? ⟨b, i, none⟩ = some (vb (dg l i)) := h.cl.cell (vbs_get hi)
theorem Bd.ne_wd {w : World} {b b2 : Nat} {l l2 : List Nat} (h : Bd w b l) (h2 : Wd w b2 l2) : b ≠ b2 := h.cl.ne_T h2.cl (by decide)
theorem Bd.uniq {w : World} {b : Nat} {l l' : List Nat} (h : Bd w b l) (h' : Bd w b l') : l = l' := by
  have e := h.cl.symm.trans h'.cl
  simp only [Option.some.injEq, Obj.cells.injEq, List.toArray_eq_toArray_eq, and_true] at e
  have e2 : vbs l = vbs l' := by simpa using e
  unfold vbs at e2
  exact List.map_inj_right (fun a b e => by simp [vb] at e; omega) |>.1 e2

theorem Bd.st {w : World} {b i : Nat} {l : List Nat} (h : Bd w b l) (hi : i < l.length) {x : Nat} (hx : x < 256) :
    ∃ w', (Instr.storeAt 5 (.pointer (some ⟨b, i, none⟩)) (vb x)).run P w = .ok () w' ∧ Bd w' b (l.set i x) ∧ Fm (· = b) w w' ∧ w'.heap.size = w.heap.size := by
  obtain ⟨w', e, hc, hf, hz⟩ := Vc.st sz_5 h.cl (by rw [vbs_len]; exact hi) (v := vb x) rfl
  exact ⟨w', e, ⟨by rw [← vbs_set]; exact hc, h.bf.set i hx⟩, hf, hz⟩

/-- Bytes that are read from the place o of the block b on. -/
structure Rb (w : World) (b o : Nat) (l : List Nat) : Prop where
  bf : BF l
  cells : ∀ i, i < l.length → w.cell? ⟨b, o + i, none⟩ = some (vb (dg l i))
  lt : b < w.heap.size
  nw : ∀ l2, ¬ Wd w b l2

theorem Rb.of_bd {w : World} {b o : Nat} {full l : List Nat} (h1 : Bd w b full) (h2 : o + l.length ≤ full.length) (h3 : (full.drop o).take l.length = l) : Rb w b o l := by
  refine ⟨by rw [← h3]; exact (h1.bf.drop o).take _, fun i hi => ?_, h1.lt, fun l2 h => h1.ne_wd h rfl⟩
  rw [h1.cell (by omega)]
  have := dg_take (l := full.drop o) hi
  rw [h3, dg_drop] at this
  rw [this]
theorem Rb.cell {w : World} {b o i : Nat} {l : List Nat} (h : Rb w b o l) (hi : i < l.length) : w.cell? ⟨b, o + i, none⟩ = some (vb (dg l i)) := h.cells i hi
theorem Rb.fm {S : Nat → Prop} {w w' : World} {b o : Nat} {l : List Nat} (h : Rb w b o l) (f : Fm S w w') (hs : ¬ S b) : Rb w' b o l := by
  have hk := f.keep b h.lt hs
  refine ⟨h.bf, fun i hi => ?_, Nat.lt_of_lt_of_le h.lt f.size, fun l2 h2 => h.nw l2 ⟨?_, h2.wf⟩⟩
  · have := h.cells i hi
    simp only [World.cell?] at this ⊢
    rw [hk]; exact this
  · have := h2.cl
    unfold Cl at this ⊢
    rw [← hk]; exact this
theorem Rb.drew {w : World} {b o : Nat} {l : List Nat} (h : Rb w b o l) : Rb w.drew b o l := h.fm (Fm.drew (fun _ => False) w) (fun e => e)
theorem Rb.ne_wd {w : World} {b o b2 : Nat} {l l2 : List Nat} (h : Rb w b o l) (h2 : Wd w b2 l2) : b ≠ b2 := fun e => h.nw l2 (e ▸ h2)
theorem Rb.sub {w : World} {b o : Nat} {l : List Nat} (h : Rb w b o l) (k n : Nat) (hn : k + n ≤ l.length) : Rb w b (o + k) ((l.drop k).take n) := by
  have hl : ((l.drop k).take n).length = n := by simp; omega
  refine ⟨(h.bf.drop k).take n, fun i hi => ?_, h.lt, h.nw⟩
  rw [hl] at hi
  have := h.cells (k + i) (by omega)
  rw [dg_take hi, dg_drop, ← this, Nat.add_assoc]

/-- What bytes stand for, the highest first. -/
def bev : List Nat → Nat
  | [] => 0
  | x :: r => x * 256 ^ r.length + bev r

theorem bev_append (a b : List Nat) : bev (a ++ b) = bev a * 256 ^ b.length + bev b := by
  induction a with
  | nil => simp [bev]
  | cons x r ih => simp only [List.cons_append, bev, ih, List.length_append, Nat.add_mul, Nat.pow_add, Nat.mul_assoc]; omega

theorem bev_lt {l : List Nat} (h : BF l) : bev l < 256 ^ l.length := by
  induction l with
  | nil => simp [bev]
  | cons x r ih =>
    simp only [bev, List.length_cons]
    have h1 := ih h.tail
    have h2 : (x + 1) * 256 ^ r.length ≤ 256 * 256 ^ r.length := Nat.mul_le_mul_right _ h.head
    rw [Nat.add_mul, Nat.one_mul] at h2
    rw [Nat.pow_succ, Nat.mul_comm _ 256]
    omega

/-! ### Words of 32 bits -/

theorem wrap32 {x : Nat} (h : x < 4294967296) : IntKind.u32.wrap (x : Int) = (x : Int) := by
  have : IntKind.u32.wrap (x : Int) = (x : Int) % 4294967296 := by simp [IntKind.wrap, IntKind.bits, IntKind.signed]
  rw [this]; omega

theorem shl32 (x s : Nat) (k' : IntKind) (hs : s ≤ 32) (h : x * 2 ^ s < 4294967296) : binV .shl .u32 k' (x : Int) (s : Int) = some (v32 (x * 2 ^ s)) := by
  have h1 : ¬ ((s : Int) < 0) := by omega
  have h2 : min (s : Int).toNat IntKind.u32.bits = s := by simp [IntKind.bits]; omega
  show (if (s : Int) < 0 then none else some (Value.int .u32 (IntKind.u32.wrap ((x : Int) * (2 ^ min (s : Int).toNat IntKind.u32.bits))))) = _
  rw [if_neg h1, h2]
  have : ((x : Int) * 2 ^ s) = ((x * 2 ^ s : Nat) : Int) := by simp
  rw [this, wrap32 h]

theorem or32 (x y : Nat) (hx : x < 4294967296) (hy : y < 4294967296) : binV .or .u32 .u32 (x : Int) (y : Int) = some (v32 (x ||| y)) := by
  have : x ||| y < 2 ^ 32 := Nat.or_lt_two_pow hx hy
  have e : (BitVec.ofNat 32 x ||| BitVec.ofNat 32 y).toNat = x ||| y := by
    rw [BitVec.toNat_or, BitVec.toNat_ofNat, BitVec.toNat_ofNat, Nat.mod_eq_of_lt hx, Nat.mod_eq_of_lt hy]
  have e2 : bitV .or .u32 (x : Int) (y : Int) = ((x ||| y : Nat) : Int) := by
    show IntKind.u32.wrap ((BitVec.ofInt 32 (x : Int) ||| BitVec.ofInt 32 (y : Int)).toNat : Int) = _
    rw [ofInt_nat, ofInt_nat, e, wrap32 this]
  show some (Value.int .u32 (bitV .or .u32 (x : Int) (y : Int))) = _
  rw [e2]

theorem or_add {a b s : Nat} (hb : b < 2 ^ s) : (b ||| a * 2 ^ s) = a * 2 ^ s + b := by
  rw [Nat.or_comm, Nat.mul_comm, Nat.two_pow_add_eq_or_of_lt hb]

theorem beUint32_c {w : World} {b o c : Nat} {l : List Nat} (h : Rb w b o l) (hl : 4 ≤ l.length) :
    CallX P 74 #[.slice (some ⟨b, o, none⟩) l.length c] w fun v w' => w' = w.drew ∧ v = v32 (bev (l.take 4)) := by
  obtain ⟨x0, x1, x2, x3, r, rfl⟩ : ∃ x0 x1 x2 x3 r, l = x0 :: x1 :: x2 :: x3 :: r := by
    match l, hl with
    | x0 :: x1 :: x2 :: x3 :: r, _ => exact ⟨x0, x1, x2, x3, r, rfl⟩
  have b0 : x0 < 256 := h.bf.dg 0
  have b1 : x1 < 256 := h.bf.dg 1
  have b2 : x2 < 256 := h.bf.dg 2
  have b3 : x3 < 256 := h.bf.dg 3
  have c0 : w.cell? ⟨b, o + 0, none⟩ = some (vb x0) := h.cell (i := 0) (by simp)
  have c1 : w.cell? ⟨b, o + 1, none⟩ = some (vb x1) := h.cell (i := 1) (by simp)
  have c2 : w.cell? ⟨b, o + 2, none⟩ = some (vb x2) := h.cell (i := 2) (by simp)
  have c3 : w.cell? ⟨b, o + 3, none⟩ = some (vb x3) := h.cell (i := 3) (by simp)
  refine calls_vc mo fn_74 rfl ok_74 (Nat.le_of_ble_eq_true rfl) nm_74 ?_
  refine rnA (ia (i := 3) se_22 _ (by simp)) ?_
  refine rnC na_5 c3 ?_
  refine ⟨.take 0 (.take 1 (.take 2 (.take 3 (.take 4 (.take 5 (.take 6 (.take 7 (.take 8 (.take 9 (.take 10 (.take 11 (.take 12 (.take 13 (.take 14 (.take 15 (.take 16 (.take 17 (.take 18 (.take 19 (.take 20 (.take 21 (.take 22 (.done))))))))))))))))))))))), by kernel_rfl, ?_⟩
  refine tkA (ia (i := 3) se_22 _ (by simp)) ?_
  refine tkC na_5 c3 ?_
  refine tkA (cv cv_5_122 (wrap32 (by omega))) ?_
  refine tkA (ia (i := 2) se_22 _ (by simp)) ?_
  refine tkC na_5 c2 ?_
  refine tkA (cv cv_5_122 (wrap32 (by omega))) ?_
  refine ⟨_, shl32 x2 8 _ (by omega) (by omega), ?_⟩
  refine ⟨_, or32 x3 _ (by omega) (by omega), ?_⟩
  rw [or_add (a := x2) (b := x3) (s := 8) (by omega)]
  refine tkA (ia (i := 1) se_22 _ (by simp)) ?_
  refine tkC na_5 c1 ?_
  refine tkA (cv cv_5_122 (wrap32 (by omega))) ?_
  refine ⟨_, shl32 x1 16 _ (by omega) (by omega), ?_⟩
  refine ⟨_, or32 (x2 * 2 ^ 8 + x3) _ (by omega) (by omega), ?_⟩
  rw [or_add (a := x1) (b := x2 * 2 ^ 8 + x3) (s := 16) (by omega)]
  refine tkA (ia (i := 0) se_22 _ (by simp)) ?_
  refine tkC na_5 c0 ?_
  refine tkA (cv cv_5_122 (wrap32 (by omega))) ?_
  refine ⟨_, shl32 x0 24 _ (by omega) (by omega), ?_⟩
  refine ⟨_, or32 (x1 * 2 ^ 16 + (x2 * 2 ^ 8 + x3)) _ (by omega) (by omega), ?_⟩
  rw [or_add (a := x0) (b := x1 * 2 ^ 16 + (x2 * 2 ^ 8 + x3)) (s := 24) (by omega)]
  refine ⟨rfl, rfl, ?_⟩
  have e : x0 * 2 ^ 24 + (x1 * 2 ^ 16 + (x2 * 2 ^ 8 + x3)) = bev [x0, x1, x2, x3] := by simp [bev]
  show v32 (x0 * 2 ^ 24 + (x1 * 2 ^ 16 + (x2 * 2 ^ 8 + x3))) = v32 (bev [x0, x1, x2, x3])
  rw [e]

theorem bev4 {l : List Nat} (h : BF l) : bev (l.take 4) < 4294967296 := by
  have := bev_lt (h.take 4)
  have h2 : (l.take 4).length ≤ 4 := by rw [List.length_take]; omega
  have h3 : 256 ^ (l.take 4).length ≤ 256 ^ 4 := Nat.pow_le_pow_right (by omega) h2
  omega

theorem beUint64_c {w : World} {b o c : Nat} {l : List Nat} (h : Rb w b o l) (hl : 8 ≤ l.length) (hc : l.length ≤ c) :
    CallX P 73 #[.slice (some ⟨b, o, none⟩) l.length c] w fun v w' => (Fm (fun _ => False) w w' ∧ w'.heap.size = w.heap.size) ∧ v = vw (bev (l.take 8)) := by
  have h4 := bev4 h.bf
  have h4d := bev4 (h.bf.drop 4)
  have hs := h.sub 4 (l.length - 4) (by omega)
  rw [List.take_of_length_le (by rw [List.length_drop]; omega)] at hs
  have hdl : (l.drop 4).length = l.length - 4 := List.length_drop
  refine calls_vc mo fn_73 rfl ok_73 (Nat.le_of_ble_eq_true rfl) nm_73 ?_
  refine rnA (ia (i := 7) se_22 _ (by omega)) ?_
  refine rnC na_5 (h.cell (i := 7) (by omega)) ?_
  refine ⟨.take 0 (.take 4 (.take 5 (.one 1 [5, 4] (.take 2 (.take 3 (.one 6 [3, 2] (.take 7 (.take 8 (.take 9 (.done)))))))))), by kernel_rfl, ?_⟩
  refine tkA (slLo (lo := 4) se_22 _ (by omega)) ?_
  rw [subA_some (by omega)]
  refine (beUint32_c h.drew (by omega)).mono ?_
  rintro v w1 ⟨rfl, rfl⟩
  refine ⟨trivial, ?_⟩
  refine tkA (cv cv_122_33 (wrapU_nat (by omega))) ?_
  refine ⟨_, wShl _ 32 _ (by omega), ?_⟩
  have c2 := beUint32_c (c := c - 4) hs.drew.drew (by omega)
  rw [hdl] at c2
  refine c2.mono ?_
  rintro v w2 ⟨rfl, rfl⟩
  refine ⟨trivial, ?_⟩
  refine tkA (cv cv_122_33 (wrapU_nat (by omega))) ?_
  have e : l.take 8 = l.take 4 ++ (l.drop 4).take 4 := by
    rw [show (8 : Nat) = 4 + 4 from rfl, List.take_add]
  have e2 : bev (l.take 8) = bev (l.take 4) * 2 ^ 32 + bev ((l.drop 4).take 4) := by
    have : ((l.drop 4).take 4).length = 4 := by rw [List.length_take]; omega
    rw [e, bev_append, this]
  generalize bev (l.take 4) = x at *
  generalize bev ((l.drop 4).take 4) = y at *
  have hm : (x * 2 ^ 32) % 18446744073709551616 = x * 2 ^ 32 := Nat.mod_eq_of_lt (by omega)
  rw [hm]
  refine ⟨_, wOr _ _ (by omega) (by omega), ?_⟩
  have e3 : (x * 2 ^ 32 ||| y) = x * 2 ^ 32 + y := by rw [Nat.or_comm, or_add (by omega)]
  rw [e3, ← e2]
  exact ⟨rfl, ⟨(Fm.refl _ _).dr.dr.dr, rfl⟩, rfl⟩

theorem bigEndianWord_c {w : World} {b o c : Nat} {l : List Nat} (h : Rb w b o l) (hl : l.length = 8) (hc : 8 ≤ c) :
    CallX P 46 #[.slice (some ⟨b, o, none⟩) 8 c] w fun v w' => (Fm (fun _ => False) w w' ∧ w'.heap.size = w.heap.size) ∧ v = vw (bev l) := by
  refine calls_vc mo fn_46 rfl ok_46 (Nat.le_of_ble_eq_true rfl) nm_46 ?_
  refine ⟨fun _ => ?_, fun hc => (by cases hc)⟩
  have := beUint64_c (c := c) h (by omega) (by omega)
  rw [hl] at this
  refine this.mono ?_
  rintro v w1 ⟨hF, rfl⟩
  rw [List.take_of_length_le (by omega)]
  exact ⟨rfl, hF, rfl⟩

end Go.Vc
end

section
/- nat.setBytes. -/
set_option linter.unusedSimpArgs false
set_option linter.unusedVariables false
set_option maxRecDepth 8000
set_option maxHeartbeats 1000000
namespace Go.Vc
open Go.Proofs

theorem nQuo (a b : Nat) (hb : b ≠ 0) (ha : a < 9223372036854775808) : binV .quo .i64 .i64 (a : Int) (b : Int) = some (.int .i64 ((a / b : Nat) : Int)) := by
  show (if (b : Int) = 0 then none else some (Value.int .i64 (IntKind.i64.wrap ((a : Int).tdiv (b : Int))))) = _
  have h : a / b ≤ a := Nat.div_le_self _ _
  rw [if_neg (by omega), Int.tdiv_eq_ediv_of_nonneg (by omega), ← Int.natCast_ediv]
  generalize a / b = x at h ⊢
  rw [wrap64_in (by omega)]

theorem BW_256 (k : Nat) : BW ^ k = 256 ^ (8 * k) := by
  rw [Nat.pow_mul, BW_two]

/-- A slice's value that reads as bytes. -/
structure Sb (w : World) (a : Option Addr) (l : List Nat) : Prop where
  rd : l ≠ [] → ∃ b o, a = some ⟨b, o, none⟩ ∧ Rb w b o l

theorem Sb.of_rb {w : World} {b o : Nat} {l : List Nat} (h : Rb w b o l) : Sb w (some ⟨b, o, none⟩) l := ⟨fun _ => ⟨b, o, rfl, h⟩⟩

theorem bev_drop {l : List Nat} {i n : Nat} (h : i + n ≤ l.length) : bev (l.drop i) = bev ((l.drop i).take n) * 256 ^ (l.length - (i + n)) + bev (l.drop (i + n)) := by
  have e : l.drop i = (l.drop i).take n ++ l.drop (i + n) := by rw [← List.drop_drop, List.take_append_drop]
  conv => lhs; rw [e]
  rw [bev_append, List.length_drop]

theorem setBytes_c {w : World} {z : Value} {d : Option Nat} {l0 : List Nat} (hz : Own w z d l0) {a : Option Addr} {c : Nat} {buf : List Nat} (hb : Sb w a buf) (hc : buf.length ≤ c) (hl : buf.length ≤ 4000) (hc2 : c < 9223372036854775808) :
    CallX P 29 #[z, .slice a buf.length c] w fun v w' => Res w w' d v (bev buf) := by
  refine calls_vc mo fn_29 rfl ok_29 (Nat.le_of_ble_eq_true rfl) nm_29 ?_
  refine ⟨_, _, ln se_22 _ _ _ _ _ _, ?_⟩
  refine ⟨_, nAdd buf.length 8 (by omega), ?_⟩
  refine ⟨_, nSub (buf.length + 8) 1 (by omega) (by omega), ?_⟩
  refine ⟨_, nQuo (buf.length + 8 - 1) 8 (by omega) (by omega), ?_⟩
  rcases Classical.em (buf = []) with e0 | e0
  · subst e0
    refine (make0_c hz).mono ?_
    rintro v w1 ⟨rfl, hr, a1, c1, rfl⟩
    refine ⟨_, _, ln se_22 _ _ _ _ _ _, ?_⟩
    (repeat refine vcl_v _ rfl rfl ?_); (refine vcl_end ?_)
    refine vcut (by repeat (first | exact moE _ _ _ | exact moEd _ _ _ | apply moB | apply moL | apply moV)) Unit (fun _ => ⟨[(0, .slice a1 0 c1), (5, .int .i64 0)], []⟩) (fun _ u => u = w) ?_ ?_
    · (refine vsr ?_)
      (repeat refine vcl_v _ rfl rfl ?_); (refine vcl_end ?_)
      refine vloop Unit (fun _ => ⟨[(0, .slice a1 0 c1), (5, .int .i64 0)], []⟩) (fun _ u => u = w) (fun _ => 0) () ⟨⟨rfl, rfl, trivial⟩, rfl⟩ rfl ?_
      rintro _ u rfl
      refine ⟨_, bGeF (by omega), ?_⟩
      refine ⟨fun hc => (by cases hc), fun _ => ?_⟩
      exact ⟨(), ⟨⟨rfl, rfl, trivial⟩, rfl⟩, rfl⟩
    rintro _ u rfl
    refine ⟨_, bGtF (by omega), ?_⟩
    refine ⟨fun hc => (by cases hc), fun _ => ?_⟩
    obtain ⟨d', l, ho, hn, hv, hnd, hf⟩ := hr.all
    obtain ⟨a2, c2, e2, h3, h4, h5⟩ := ho.val
    have hl0 : l = [] := hn.zero hv
    subst hl0
    cases e2
    have cn := norm_c (Sv.nil u a1) (c := c1) (Nat.zero_le _) (by omega)
    refine cn.mono ?_
    rintro v w2 ⟨rfl, m, rfl, hN⟩
    have hm : m = 0 := by have := hN.le; simpa using this
    subst hm
    exact ⟨rfl, hr⟩
  have hlp : 0 < buf.length := List.length_pos_iff.2 e0
  obtain ⟨bb, ob, rfl, hrb⟩ := hb.rd e0
  obtain ⟨q, hq⟩ : ∃ q, q = buf.length / 8 := ⟨_, rfl⟩
  obtain ⟨r, hr⟩ : ∃ r, r = buf.length % 8 := ⟨_, rfl⟩
  have hqr : buf.length = 8 * q + r := by omega
  have hr8 : r < 8 := by omega
  have hnq : (buf.length + 8 - 1) / 8 = if r = 0 then q else q + 1 := by split <;> omega
  generalize hn : (buf.length + 8 - 1) / 8 = n at *
  have hnp : 0 < n := by omega
  have hqn : q ≤ n := by split at hnq <;> omega
  clear hq hr
  refine (make_c hz (n := n) hnp (by omega)).mono ?_
  rintro v w1 ⟨b, full, hM⟩
  have hv := hM.v
  subst hv
  have hfn := hM.nl
  have hrb1 := hrb.fm hM.fm (fun h => h)
  have nbb : bb ≠ b := hrb1.ne_wd hM.wd
  refine ⟨_, _, ln se_22 _ _ _ _ _ _, ?_⟩
  (repeat refine vcl_v _ rfl rfl ?_); (refine vcl_end ?_)
  refine vcut (by repeat (first | exact moE _ _ _ | exact moEd _ _ _ | apply moB | apply moL | apply moV)) (List Nat) (fun ws => ⟨[(0, .slice (some ⟨b, 0, none⟩) n full.length), (1, .slice (some ⟨bb, ob, none⟩) buf.length c), (5, .int .i64 (r : Int))], []⟩)
    (fun ws u => ws.length = q ∧ Wd u b (splice full 0 ws) ∧ Fm (· = b) w1 u ∧ nv ws = bev (buf.drop r)) ?_ ?_
  · (refine vsr ?_)
    (repeat refine vcl_v _ rfl rfl ?_); (refine vcl_end ?_)
    refine vloop (Nat × List Nat) (fun p => ⟨[(0, .slice (some ⟨b, 0, none⟩) n full.length), (1, .slice (some ⟨bb, ob, none⟩) buf.length c), (5, .int .i64 ((buf.length - 8 * p.1 : Nat) : Int)), (6, .int .i64 (p.1 : Int))], []⟩)
      (fun p u => p.1 ≤ q ∧ p.2.length = p.1 ∧ Wd u b (splice full 0 p.2) ∧ Fm (· = b) w1 u ∧ nv p.2 = bev (buf.drop (buf.length - 8 * p.1))) (fun p => q - p.1) (0, [])
      ⟨⟨rfl, rfl, rfl, rfl, trivial⟩, rfl⟩ ⟨Nat.zero_le _, rfl, by rw [splice_nil]; exact hM.wd, Fm.refl _ _, by rw [List.drop_of_length_le (by omega)]; rfl⟩ ?_
    rintro ⟨k, ws⟩ u ⟨hk, hwl, hW, hF, hv⟩
    dsimp only at hk hwl hW hv ⊢
    rcases Nat.eq_or_lt_of_le hk with rfl | hkq
    · refine ⟨_, bGeF (by omega), ?_⟩
      refine ⟨fun hc => (by cases hc), fun _ => ?_⟩
      rw [show buf.length - 8 * k = r by omega] at hv ⊢
      exact ⟨ws, ⟨⟨rfl, rfl, rfl, trivial⟩, rfl⟩, hwl, hW, hF, hv⟩
    · refine ⟨_, bGe (by omega), ?_⟩
      refine ⟨fun _ => ?_, fun hc => (by cases hc)⟩
      refine ⟨_, nSub (buf.length - 8 * k) 8 (by omega) (by omega), ?_⟩
      refine rnA (sl se_22 _ _ (by omega) (by omega)) ?_
      rw [subA_some (by omega), show buf.length - 8 * k - (buf.length - 8 * k - 8) = 8 by omega]
      have hs := (hrb1.fm hF nbb).sub (buf.length - 8 * k - 8) 8 (by omega)
      have hsl : ((buf.drop (buf.length - 8 * k - 8)).take 8).length = 8 := by rw [List.length_take, List.length_drop]; omega
      refine (bigEndianWord_c (c := c - (buf.length - 8 * k - 8)) hs hsl (by omega)).mono ?_
      rintro v u2 ⟨⟨hF2, hs2⟩, rfl⟩
      refine rnA (ia se_54 _ (by omega)) ?_
      have hxB : bev ((buf.drop (buf.length - 8 * k - 8)).take 8) < BW := by
        have := bev_lt hs.bf
        rw [hsl] at this
        exact this
      obtain ⟨u3, e3, hW3, hF3, hs3⟩ := (hW.fm hF2 (fun h => h)).st (i := 0 + k) (by rw [splice_len (by omega)]; omega) hxB
      refine ⟨u3, e3, ?_⟩
      rw [show 0 + k = 0 + ws.length by omega, splice_snoc (by omega)] at hW3
      refine ⟨_, nSub (buf.length - 8 * k) 8 (by omega) (by omega), ?_⟩
      refine ⟨_, nAdd k 1 (by omega), ?_⟩
      rw [show buf.length - 8 * k - 8 = buf.length - 8 * (k + 1) by omega] at *
      refine ⟨(k + 1, ws ++ [_]), ⟨⟨rfl, rfl, rfl, rfl, trivial⟩, rfl⟩, ⟨hkq, by simp [hwl], hW3, (hF.trans hF2 (fun _ _ h => h.elim)).trans hF3 (fun _ _ h => h), ?_⟩, by show q - (k + 1) < q - k; omega⟩
      show nv (ws ++ [_]) = _
      rw [nv_append, hwl, hv, bev_drop (l := buf) (i := buf.length - 8 * (k + 1)) (n := 8) (by omega), BW_256]
      simp only [nv, Nat.mul_zero, Nat.add_zero]
      rw [show buf.length - (buf.length - 8 * (k + 1) + 8) = 8 * k by omega, show buf.length - 8 * (k + 1) + 8 = buf.length - 8 * k by omega, Nat.mul_comm (256 ^ (8 * k)), Nat.add_comm]
  rintro ws u ⟨hwl, hW, hF, hv⟩
  have hrb2 := hrb1.fm hF nbb
  refine vcut (by repeat (first | exact moE _ _ _ | exact moEd _ _ _ | apply moB | apply moL | apply moV)) (List Nat) (fun ws => ⟨[(0, .slice (some ⟨b, 0, none⟩) n full.length)], []⟩)
    (fun ws u => ws.length = n ∧ Wd u b (splice full 0 ws) ∧ Fm (· = b) w1 u ∧ nv ws = bev buf) ?_ ?_
  · (refine vsr ?_)
    rcases Nat.eq_zero_or_pos r with hr0 | hrp
    · subst hr0
      refine ⟨_, bGtF (by omega), ?_⟩
      refine ⟨fun hc => (by cases hc), fun _ => ?_⟩
      rw [if_pos rfl] at hnq
      rw [List.drop_zero] at hv
      exact ⟨ws, ⟨⟨rfl, trivial⟩, rfl⟩, by omega, hW, hF, hv⟩
    · refine ⟨_, bGt (by omega), ?_⟩
      refine ⟨fun _ => ?_, fun hc => (by cases hc)⟩
      rw [if_neg (by omega)] at hnq
      (refine vsr ?_)
      (repeat refine vcl_v _ rfl rfl ?_); (refine vcl_end ?_)
      have hdB : bev (buf.take r) < BW := by
        have h1 := bev_lt (hrb.bf.take r)
        rw [List.length_take, Nat.min_eq_left (by omega)] at h1
        exact Nat.lt_of_lt_of_le h1 (Nat.pow_le_pow_right (n := 256) (by omega) (show r ≤ 8 by omega))
      refine vcut (by repeat (first | exact moE _ _ _ | exact moEd _ _ _ | apply moB | apply moL | apply moV)) Unit (fun _ => ⟨[(0, .slice (some ⟨b, 0, none⟩) n full.length), (7, vw (bev (buf.take r)))], []⟩) (fun _ u' => u' = u) ?_ ?_
      · (refine vsr ?_)
        (repeat refine vcl_v _ rfl rfl ?_); (refine vcl_end ?_)
        refine vloop Nat (fun j => ⟨[(0, .slice (some ⟨b, 0, none⟩) n full.length), (1, .slice (some ⟨bb, ob, none⟩) buf.length c), (5, .int .i64 ((r - j : Nat) : Int)), (7, vw (bev ((buf.take r).drop (r - j)))), (8, vw (8 * j))], []⟩)
          (fun j u' => u' = u ∧ j ≤ r) (fun j => r - j) 0 ⟨⟨rfl, rfl, rfl, by rw [List.drop_of_length_le (by rw [List.length_take]; omega)]; rfl, rfl, trivial⟩, rfl⟩ ⟨rfl, by omega⟩ ?_
        rintro j u' ⟨rfl, hj⟩
        rcases Nat.eq_or_lt_of_le hj with rfl | hjr
        · refine ⟨_, bGtF (by omega), ?_⟩
          refine ⟨fun hc => (by cases hc), fun _ => ?_⟩
          exact ⟨(), ⟨⟨rfl, by rw [Nat.sub_self, List.drop_zero]; rfl, trivial⟩, rfl⟩, rfl⟩
        · refine ⟨_, bGt (by omega), ?_⟩
          refine ⟨fun _ => ?_, fun hc => (by cases hc)⟩
          refine ⟨_, nSub (r - j) 1 (by omega) (by omega), ?_⟩
          refine rnA (ia se_22 _ (by omega)) ?_
          refine rnC na_5 (hrb2.cell (by omega)) ?_
          have hx := hrb.bf.dg (r - j - 1)
          refine rnA (cv cv_5_101 (wrapU_nat (by omega))) ?_
          refine ⟨_, wShl _ (8 * j) _ (by omega), ?_⟩
          have hlt : (buf.take r).length = r := by rw [List.length_take]; omega
          have hDj := bev_lt ((hrb.bf.take r).drop (r - j))
          rw [List.length_drop, hlt, show r - (r - j) = j by omega] at hDj
          have hp : (256 : Nat) ^ j = 2 ^ (8 * j) := by rw [Nat.pow_mul]
          have hcons : (buf.take r).drop (r - j - 1) = dg buf (r - j - 1) :: (buf.take r).drop (r - j) := by
            have := drop_dg (l := buf.take r) (i := r - j - 1) (by omega)
            rwa [dg_take (by omega), show r - j - 1 + 1 = r - j by omega] at this
          have hbv : bev ((buf.take r).drop (r - j - 1)) = dg buf (r - j - 1) * 2 ^ (8 * j) + bev ((buf.take r).drop (r - j)) := by
            rw [hcons]; simp only [bev]
            rw [List.length_drop, hlt, show r - (r - j) = j by omega, hp]
          have hDn := bev_lt ((hrb.bf.take r).drop (r - j - 1))
          rw [List.length_drop, hlt] at hDn
          have hDn2 : bev ((buf.take r).drop (r - j - 1)) < 18446744073709551616 := Nat.lt_of_lt_of_le hDn (Nat.pow_le_pow_right (n := 256) (by omega) (show r - (r - j - 1) ≤ 8 by omega))
          rw [hp] at hDj
          generalize bev ((buf.take r).drop (r - j)) = D at *
          generalize dg buf (r - j - 1) = x at *
          have hm : (x * 2 ^ (8 * j)) % 18446744073709551616 = x * 2 ^ (8 * j) := Nat.mod_eq_of_lt (by omega)
          rw [hm]
          refine ⟨_, wOr _ _ (by omega) (by omega), ?_⟩
          rw [or_add hDj, ← hbv]
          refine ⟨_, nSub (r - j) 1 (by omega) (by omega), ?_⟩
          refine ⟨_, wAdd' (x := 8 * j) (y := 8) (by omega), ?_⟩
          rw [show r - j - 1 = r - (j + 1) by omega, show 8 * j + 8 = 8 * (j + 1) by omega]
          exact ⟨j + 1, ⟨⟨rfl, rfl, rfl, rfl, rfl, trivial⟩, rfl⟩, ⟨rfl, hjr⟩, by show r - (j + 1) < r - j; omega⟩
      rintro _ u' rfl
      refine ⟨_, _, ln se_54 _ _ _ _ _ _, ?_⟩
      refine ⟨_, nSub n 1 (by omega) (by omega), ?_⟩
      refine rnA (ia se_54 _ (by omega)) ?_
      obtain ⟨u3, e3, hW3, hF3, hs3⟩ := hW.st (i := 0 + (n - 1)) (by rw [splice_len (by omega)]; omega) hdB
      refine ⟨u3, e3, ?_⟩
      rw [show 0 + (n - 1) = 0 + ws.length by omega, splice_snoc (by omega)] at hW3
      refine ⟨ws ++ [_], ⟨⟨rfl, trivial⟩, rfl⟩, by simp; omega, hW3, hF.trans hF3 (fun _ _ h => h), ?_⟩
      have e := bev_append (buf.take r) (buf.drop r)
      rw [List.take_append_drop, List.length_drop, show buf.length - r = 8 * q by omega] at e
      rw [nv_append, hwl, hv, BW_256, e]
      simp only [nv, Nat.mul_zero, Nat.add_zero]
      rw [Nat.mul_comm (256 ^ (8 * q)), Nat.add_comm]
  rintro ws u ⟨hwl, hW, hF, hv⟩
  have ht : (splice full 0 ws).take n = ws := by
    have := splice_mid (Z := full) (o := 0) (l := ws) (by omega)
    rwa [List.drop_zero, hwl] at this
  have hlen : (splice full 0 ws).length = full.length := splice_len (by omega)
  have := norm_res (w := w) (d := d) hW (n := n) (by omega) (by have := hM.c; omega) (hM.fd hF) hM.nd (x := bev buf) (by rw [ht]; exact hv)
  rw [hlen] at this
  refine this.mono ?_
  rintro v w2 hr
  exact ⟨rfl, hr⟩

end Go.Vc
end

section
/- nat.bytes. -/
set_option linter.unusedSimpArgs false
set_option linter.unusedVariables false
set_option maxRecDepth 8000
set_option maxHeartbeats 1000000
namespace Go.Vc
open Go.Proofs

/-- The lowest t bytes of a number, the highest of them first. -/
def beL : Nat → Nat → List Nat
  | 0, _ => []
  | t + 1, V => (V / 256 ^ t) % 256 :: beL t V

theorem beL_len (V : Nat) : ∀ t, (beL t V).length = t
  | 0 => rfl
  | t + 1 => by simp [beL, beL_len V t]

theorem beL_bf (V : Nat) : ∀ t, BF (beL t V)
  | 0 => fun _ h => by cases h
  | t + 1 => fun x hx => by
    rcases List.mem_cons.1 hx with h | h
    · rw [h]; exact Nat.mod_lt _ (by omega)
    · exact beL_bf V t x h

theorem bev_beL (V : Nat) : ∀ t, bev (beL t V) = V % 256 ^ t
  | 0 => by simp [beL, bev, Nat.mod_one]
  | t + 1 => by
    simp only [beL, bev, beL_len, bev_beL V t]
    rw [Nat.mod_pow_succ, Nat.mul_comm, Nat.add_comm]

theorem beL_pad {V t : Nat} (h : V < 256 ^ t) : ∀ a, beL (a + t) V = List.replicate a 0 ++ beL t V
  | 0 => by simp
  | a + 1 => by
    rw [show a + 1 + t = (a + t) + 1 by omega, beL, beL_pad h a, List.replicate_succ, List.cons_append]
    have : V / 256 ^ (a + t) = 0 := Nat.div_eq_of_lt (Nat.lt_of_lt_of_le h (Nat.pow_le_pow_right (by omega) (by omega)))
    rw [this]

theorem set_pad (L : List Nat) (x : Nat) : ∀ a, (List.replicate (a + 1) 0 ++ L).set a x = List.replicate a 0 ++ x :: L
  | 0 => by simp
  | a + 1 => by
    rw [List.replicate_succ, List.cons_append, List.set_cons_succ, set_pad L x a, List.replicate_succ, List.cons_append]

/-- What stands in the room when t bytes are written. -/
def fillC (n V t : Nat) : List Nat := List.replicate (n - t) 0 ++ beL (min t n) V

theorem fillC_len (n V t : Nat) : (fillC n V t).length = n := by
  unfold fillC
  rw [List.length_append, List.length_replicate, beL_len]; omega

theorem fillC_step {n V t : Nat} (h : t < n) : (fillC n V t).set (n - t - 1) ((V / 256 ^ t) % 256) = fillC n V (t + 1) := by
  unfold fillC
  rw [Nat.min_eq_left (by omega), Nat.min_eq_left (by omega), show n - t = (n - t - 1) + 1 by omega, Nat.add_sub_cancel, set_pad, show n - (t + 1) = n - t - 1 by omega]
  rfl

theorem fillC_over {n V t : Nat} (h : n ≤ t) : fillC n V (t + 1) = fillC n V t := by
  unfold fillC
  rw [Nat.min_eq_right h, Nat.min_eq_right (by omega), show n - (t + 1) = 0 by omega, show n - t = 0 by omega]

theorem fillC_end {n V t : Nat} (h : V < 256 ^ t) : fillC n V t = beL n V := by
  unfold fillC
  rcases Nat.le_total t n with h1 | h1
  · rw [Nat.min_eq_left h1, ← beL_pad h, Nat.sub_add_cancel h1]
  · rw [Nat.min_eq_right h1, show n - t = 0 by omega]; rfl

/-- A byte of a word is a byte of the number. -/
theorem byte_of {l : List Nat} (hw : WF l) {k j : Nat} (hk : k < l.length) (hj : j < 8) : (dg l k / 256 ^ j) % 256 = (nv l / 256 ^ (8 * k + j)) % 256 := by
  have e := nv_split l k
  rw [Nat.min_eq_left (by omega), nv_drop hk, BW_256] at e
  have h1 := nv_lt (hw.take k)
  rw [List.length_take, Nat.min_eq_left (by omega), BW_256] at h1
  have e2 : nv l / 256 ^ (8 * k) = dg l k + BW * nv (l.drop (k + 1)) := by
    rw [e, Nat.add_mul_div_left _ _ (Nat.pow_pos (by omega)), Nat.div_eq_of_lt h1, Nat.zero_add]
  rw [Nat.pow_add, ← Nat.div_div_eq_div_mul, e2]
  have e3 : BW * nv (l.drop (k + 1)) = 256 ^ j * (256 * (256 ^ (7 - j) * nv (l.drop (k + 1)))) := by
    have : BW = 256 ^ j * (256 * 256 ^ (7 - j)) := by
      rw [← Nat.pow_succ', ← Nat.pow_add, show j + (7 - j).succ = 8 by omega]; rfl
    rw [this, Nat.mul_assoc, Nat.mul_assoc]
  rw [e3, Nat.add_mul_div_left _ _ (Nat.pow_pos (by omega)), Nat.add_mul_mod_self_left]

theorem bytes_c {w : World} {a : Option Addr} {c : Nat} {l : List Nat} (hx : Sv w a l) (hl : l.length ≤ 500) {bb n cb : Nat} (hB : Bd w bb (List.replicate n 0)) (hn : n ≤ 4000) (hV : nv l < 256 ^ n) :
    CallX P 39 #[.slice a l.length c, .slice (some ⟨bb, 0, none⟩) n cb] w fun v w' => Bd w' bb (beL n (nv l)) ∧ Fm (· = bb) w w' := by
  have hw := hx.wf
  have hVl : nv l < 256 ^ (8 * l.length) := by rw [← BW_256]; exact nv_lt hw
  have hf0 : List.replicate n 0 = fillC n (nv l) 0 := by simp [fillC, beL]
  rw [hf0] at hB
  refine calls_vc mo fn_39 rfl ok_39 (Nat.le_of_ble_eq_true rfl) nm_39 ?_
  refine ⟨_, _, ln se_22 _ _ _ _ _ _, ?_⟩
  (repeat refine vcl_v _ rfl rfl ?_); (refine vcl_end ?_)
  refine vcut (by repeat (first | exact moE _ _ _ | exact moEd _ _ _ | apply moB | apply moL | apply moV)) Unit (fun _ => ⟨[(1, .slice (some ⟨bb, 0, none⟩) n cb), (4, .int .i64 ((n : Int) - 8 * (l.length : Int)))], []⟩) (fun _ u => Bd u bb (fillC n (nv l) (8 * l.length)) ∧ Fm (· = bb) w u) ?_ ?_
  · (refine vsr ?_)
    refine ⟨_, _, ln se_54 _ _ _ _ _ _, ?_⟩
    (repeat refine vcl_v _ rfl rfl ?_); (refine vcl_end ?_)
    refine vloop Nat (fun k => ⟨[(1, .slice (some ⟨bb, 0, none⟩) n cb), (4, .int .i64 ((n : Int) - 8 * (k : Int))), (10, .slice a l.length c), (11, .int .i64 (l.length : Int)), (12, .int .i64 (k : Int))], []⟩)
      (fun k u => k ≤ l.length ∧ Bd u bb (fillC n (nv l) (8 * k)) ∧ Fm (· = bb) w u) (fun k => l.length - k) 0 ⟨⟨rfl, ?_, rfl, rfl, rfl, trivial⟩, rfl⟩ ⟨Nat.zero_le _, hB, Fm.refl _ _⟩ ?_
    · show some (Value.int .i64 (n : Int)) = some (Value.int .i64 ((n : Int) - 8 * ((0 : Nat) : Int)))
      rw [show (n : Int) - 8 * ((0 : Nat) : Int) = (n : Int) by omega]
    rintro k u ⟨hk, hBu, hF⟩
    rcases Nat.eq_or_lt_of_le hk with rfl | hkl
    · refine ⟨_, bLtF (by omega), ?_⟩
      refine ⟨fun hc => (by cases hc), fun _ => ?_⟩
      exact ⟨(), ⟨⟨rfl, rfl, trivial⟩, rfl⟩, hBu, hF⟩
    refine ⟨_, bLt (by omega), ?_⟩
    refine ⟨fun _ => ?_, fun hc => (by cases hc)⟩
    obtain ⟨b1, o1, rfl, hr⟩ := hx.rd (by intro e; rw [e] at hkl; simp at hkl)
    have nb : b1 ≠ bb := fun e => by
      subst e
      obtain ⟨f, hf, _⟩ := hr.all
      exact hB.ne_wd hf rfl
    refine rnA (ia se_54 _ hkl) ?_
    refine rnC na_101 ((hr.fm hF nb).cell hkl) ?_
    (repeat refine vcl_v _ rfl rfl ?_); (refine vcl_end ?_)
    (refine vsr ?_)
    (repeat refine vcl_v _ rfl rfl ?_); (refine vcl_end ?_)
    have hdB := hw.dg k
    refine vloop Nat (fun j => ⟨[(1, .slice (some ⟨bb, 0, none⟩) n cb), (4, .int .i64 ((n : Int) - ((8 * k + j : Nat) : Int))), (6, vw (dg l k / 256 ^ j)), (7, .int .i64 (j : Int)), (10, .slice (some ⟨b1, o1, none⟩) l.length c), (11, .int .i64 (l.length : Int)), (12, .int .i64 (k : Int))], []⟩)
      (fun j u => j ≤ 8 ∧ Bd u bb (fillC n (nv l) (8 * k + j)) ∧ Fm (· = bb) w u) (fun j => 8 - j) 0 ⟨⟨rfl, ?_, ?_, rfl, rfl, rfl, rfl, trivial⟩, rfl⟩ ⟨Nat.zero_le _, hBu, hF⟩ ?_
    · show some (Value.int .i64 ((n : Int) - 8 * (k : Int))) = some (Value.int .i64 ((n : Int) - ((8 * k + 0 : Nat) : Int)))
      rw [show (n : Int) - 8 * (k : Int) = (n : Int) - ((8 * k + 0 : Nat) : Int) by omega]
    · show some (vw (dg l k)) = some (vw (dg l k / 256 ^ 0))
      rw [Nat.pow_zero, Nat.div_one]
    rintro j u2 ⟨hj, hB2, hF2⟩
    rcases Nat.eq_or_lt_of_le hj with rfl | hj8
    · refine ⟨_, bLtF (by omega), ?_⟩
      refine ⟨fun hc => (by cases hc), fun _ => ?_⟩
      refine ⟨_, bAdd (by omega), ?_⟩
      refine ⟨k + 1, ⟨⟨rfl, ?_, rfl, rfl, rfl, trivial⟩, rfl⟩, ⟨hkl, hB2, hF2⟩, by show l.length - (k + 1) < l.length - k; omega⟩
      show some (Value.int .i64 ((n : Int) - ((8 * k + 8 : Nat) : Int))) = some (Value.int .i64 ((n : Int) - 8 * ((k + 1 : Nat) : Int)))
      rw [show (n : Int) - ((8 * k + 8 : Nat) : Int) = (n : Int) - 8 * ((k + 1 : Nat) : Int) by omega]
    refine ⟨_, bLt (by omega), ?_⟩
    refine ⟨fun _ => ?_, fun hc => (by cases hc)⟩
    have hby := byte_of hw hkl hj8
    refine ⟨_, bSub (by omega), ?_⟩
    have hdj : dg l k / 256 ^ j < 18446744073709551616 := Nat.lt_of_le_of_lt (Nat.div_le_self _ _) hdB
    have hsh : dg l k / 256 ^ j / 2 ^ 8 = dg l k / 256 ^ (j + 1) := by
      show dg l k / 256 ^ j / 256 = _
      rw [Nat.div_div_eq_div_mul, ← Nat.pow_succ]
    have hcv : IntKind.u8.wrap ((dg l k / 256 ^ j : Nat) : Int) = ((dg l k / 256 ^ j % 256 : Nat) : Int) := by
      rw [wrapB]
      generalize dg l k / 256 ^ j = x
      omega
    rcases Nat.lt_or_ge (8 * k + j) n with ht | ht
    · refine ⟨_, bGe (by omega), ?_⟩
      refine ⟨fun _ => ?_, fun hc => (by cases hc)⟩
      refine rnA (cv cv_101_5 hcv) ?_
      rw [show (n : Int) - ((8 * k + j : Nat) : Int) - 1 = ((n - (8 * k + j) - 1 : Nat) : Int) by omega]
      refine rnA (ia se_22 _ (by omega)) ?_
      obtain ⟨u3, e3, hB3, hF3, hs3⟩ := hB2.st (i := 0 + (n - (8 * k + j) - 1)) (by rw [fillC_len]; omega) (x := dg l k / 256 ^ j % 256) (Nat.mod_lt _ (by omega))
      refine ⟨u3, e3, ?_⟩
      rw [Nat.zero_add, hby, fillC_step ht] at hB3
      refine ⟨_, wShr _ 8 _ (by omega), ?_⟩
      rw [hsh]
      refine ⟨_, nAdd j 1 (by omega), ?_⟩
      refine ⟨j + 1, ⟨⟨rfl, ?_, rfl, rfl, rfl, rfl, rfl, trivial⟩, rfl⟩, ⟨hj8, hB3, hF2.trans hF3 (fun _ _ h => h)⟩, by show 8 - (j + 1) < 8 - j; omega⟩
      show some (Value.int .i64 ((n - (8 * k + j) - 1 : Nat) : Int)) = some (Value.int .i64 ((n : Int) - ((8 * k + (j + 1) : Nat) : Int)))
      rw [show ((n - (8 * k + j) - 1 : Nat) : Int) = (n : Int) - ((8 * k + (j + 1) : Nat) : Int) by omega]
    · have hz : dg l k / 256 ^ j % 256 = 0 := by
        rw [hby, Nat.div_eq_of_lt (Nat.lt_of_lt_of_le hV (Nat.pow_le_pow_right (by omega) ht))]
      refine ⟨_, bGeF (by omega), ?_⟩
      refine ⟨fun hc => (by cases hc), fun _ => ?_⟩
      refine rnA (cv cv_101_5 hcv) ?_
      rw [hz]
      refine ⟨_, bNeF rfl, ?_⟩
      refine ⟨fun hc => (by cases hc), fun _ => ?_⟩
      refine ⟨_, wShr _ 8 _ (by omega), ?_⟩
      rw [hsh]
      refine ⟨_, nAdd j 1 (by omega), ?_⟩
      refine ⟨j + 1, ⟨⟨rfl, ?_, rfl, rfl, rfl, rfl, rfl, trivial⟩, rfl⟩, ⟨hj8, by rw [show 8 * k + (j + 1) = 8 * k + j + 1 by omega, fillC_over ht]; exact hB2, hF2⟩, by show 8 - (j + 1) < 8 - j; omega⟩
      show some (Value.int .i64 ((n : Int) - ((8 * k + j : Nat) : Int) - 1)) = some (Value.int .i64 ((n : Int) - ((8 * k + (j + 1) : Nat) : Int)))
      rw [show (n : Int) - ((8 * k + j : Nat) : Int) - 1 = (n : Int) - ((8 * k + (j + 1) : Nat) : Int) by omega]
  rintro _ u ⟨hBu, hF⟩
  rw [fillC_end hVl] at hBu
  have hlb := beL_len (nv l) n
  have hbB : Bd u bb (beL n (nv l)) := hBu
  refine vcut (by repeat (first | exact moE _ _ _ | exact moEd _ _ _ | apply moB | apply moL | apply moV)) Nat (fun p => ⟨[(1, .slice (some ⟨bb, 0, none⟩) n cb), (4, .int .i64 (p : Int))], []⟩) (fun p u' => u' = u ∧ p ≤ n) ?_ ?_
  · (refine vsr ?_)
    rcases Nat.lt_or_ge n (8 * l.length) with h | h
    · refine ⟨_, bLt (by omega), ?_⟩
      refine ⟨fun _ => ?_, fun hc => (by cases hc)⟩
      exact ⟨0, ⟨⟨rfl, rfl, trivial⟩, rfl⟩, rfl, Nat.zero_le _⟩
    · refine ⟨_, bLtF (by omega), ?_⟩
      refine ⟨fun hc => (by cases hc), fun _ => ?_⟩
      rw [show (n : Int) - 8 * (l.length : Int) = ((n - 8 * l.length : Nat) : Int) by omega]
      exact ⟨_, ⟨⟨rfl, rfl, trivial⟩, rfl⟩, rfl, by omega⟩
  rintro p0 u' ⟨rfl, hp0⟩
  refine vloop Nat (fun p => ⟨[(1, .slice (some ⟨bb, 0, none⟩) n cb), (4, .int .i64 (p : Int))], []⟩) (fun p u2 => u2 = u' ∧ p ≤ n) (fun p => n - p) p0 ⟨⟨rfl, rfl, trivial⟩, rfl⟩ ⟨rfl, hp0⟩ ?_
  rintro p u2 ⟨rfl, hp⟩
  refine ⟨_, _, ln se_22 _ _ _ _ _ _, ?_⟩
  rcases Nat.eq_or_lt_of_le hp with rfl | hpn
  · refine ⟨_, bLtF (by omega), ?_⟩
    refine ⟨fun hc => (by cases hc), fun _ => ?_⟩
    exact ⟨rfl, hbB, hF⟩
  refine ⟨_, bLt (by omega), ?_⟩
  refine rnA (ia se_22 _ hpn) ?_
  refine rnC na_5 (by rw [Nat.zero_add]; exact hbB.cell (by omega)) ?_
  rcases Classical.em (dg (beL n (nv l)) p = 0) with h | h
  · refine ⟨_, bEq (by omega), ?_⟩
    refine ⟨fun _ => ?_, fun hc => (by cases hc)⟩
    refine ⟨_, nAdd p 1 (by omega), ?_⟩
    exact ⟨p + 1, ⟨⟨rfl, rfl, trivial⟩, rfl⟩, ⟨rfl, hpn⟩, by show n - (p + 1) < n - p; omega⟩
  · refine ⟨_, bEqF (by omega), ?_⟩
    refine ⟨fun hc => (by cases hc), fun _ => ?_⟩
    exact ⟨rfl, hbB, hF⟩

end Go.Vc
end
