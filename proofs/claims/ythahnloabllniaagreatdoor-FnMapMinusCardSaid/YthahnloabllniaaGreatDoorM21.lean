/- sswu3mod4Map: the walk (its steps printed by wm.py). -/
import Derived.Test.YthahnloabllniaaGreatDoorM20
section
set_option linter.unusedSimpArgs false
set_option linter.unusedVariables false
set_option maxRecDepth 20000
set_option maxHeartbeats 4000000
namespace Go.Vc
open Go.Proofs

/-! Aggregates. -/
noncomputable def aggOk (t : TypeId) : Bool := match P.underlying t with
  | some (.struct _) => true
  | some (.array _ _) => true
  | _ => false

theorem ldAg {t n : Nat} (ha : aggOk t = true) (hn : szOf t = some n) {w : World} {b i : Nat} {cs ds : List Value} {T : TypeId} (h : Cl w b cs T) (hd : (cs.drop i).take n = ds) (hl : ds.length = n) :
    (Instr.loadAt t (.pointer (some ⟨b, i, none⟩))).run P w = .ok (.agg ds.toArray) w := by
  have hA : (isAgg t).run P w = .ok true w := by
    unfold aggOk at ha
    split at ha
    · rename_i e; simp only [isAgg, Sem.run_bind, run_und e, Result.andThen_ok]; rfl
    · rename_i e; simp only [isAgg, Sem.run_bind, run_und e, Result.andThen_ok]; rfl
    · cases ha
  have hc := run_loadCells_list (P := P) w ⟨b, i, none⟩ ds (fun j v hj => by
    rw [addr_add]
    have h1 : j < n := by rw [← hl]; exact (List.getElem?_eq_some_iff.1 hj).1
    rw [← hd, List.getElem?_take_of_lt h1, List.getElem?_drop] at hj
    exact h.cell hj)
  rw [hl] at hc
  simp only [Instr.loadAt, Instr.sureAddr, Sem.run_bind, pure, Sem.run, Result.andThen_ok, loadVar, hA, if_true, sizeOf_run hn, hc]

theorem stAg {t : TypeId} {vs cs cs' : List Value} (hs : szOf t = some vs.length) {w : World} {b i : Nat} {T : TypeId} (h : Cl w b cs T) (hi : i + vs.length ≤ cs.length) (h1 : ∀ v ∈ vs, v.oneCell' = true) (hcs : cs.take i ++ vs ++ cs.drop (i + vs.length) = cs') :
    ∃ w', (Instr.storeAt t (.pointer (some ⟨b, i, none⟩)) (.agg vs.toArray)).run P w = .ok () w' ∧ Cl w' b cs' T ∧ Fm (· = b) w w' ∧ w'.heap.size = w.heap.size := by
  have hst := run_storeCells_at P b i T vs 0 cs.toArray w h (by simpa using hi) h1
  simp only [Nat.add_zero] at hst
  refine ⟨_, ?_, setRow_heap w b cs.toArray _ T _ h, ⟨rfl, rfl, rfl, by simp, fun k _ hk => setRow_other w b k _ (fun e => hk e)⟩, by simp⟩
  rw [hcs] at hst
  simp only [Instr.storeAt, Instr.sureAddr, Sem.run_bind, pure, Sem.run, Result.andThen_ok, storeVar, sizeOf_run hs]
  have e : (Value.agg vs.toArray).cells = vs.toArray := rfl
  rw [e, if_neg (by simp)]
  exact hst

/-! Groups and curves. -/
abbrev pC (c : Nat) : Value := .pointer (some ⟨c, 0, none⟩)
abbrev cvV (c : Nat) : Value := .iface 83 (pC c)
/-- A group: its curve, its order's bytes. -/
abbrev wgL (c : Nat) (o : Value) : List Value := [cvV c, o]
abbrev wgV (c : Nat) (o : Value) : Value := .agg #[cvV c, o]

structure Cu (w : World) (c qp qb bits : Nat) : Prop where
  all : ∃ qn qx qy nm, Cl w c [pI qp, pI qn, pI qb, pI qx, pI qy, .int .i64 (bits : Int), .string nm] 94

theorem Cu.fm {S : Nat → Prop} {w w' : World} {c qp qb bits : Nat} (h : Cu w c qp qb bits) (f : Fm S w w') (hs : ¬ S c) : Cu w' c qp qb bits := by
  obtain ⟨qn, qx, qy, nm, h⟩ := h.all
  exact ⟨qn, qx, qy, nm, f.obj h hs⟩

theorem mPar (c : Nat) (w : World) : (method (P.types.size + Made.depth) 83 (pC c) "Params").run P w = .ok (243, pC c) w := by kernel_rfl

theorem params_c (c : Nat) (w : World) : CallX P 243 #[pC c] w fun v w' => w = w' ∧ v = pC c := by
  refine calls_vc mo fn_243 rfl ok_243 (Nat.le_of_ble_eq_true rfl) nm_243 ?_
  exact ⟨rfl, rfl, rfl⟩

/-! Comparisons. -/
theorem cmp0 (x : Int) : (cmpZ x 0 = 0) ↔ x = 0 := by
  unfold cmpZ
  split
  · constructor <;> intro h <;> omega
  · split
    · constructor <;> intro h <;> omega
    · constructor <;> intro h <;> omega
theorem cmpE (x y : Int) : (cmpZ x y = 0) ↔ x = y := by
  unfold cmpZ
  split
  · constructor <;> intro h <;> omega
  · split
    · constructor <;> intro h <;> omega
    · constructor <;> intro h <;> omega

theorem bEqD (a b : Int) (k : IntKind) {t : Bool} (h : (a = b) ↔ t = true) : binV .eql k k a b = some (.bool t) := by
  cases t with
  | true => exact bEq (h.2 rfl)
  | false => exact bEqF (fun e => by have := h.1 e; cases this)

theorem bSgn (x : Int) : binV .eql .i64 .i64 (cmpZ (iv (zi x)) 0) 0 = some (.bool (decide (x = 0))) := bEqD _ _ _ (by rw [iv_zi, cmp0]; simp)
theorem bCmp (x y : Int) : binV .eql .i64 .i64 (cmpZ (iv (zi x)) (iv (zi y))) 0 = some (.bool (decide (x = y))) := bEqD _ _ _ (by rw [iv_zi, iv_zi, cmpE]; simp)
theorem bPar {x y : Int} (hx : 0 ≤ x) (hy : 0 ≤ y) : binV .eql .u64 .u64 ((x.natAbs % 2 : Nat) : Int) ((y.natAbs % 2 : Nat) : Int) = some (.bool (decide (x % 2 = y % 2))) :=
  bEqD _ _ _ (by rw [decide_eq_true_eq]; constructor <;> intro h <;> omega)

theorem signR {w0 w : World} {K : Nat → Prop} {ps : List Nat} {vs : List Zn} (R : Rs w0 w K ps vs) {i z : Nat} {a : Int} (hz : ps[i]? = some z) (ha : vs[i]? = some (zi a)) :
    CallX P 70 #[pI z] w fun v w' => w = w' ∧ v = .int .i64 (cmpZ (iv (zi a)) 0) := by
  obtain ⟨S, D, h, hr, F⟩ := R.all
  exact sign_I h (hr.get hz ha)

theorem cmpR {w0 w : World} {K : Nat → Prop} {ps : List Nat} {vs : List Zn} (R : Rs w0 w K ps vs) {i j x y : Nat} {a b : Int} (hx : ps[i]? = some x) (hy : ps[j]? = some y) (ha : vs[i]? = some (zi a)) (hb : vs[j]? = some (zi b)) (ba : a.natAbs < BW ^ 200) (bb : b.natAbs < BW ^ 200) :
    CallX P 71 #[pI x, pI y] w fun v w' => v = .int .i64 (cmpZ (iv (zi a)) (iv (zi b))) ∧ Rs w0 w' K ps vs := by
  obtain ⟨S, D, h, hr, F⟩ := R.all
  refine (cmp_I h (hr.get hx ha) (hr.get hy hb) (cln_zi a) (cln_zi b) ba bb).mono ?_
  rintro v w1 ⟨rfl, f⟩
  exact ⟨rfl, R.un f (fun _ h => h.elim)⟩

theorem modInvR {w0 w : World} {K : Nat → Prop} {ps : List Nat} {vs : List Zn} {be : Addr} {p : Nat} (E : Env w0 K be) (R : Rs w0 w K ps vs) {pp : Nat} (hp : ps[0]? = some pp) (hv : vs[0]? = some (false, p)) (p1 : 1 < p) (p2 : p < BW ^ 10) {i j z x : Nat} {a : Int} (i0 : i ≠ 0) (hz : ps[i]? = some z) (hx : ps[j]? = some x) (ha : vs[j]? = some (zi a)) (hpr : Prm p) (hr : 0 ≤ a ∧ a < p) (h0 : ¬ Cg p a 0) :
    CallX P 72 #[pI z, pI x, pI pp] w fun v w' => v = pI z ∧ ∃ X : Int, Rs w0 w' K ps (vs.set i (zi X)) ∧ X.natAbs < BW ^ 13 ∧ Cg p (a * X) 1 := by
  obtain ⟨S, D, h, hg, F⟩ := R.all
  have hl : i < vs.length := by rw [← hg.len]; exact (List.getElem?_eq_some_iff.1 hz).1
  obtain ⟨n, rfl⟩ : ∃ n : Nat, a = (n : Int) := ⟨a.toNat, by omega⟩
  rw [zi_nat] at ha
  have hn0 : n ≠ 0 := fun e => h0 (by rw [e]; rfl)
  have hcop : Nat.gcd n p = 1 := by
    rw [Nat.gcd_comm]
    refine hpr.cop (fun hd => ?_)
    have := Nat.le_of_dvd (by omega) hd
    omega
  refine (ModInverse_c (E.gl F) (fun f => E.gl (F.trans f (fun _ _ h => h))) h (hg.get hz (List.getElem?_eq_getElem hl)) (hg.get hx ha) (hg.get hp hv) (fun e => i0 (nodup_ix hg.nd hz (e ▸ hp))) (by omega) (by omega) (Nat.lt_trans (by omega) p2) p2 hcop).mono ?_
  rintro v w1 ⟨rfl, S', D', X, h1, f1, hzX, bX, ⟨k, hk⟩, hold⟩
  refine ⟨rfl, X, ⟨S', D', h1, ⟨hg.nd, by rw [List.length_set]; exact hg.len, fun {j' z' v} g1 g2 => ?_⟩, F.trans f1 (fun _ _ h => h)⟩, bX, ?_⟩
  · rcases Classical.em (j' = i) with e | e
    · subst e
      rw [hz] at g1
      cases g1
      rw [List.getElem?_set_self hl] at g2
      cases g2
      exact hzX
    · rw [List.getElem?_set_ne (fun e2 => e e2.symm)] at g2
      have hne : z' ≠ z := fun e2 => e (nodup_ix hg.nd g1 (by rw [e2]; exact hz))
      rw [hold z' (Rg.lt h hg z' (List.mem_of_getElem? g1)) hne]
      exact hg.get g1 g2
  · refine Cg.of_dvd ⟨-k, ?_⟩
    have e : (n : Int) * X = X * (n : Int) := Int.mul_comm _ _
    have e2 : k * (p : Int) = (p : Int) * k := Int.mul_comm _ _
    rw [e, Int.mul_neg]
    omega

theorem rshR {w0 w : World} {K : Nat → Prop} {ps : List Nat} {vs : List Zn} (R : Rs w0 w K ps vs) {i z : Nat} {a : Int} (hz : ps[i]? = some z) (ha : vs[i]? = some (zi a)) (h0 : 0 ≤ a) (ba : a.natAbs < BW ^ 200) {c : Nat} (hc : a.natAbs / 2 ^ 2 = c) :
    CallX P 57 #[pI z, pI z, vw 2] w fun v w' => v = pI z ∧ Rs w0 w' K ps (vs.set i (false, c)) := by
  obtain ⟨S, D, h, hr, F⟩ := R.all
  refine (rsh_I h (hr.get hz ha) (hr.get hz ha) (by simp [zi]; omega) ba (s := 2) (by omega) (by omega)).mono ?_
  rintro v w1 ⟨rfl, hI⟩
  rw [zi2, hc] at hI
  exact ⟨rfl, Rs.up hr F i hz hI⟩

theorem keepR {w0 w w' : World} {K : Nat → Prop} {ps : List Nat} {vs : List Zn} {be : Addr} (E : Env w0 K be) (R : Rs w0 w K ps vs) (f : Fm (fun _ => False) w w') :
    ∃ K1 : Nat → Prop, Env w' K1 be ∧ Rs w' w' K1 ps vs ∧ (∀ b, K b → K1 b) ∧ (∀ b, w.heap.size ≤ b → b < w'.heap.size → K1 b) ∧ (∀ {w''}, Fm (fun b => ¬ K1 b) w' w'' → Fm (fun b => ¬ K b) w0 w'') :=
  ⟨_, E.re R.fm f, R.re f, fun b h => .inl h, fun b h1 h2 => .inr ⟨h1, h2⟩, fun g => Rs.out R.fm f g⟩

theorem Rs.two {w0 w : World} {K : Nat → Prop} {ps : List Nat} {vs : List Zn} (R : Rs w0 w K ps vs) {i j x y : Nat} {a b : Zn} (hx : ps[i]? = some x) (hy : ps[j]? = some y) (ha : vs[i]? = some a) (hb : vs[j]? = some b) (ij : i ≠ j) : Rs w0 w K [x, y] [a, b] := by
  obtain ⟨S, D, h, hr, F⟩ := R.all
  refine ⟨S, D, h, ⟨?_, rfl, fun {k z v} h1 h2 => ?_⟩, F⟩
  · simp only [List.nodup_cons, List.mem_singleton, List.not_mem_nil, not_false_eq_true, List.nodup_nil, and_true]
    exact fun e => ij (nodup_ix hr.nd hx (by rw [e]; exact hy))
  · match k with
    | 0 => cases h1; cases h2; exact hr.get hx ha
    | 1 => cases h1; cases h2; exact hr.get hy hb
    | k + 2 => simp at h1

theorem bldE (x y c : Nat) (oa : Option Addr) (on oc : Nat) (w : World) : (Instr.build 91 [(0, pI x), (1, pI y), (2, wgV c (.slice oa on oc))].toArray).run P w = .ok (.agg #[pI x, pI y, cvV c, .slice oa on oc]) w := by kernel_rfl


set_option maxHeartbeats 40000000 in
theorem sswu_c {w0 w : World} {K : Nat → Prop} {be : Addr} (E : Env w0 K be) {s : Sp} (hs : s.Ok) {pp pb pZ pc pu c bits : Nat} {oa : Option Addr} {on oc : Nat} (R : Rs w0 w K [pp, pb, pZ, pc, pu] [(false, s.p), zi s.B, zi s.Z, zi s.C2, zi s.u])
    (hCu : Cu w0 c pp pb bits) (hKc : K c) (bp2 : s.p < BW ^ 9) (bp1 : BW ≤ s.p) (bc2 : BW ≤ s.c) (bZ0 : s.Z.natAbs < BW ^ 9) (bC0 : s.C2.natAbs < BW ^ 9) :
    CallX P 43 #[wgV c (.slice oa on oc), pI pu, pI pZ, pI pc] w fun v w' => ∃ e px py K' X, v = pC e ∧ Cl w' e [pI px, pI py, cvV c, .slice oa on oc] 91 ∧ K' e ∧ (∀ b, K b → K' b) ∧ Env w' K' be ∧
      Rs w' w' K' [px, py] [zi (s.xn * X % s.p), zi s.y] ∧ Cg s.p (s.xd * X) 1 ∧ Cu w' c pp pb bits ∧ w.heap.size ≤ e ∧ Fm (fun b => ¬ K b) w0 w' := by
  have p1 : 1 < s.p := by have := hs.p3; omega
  have p2 : s.p < BW ^ 10 := lt_pow bp2 (by omega)
  have odd : s.p % 2 = 1 := by have := hs.c4; omega
  have bc1 : s.c < BW ^ 10 := by have := hs.c4; omega
  have bm : ∀ x : Int, (x % (s.p : Int)).natAbs < BW ^ 10 := fun x => Nat.lt_trans (Int.emod_natAbs (by omega)) p2
  have bl : ∀ x : Int, 0 ≤ x → x < s.p → x.natAbs < BW ^ 10 := fun x h0 h1 => Nat.lt_trans (by omega) p2
  have bZ : s.Z.natAbs < BW ^ 10 := lt_pow bZ0 (by omega)
  have bC : s.C2.natAbs < BW ^ 10 := lt_pow bC0 (by omega)
  have bB : s.B.natAbs < BW ^ 10 := bl _ hs.b0 hs.b1
  have bu : s.u.natAbs < BW ^ 10 := bl _ (Int.le_of_lt hs.u0) hs.u1
  have sm : ∀ {n : Nat}, n < 18446744073709551616 → n < BW ^ 10 := fun {n} h => by
    have h1 : BW ^ 1 ≤ BW ^ 10 := pow_le_pow (by omega)
    rw [Nat.pow_one] at h1
    exact Nat.lt_of_lt_of_le h h1
  have b3 : (-3 : Int).natAbs < BW ^ 10 := sm (by decide)
  have b3p : (3 : Int).natAbs < BW ^ 10 := sm (by decide)
  have b1 : (1 : Int).natAbs < BW ^ 10 := sm (by decide)
  have b_y : s.y.natAbs < BW ^ 10 := bm _
  have b_xd : s.xd.natAbs < BW ^ 10 := bl _ hs.xdr.1 hs.xdr.2
  have b_yy : s.yy.natAbs < BW ^ 10 := bl _ hs.ory.1 hs.ory.2
  have bny : (-s.yy).natAbs < BW ^ 10 := by rw [Int.natAbs_neg]; exact b_yy
  have b_yf : s.yf.natAbs < BW ^ 10 := by unfold Sp.yf; split; exact b_yy; exact bny
  have b_xn : s.xn.natAbs < BW ^ 10 := by unfold Sp.xn; split; exact bm _; exact bm _
  have b_t1 : s.t1.natAbs < BW ^ 10 := bm _
  have b_t3 : s.t3.natAbs < BW ^ 10 := bm _
  have b_t2 : s.t2.natAbs < BW ^ 10 := bm _
  have b_d : s.d.natAbs < BW ^ 10 := bm _
  have b_n0 : s.n0.natAbs < BW ^ 10 := bm _
  have b_n : s.n.natAbs < BW ^ 10 := bm _
  have b_d3 : s.d3.natAbs < BW ^ 10 := bm _
  have b_za : s.za.natAbs < BW ^ 10 := bm _
  have b_q2 : s.q2.natAbs < BW ^ 10 := bm _
  have b_gxd : s.gxd.natAbs < BW ^ 10 := bm _
  have b_a2 : s.a2.natAbs < BW ^ 10 := bm _
  have b_g0 : s.g0.natAbs < BW ^ 10 := bm _
  have b_g1 : s.g1.natAbs < BW ^ 10 := bm _
  have b_g2 : s.g2.natAbs < BW ^ 10 := bm _
  have b_bg : s.bg.natAbs < BW ^ 10 := bm _
  have b_gx : s.gx.natAbs < BW ^ 10 := bm _
  have b_f2 : s.f2.natAbs < BW ^ 10 := bm _
  have b_k : s.k.natAbs < BW ^ 10 := bm _
  have b_f4 : s.f4.natAbs < BW ^ 10 := bm _
  have b_e : s.e.natAbs < BW ^ 10 := bm _
  have b_y1 : s.y1.natAbs < BW ^ 10 := bm _
  have b_x2 : s.x2.natAbs < BW ^ 10 := bm _
  have b_y2a : s.y2a.natAbs < BW ^ 10 := bm _
  have b_y2b : s.y2b.natAbs < BW ^ 10 := bm _
  have b_y2 : s.y2.natAbs < BW ^ 10 := bm _
  have b_v1 : s.v1.natAbs < BW ^ 10 := bm _
  have b_v : s.v.natAbs < BW ^ 10 := bm _
  have hcc : ((s.p : Int) - 3).natAbs / 2 ^ 2 = s.c := by have := hs.c4; omega
  refine calls_vc mo fn_43 rfl ok_43 (Nat.le_of_ble_eq_true rfl) nm_43 ?_
  (refine vsr ?_)
  obtain ⟨g1, e1, cg1, fg1, sg1⟩ := bx 73 (v := wgV c (.slice oa on oc)) (cs := [cvV c, .slice oa on oc]) rfl w
  refine ⟨_, g1, e1, ?_⟩
  (repeat refine vcl_v _ rfl rfl ?_); (refine vcl_end ?_)
  obtain ⟨K1, E1, R1, hsub1, hnew1, hout1⟩ := keepR E R fg1
  have hK1 : K1 w.heap.size := hnew1 _ (Nat.le_refl _) (by omega)
  have hCu1 : Cu g1 c pp pb bits := (hCu.fm R.fm (fun e => e hKc)).fm fg1 (fun h => h)
  have hKc1 : K1 c := hsub1 c hKc
  have hKs1 := hsub1
  clear E R hCu hKc hnew1
  obtain ⟨a5, w5, e5, Ra5, -⟩ := alI R1
  refine ⟨_, w5, e5, ?_⟩
  replace Ra5 : Rs g1 w5 K1 [pp, pb, pZ, pc, pu, a5] [(false, s.p), zi s.B, zi s.Z, zi s.C2, zi s.u, (false, 0)] := Ra5
  clear R1 e5
  obtain ⟨a6, w6, e6, Ra6, -⟩ := alI Ra5
  refine ⟨_, w6, e6, ?_⟩
  replace Ra6 : Rs g1 w6 K1 [pp, pb, pZ, pc, pu, a5, a6] [(false, s.p), zi s.B, zi s.Z, zi s.C2, zi s.u, (false, 0), (false, 0)] := Ra6
  clear Ra5 e6
  obtain ⟨a7, w7, e7, Ra7, -⟩ := alI Ra6
  refine ⟨_, w7, e7, ?_⟩
  replace Ra7 : Rs g1 w7 K1 [pp, pb, pZ, pc, pu, a5, a6, a7] [(false, s.p), zi s.B, zi s.Z, zi s.C2, zi s.u, (false, 0), (false, 0), (false, 0)] := Ra7
  clear Ra6 e7
  obtain ⟨a8, w8, e8, Ra8, -⟩ := alI Ra7
  refine ⟨_, w8, e8, ?_⟩
  replace Ra8 : Rs g1 w8 K1 [pp, pb, pZ, pc, pu, a5, a6, a7, a8] [(false, s.p), zi s.B, zi s.Z, zi s.C2, zi s.u, (false, 0), (false, 0), (false, 0), (false, 0)] := Ra8
  clear Ra7 e8
  obtain ⟨a9, w9, e9, Ra9, -⟩ := alI Ra8
  refine ⟨_, w9, e9, ?_⟩
  replace Ra9 : Rs g1 w9 K1 [pp, pb, pZ, pc, pu, a5, a6, a7, a8, a9] [(false, s.p), zi s.B, zi s.Z, zi s.C2, zi s.u, (false, 0), (false, 0), (false, 0), (false, 0), (false, 0)] := Ra9
  clear Ra8 e9
  obtain ⟨a10, w10, e10, Ra10, -⟩ := alI Ra9
  refine ⟨_, w10, e10, ?_⟩
  replace Ra10 : Rs g1 w10 K1 [pp, pb, pZ, pc, pu, a5, a6, a7, a8, a9, a10] [(false, s.p), zi s.B, zi s.Z, zi s.C2, zi s.u, (false, 0), (false, 0), (false, 0), (false, 0), (false, 0), (false, 0)] := Ra10
  clear Ra9 e10
  obtain ⟨a11, w11, e11, Ra11, -⟩ := alI Ra10
  refine ⟨_, w11, e11, ?_⟩
  replace Ra11 : Rs g1 w11 K1 [pp, pb, pZ, pc, pu, a5, a6, a7, a8, a9, a10, a11] [(false, s.p), zi s.B, zi s.Z, zi s.C2, zi s.u, (false, 0), (false, 0), (false, 0), (false, 0), (false, 0), (false, 0), (false, 0)] := Ra11
  clear Ra10 e11
  obtain ⟨a12, w12, e12, Ra12, -⟩ := alI Ra11
  refine ⟨_, w12, e12, ?_⟩
  replace Ra12 : Rs g1 w12 K1 [pp, pb, pZ, pc, pu, a5, a6, a7, a8, a9, a10, a11, a12] [(false, s.p), zi s.B, zi s.Z, zi s.C2, zi s.u, (false, 0), (false, 0), (false, 0), (false, 0), (false, 0), (false, 0), (false, 0), (false, 0)] := Ra12
  clear Ra11 e12
  obtain ⟨a13, w13, e13, Ra13, -⟩ := alI Ra12
  refine ⟨_, w13, e13, ?_⟩
  replace Ra13 : Rs g1 w13 K1 [pp, pb, pZ, pc, pu, a5, a6, a7, a8, a9, a10, a11, a12, a13] [(false, s.p), zi s.B, zi s.Z, zi s.C2, zi s.u, (false, 0), (false, 0), (false, 0), (false, 0), (false, 0), (false, 0), (false, 0), (false, 0), (false, 0)] := Ra13
  clear Ra12 e13
  obtain ⟨a14, w14, e14, Ra14, -⟩ := alI Ra13
  refine ⟨_, w14, e14, ?_⟩
  replace Ra14 : Rs g1 w14 K1 [pp, pb, pZ, pc, pu, a5, a6, a7, a8, a9, a10, a11, a12, a13, a14] [(false, s.p), zi s.B, zi s.Z, zi s.C2, zi s.u, (false, 0), (false, 0), (false, 0), (false, 0), (false, 0), (false, 0), (false, 0), (false, 0), (false, 0), (false, 0)] := Ra14
  clear Ra13 e14
  obtain ⟨a15, w15, e15, Ra15, -⟩ := alI Ra14
  refine ⟨_, w15, e15, ?_⟩
  replace Ra15 : Rs g1 w15 K1 [pp, pb, pZ, pc, pu, a5, a6, a7, a8, a9, a10, a11, a12, a13, a14, a15] [(false, s.p), zi s.B, zi s.Z, zi s.C2, zi s.u, (false, 0), (false, 0), (false, 0), (false, 0), (false, 0), (false, 0), (false, 0), (false, 0), (false, 0), (false, 0), (false, 0)] := Ra15
  clear Ra14 e15
  obtain ⟨a16, w16, e16, Ra16, -⟩ := alI Ra15
  refine ⟨_, w16, e16, ?_⟩
  replace Ra16 : Rs g1 w16 K1 [pp, pb, pZ, pc, pu, a5, a6, a7, a8, a9, a10, a11, a12, a13, a14, a15, a16] [(false, s.p), zi s.B, zi s.Z, zi s.C2, zi s.u, (false, 0), (false, 0), (false, 0), (false, 0), (false, 0), (false, 0), (false, 0), (false, 0), (false, 0), (false, 0), (false, 0), (false, 0)] := Ra16
  clear Ra15 e16
  obtain ⟨a17, w17, e17, Ra17, -⟩ := alI Ra16
  refine ⟨_, w17, e17, ?_⟩
  replace Ra17 : Rs g1 w17 K1 [pp, pb, pZ, pc, pu, a5, a6, a7, a8, a9, a10, a11, a12, a13, a14, a15, a16, a17] [(false, s.p), zi s.B, zi s.Z, zi s.C2, zi s.u, (false, 0), (false, 0), (false, 0), (false, 0), (false, 0), (false, 0), (false, 0), (false, 0), (false, 0), (false, 0), (false, 0), (false, 0), (false, 0)] := Ra17
  clear Ra16 e17
  obtain ⟨a18, w18, e18, Ra18, -⟩ := alI Ra17
  refine ⟨_, w18, e18, ?_⟩
  replace Ra18 : Rs g1 w18 K1 [pp, pb, pZ, pc, pu, a5, a6, a7, a8, a9, a10, a11, a12, a13, a14, a15, a16, a17, a18] [(false, s.p), zi s.B, zi s.Z, zi s.C2, zi s.u, (false, 0), (false, 0), (false, 0), (false, 0), (false, 0), (false, 0), (false, 0), (false, 0), (false, 0), (false, 0), (false, 0), (false, 0), (false, 0), (false, 0)] := Ra18
  clear Ra17 e18
  refine (newInt_R Ra18 (x := -3) (by omega)).mono ?_
  rintro _ w19 ⟨qA, rfl, _, RA⟩
  replace RA : Rs g1 w19 K1 [pp, pb, pZ, pc, pu, a5, a6, a7, a8, a9, a10, a11, a12, a13, a14, a15, a16, a17, a18, qA] [(false, s.p), zi s.B, zi s.Z, zi s.C2, zi s.u, (false, 0), (false, 0), (false, 0), (false, 0), (false, 0), (false, 0), (false, 0), (false, 0), (false, 0), (false, 0), (false, 0), (false, 0), (false, 0), (false, 0), zi (-3)] := RA
  clear Ra18
  refine rnA (fa fo_73_0 _ _) ?_
  refine rnL na_71 (RA.cl cg1 hK1) rfl ?_
  refine ⟨_, _, mPar _ _, ?_⟩
  refine (params_c c _).mono ?_
  rintro _ _ ⟨rfl, rfl⟩
  have hCuA := hCu1.fm RA.fm (fun e => e hKc1)
  obtain ⟨qn, qx, qy, nm, hcl⟩ := hCuA.all
  refine rnA (fa fo_94_2 _ _) ?_
  refine rnL na_52 hcl rfl ?_
  refine rnA (fa fo_73_0 _ _) ?_
  refine rnL na_71 (RA.cl cg1 hK1) rfl ?_
  refine ⟨_, _, mPar _ _, ?_⟩
  refine (params_c c _).mono ?_
  rintro _ wA ⟨rfl, rfl⟩
  refine rnA (fa fo_94_0 _ _) ?_
  refine rnL na_52 hcl rfl ?_
  obtain ⟨g2, eg2, cg2, fg2, sg2⟩ := nw (t := 52) (z := .pointer none) (by kernel_rfl) (cs := [.pointer none]) rfl w19
  refine ⟨_, g2, eg2, ?_⟩
  obtain ⟨g3, eg3, cg3, fg3, sg3⟩ := st sz_52 cg2 (i := 0) (by simp) (v := pI pp) rfl
  refine ⟨g3, eg3, ?_⟩
  have fg23 : Fm (fun _ => False) w19 g3 := fg2.trans fg3 (fun b hb e => by omega)
  obtain ⟨K2, E2, Rp, hsub2, hnew2, hout2⟩ := keepR E1 RA fg23
  have hT : Cl g3 w19.heap.size [pI pp] 52 := cg3
  have hK : K2 w19.heap.size := hnew2 _ (Nat.le_refl _) (by omega)
  have hG3 : Cl g3 w.heap.size [cvV c, .slice oa on oc] 73 := fg23.obj (RA.cl cg1 hK1) (fun h => h)
  have hKG : K2 w.heap.size := hsub2 _ hK1
  have hCu3 : Cu g3 c pp pb bits := hCuA.fm fg23 (fun h => h)
  have hKc3 : K2 c := hsub2 c hKc1
  have hsz3 : w.heap.size ≤ g3.heap.size := by have := RA.fm.size; omega
  clear RA E1 hcl hCuA hCu1 cg1 hnew2 cg2 cg3 eg2 eg3 fg2 fg3
  obtain ⟨a20, wB, eB, R0b, -⟩ := alI Rp
  refine ⟨_, wB, eB, ?_⟩
  replace R0b : Rs g3 wB K2 [pp, pb, pZ, pc, pu, a5, a6, a7, a8, a9, a10, a11, a12, a13, a14, a15, a16, a17, a18, qA, a20] [(false, s.p), zi s.B, zi s.Z, zi s.C2, zi s.u, (false, 0), (false, 0), (false, 0), (false, 0), (false, 0), (false, 0), (false, 0), (false, 0), (false, 0), (false, 0), (false, 0), (false, 0), (false, 0), (false, 0), zi (-3), (false, 0)] := R0b
  clear Rp
  refine ⟨.take 0 (.take 1 (.take 4 (.one 2 [4, 1, 0] (.one 3 [4] (.one 5 [] (.done)))))), by kernel_rfl, ?_⟩
  refine tkL na_52 (R0b.cl hT hK) rfl ?_
  refine (newInt_R R0b.dr (x := 3) (by omega)).mono ?_
  rintro _ wD ⟨q3, rfl, _, R0d⟩
  replace R0d : Rs g3 wD K2 [pp, pb, pZ, pc, pu, a5, a6, a7, a8, a9, a10, a11, a12, a13, a14, a15, a16, a17, a18, qA, a20, q3] [(false, s.p), zi s.B, zi s.Z, zi s.C2, zi s.u, (false, 0), (false, 0), (false, 0), (false, 0), (false, 0), (false, 0), (false, 0), (false, 0), (false, 0), (false, 0), (false, 0), (false, 0), (false, 0), (false, 0), zi (-3), (false, 0), zi 3] := R0d
  refine ⟨⟨(R0d.cl hT hK).cell rfl, trivial⟩, ?_⟩
  clear R0b
  refine (subR R0d (i := 20) (j := 0) (k := 21) (a := (s.p : Int)) (b := 3) rfl rfl rfl (by rw [zi_nat]; rfl) rfl (by rw [Int.natAbs_natCast]; exact lt_pow p2 (by omega)) (lt_pow b3p (by omega))).mono ?_
  rintro _ wE ⟨rfl, R0e⟩
  replace R0e : Rs g3 wE K2 [pp, pb, pZ, pc, pu, a5, a6, a7, a8, a9, a10, a11, a12, a13, a14, a15, a16, a17, a18, qA, a20, q3] [(false, s.p), zi s.B, zi s.Z, zi s.C2, zi s.u, (false, 0), (false, 0), (false, 0), (false, 0), (false, 0), (false, 0), (false, 0), (false, 0), (false, 0), (false, 0), (false, 0), (false, 0), (false, 0), (false, 0), zi (-3), zi ((s.p : Int) - 3), zi 3] := R0e
  refine ⟨trivial, ?_⟩
  clear R0d
  refine (rshR R0e (i := 20) (a := (s.p : Int) - 3) rfl rfl (by have := hs.p3; omega) (lt_pow (a := 10) (by have := hs.p3; omega) (by omega)) hcc).mono ?_
  rintro _ w20 ⟨rfl, R0⟩
  replace R0 : Rs g3 w20 K2 [pp, pb, pZ, pc, pu, a5, a6, a7, a8, a9, a10, a11, a12, a13, a14, a15, a16, a17, a18, qA, a20, q3] [(false, s.p), zi s.B, zi s.Z, zi s.C2, zi s.u, (false, 0), (false, 0), (false, 0), (false, 0), (false, 0), (false, 0), (false, 0), (false, 0), (false, 0), (false, 0), (false, 0), (false, 0), (false, 0), (false, 0), zi (-3), (false, s.c), zi 3] := R0
  refine ⟨trivial, ?_⟩
  clear R0e
  refine (sqrc E2 R0 rfl rfl p1 p2 hT hK (i := 5) (j := 4) (a := s.u) (c := s.t1) (by decide) rfl rfl rfl rfl (lt_pow bu (by omega))).mono ?_
  rintro _ w21 R1
  replace R1 : Rs g3 w21 K2 [pp, pb, pZ, pc, pu, a5, a6, a7, a8, a9, a10, a11, a12, a13, a14, a15, a16, a17, a18, qA, a20, q3] [(false, s.p), zi s.B, zi s.Z, zi s.C2, zi s.u, zi s.t1, (false, 0), (false, 0), (false, 0), (false, 0), (false, 0), (false, 0), (false, 0), (false, 0), (false, 0), (false, 0), (false, 0), (false, 0), (false, 0), zi (-3), (false, s.c), zi 3] := R1
  clear R0
  refine (mulc E2 R1 rfl rfl p1 p2 hT hK (i := 7) (j := 2) (k := 5) (a := s.Z) (b := s.t1) (c := s.t3) (by decide) rfl rfl rfl rfl rfl rfl (lt_pow bZ (by omega)) (lt_pow b_t1 (by omega)) (by decide)).mono ?_
  rintro _ w22 R2
  replace R2 : Rs g3 w22 K2 [pp, pb, pZ, pc, pu, a5, a6, a7, a8, a9, a10, a11, a12, a13, a14, a15, a16, a17, a18, qA, a20, q3] [(false, s.p), zi s.B, zi s.Z, zi s.C2, zi s.u, zi s.t1, (false, 0), zi s.t3, (false, 0), (false, 0), (false, 0), (false, 0), (false, 0), (false, 0), (false, 0), (false, 0), (false, 0), (false, 0), (false, 0), zi (-3), (false, s.c), zi 3] := R2
  clear R1
  refine (sqrc E2 R2 rfl rfl p1 p2 hT hK (i := 6) (j := 7) (a := s.t3) (c := s.t2) (by decide) rfl rfl rfl rfl (lt_pow b_t3 (by omega))).mono ?_
  rintro _ w23 R3
  replace R3 : Rs g3 w23 K2 [pp, pb, pZ, pc, pu, a5, a6, a7, a8, a9, a10, a11, a12, a13, a14, a15, a16, a17, a18, qA, a20, q3] [(false, s.p), zi s.B, zi s.Z, zi s.C2, zi s.u, zi s.t1, zi s.t2, zi s.t3, (false, 0), (false, 0), (false, 0), (false, 0), (false, 0), (false, 0), (false, 0), (false, 0), (false, 0), (false, 0), (false, 0), zi (-3), (false, s.c), zi 3] := R3
  clear R2
  refine (addc E2 R3 rfl rfl p1 p2 hT hK (i := 10) (j := 6) (k := 7) (a := s.t2) (b := s.t3) (c := s.d) (by decide) rfl rfl rfl rfl rfl rfl (lt_pow b_t2 (by omega)) (lt_pow b_t3 (by omega))).mono ?_
  rintro _ w24 R4
  replace R4 : Rs g3 w24 K2 [pp, pb, pZ, pc, pu, a5, a6, a7, a8, a9, a10, a11, a12, a13, a14, a15, a16, a17, a18, qA, a20, q3] [(false, s.p), zi s.B, zi s.Z, zi s.C2, zi s.u, zi s.t1, zi s.t2, zi s.t3, (false, 0), (false, 0), zi s.d, (false, 0), (false, 0), (false, 0), (false, 0), (false, 0), (false, 0), (false, 0), (false, 0), zi (-3), (false, s.c), zi 3] := R4
  clear R3
  refine (newInt_R R4 (x := 1) (by omega)).mono ?_
  rintro _ w25 ⟨q0, rfl, _, R5⟩
  replace R5 : Rs g3 w25 K2 [pp, pb, pZ, pc, pu, a5, a6, a7, a8, a9, a10, a11, a12, a13, a14, a15, a16, a17, a18, qA, a20, q3, q0] [(false, s.p), zi s.B, zi s.Z, zi s.C2, zi s.u, zi s.t1, zi s.t2, zi s.t3, (false, 0), (false, 0), zi s.d, (false, 0), (false, 0), (false, 0), (false, 0), (false, 0), (false, 0), (false, 0), (false, 0), zi (-3), (false, s.c), zi 3, zi 1] := R5
  clear R4
  refine (addc E2 R5 rfl rfl p1 p2 hT hK (i := 11) (j := 10) (k := 22) (a := s.d) (b := 1) (c := s.n0) (by decide) rfl rfl rfl rfl rfl rfl (lt_pow b_d (by omega)) (lt_pow b1 (by omega))).mono ?_
  rintro _ w26 R6
  replace R6 : Rs g3 w26 K2 [pp, pb, pZ, pc, pu, a5, a6, a7, a8, a9, a10, a11, a12, a13, a14, a15, a16, a17, a18, qA, a20, q3, q0] [(false, s.p), zi s.B, zi s.Z, zi s.C2, zi s.u, zi s.t1, zi s.t2, zi s.t3, (false, 0), (false, 0), zi s.d, zi s.n0, (false, 0), (false, 0), (false, 0), (false, 0), (false, 0), (false, 0), (false, 0), zi (-3), (false, s.c), zi 3, zi 1] := R6
  clear R5
  refine (mulc E2 R6 rfl rfl p1 p2 hT hK (i := 11) (j := 11) (k := 1) (a := s.n0) (b := s.B) (c := s.n) (by decide) rfl rfl rfl rfl rfl rfl (lt_pow b_n0 (by omega)) (lt_pow bB (by omega)) (by decide)).mono ?_
  rintro _ w27 R7
  replace R7 : Rs g3 w27 K2 [pp, pb, pZ, pc, pu, a5, a6, a7, a8, a9, a10, a11, a12, a13, a14, a15, a16, a17, a18, qA, a20, q3, q0] [(false, s.p), zi s.B, zi s.Z, zi s.C2, zi s.u, zi s.t1, zi s.t2, zi s.t3, (false, 0), (false, 0), zi s.d, zi s.n, (false, 0), (false, 0), (false, 0), (false, 0), (false, 0), (false, 0), (false, 0), zi (-3), (false, s.c), zi 3, zi 1] := R7
  clear R6
  refine (negR R7 (i := 8) (j := 19) (a := (-3)) rfl rfl rfl (lt_pow b3 (by omega))).mono ?_
  rintro _ w28 ⟨rfl, R8⟩
  replace R8 : Rs g3 w28 K2 [pp, pb, pZ, pc, pu, a5, a6, a7, a8, a9, a10, a11, a12, a13, a14, a15, a16, a17, a18, qA, a20, q3, q0] [(false, s.p), zi s.B, zi s.Z, zi s.C2, zi s.u, zi s.t1, zi s.t2, zi s.t3, zi 3, (false, 0), zi s.d, zi s.n, (false, 0), (false, 0), (false, 0), (false, 0), (false, 0), (false, 0), (false, 0), zi (-3), (false, s.c), zi 3, zi 1] := R8
  clear R7
  refine (mulc E2 R8 rfl rfl p1 p2 hT hK (i := 10) (j := 8) (k := 10) (a := 3) (b := s.d) (c := s.d3) (by decide) rfl rfl rfl rfl rfl rfl (lt_pow b3p (by omega)) (lt_pow b_d (by omega)) (by decide)).mono ?_
  rintro _ w29 R9
  replace R9 : Rs g3 w29 K2 [pp, pb, pZ, pc, pu, a5, a6, a7, a8, a9, a10, a11, a12, a13, a14, a15, a16, a17, a18, qA, a20, q3, q0] [(false, s.p), zi s.B, zi s.Z, zi s.C2, zi s.u, zi s.t1, zi s.t2, zi s.t3, zi 3, (false, 0), zi s.d3, zi s.n, (false, 0), (false, 0), (false, 0), (false, 0), (false, 0), (false, 0), (false, 0), zi (-3), (false, s.c), zi 3, zi 1] := R9
  clear R8
  refine (signR R9 (i := 10) (a := s.d3) rfl rfl).mono ?_
  rintro _ _ ⟨rfl, rfl⟩
  refine ⟨_, bSgn s.d3, ?_⟩
  refine (mulc E2 R9 rfl rfl p1 p2 hT hK (i := 8) (j := 2) (k := 19) (a := s.Z) (b := (-3)) (c := s.za) (by decide) rfl rfl rfl rfl rfl rfl (lt_pow bZ (by omega)) (lt_pow b3 (by omega)) (by decide)).mono ?_
  rintro _ w30 R10
  replace R10 : Rs g3 w30 K2 [pp, pb, pZ, pc, pu, a5, a6, a7, a8, a9, a10, a11, a12, a13, a14, a15, a16, a17, a18, qA, a20, q3, q0] [(false, s.p), zi s.B, zi s.Z, zi s.C2, zi s.u, zi s.t1, zi s.t2, zi s.t3, zi s.za, (false, 0), zi s.d3, zi s.n, (false, 0), (false, 0), (false, 0), (false, 0), (false, 0), (false, 0), (false, 0), zi (-3), (false, s.c), zi 3, zi 1] := R10
  clear R9
  refine (cmvc R10 (i := 10) (j := 10) (k := 8) (a := s.d3) (b := s.za) rfl rfl rfl rfl rfl (lt_pow b_d3 (by omega)) (lt_pow b_za (by omega)) (decide (s.d3 = 0)) (c := s.xd) (by simp [Sp.xd])).mono ?_
  rintro _ w31 R11
  replace R11 : Rs g3 w31 K2 [pp, pb, pZ, pc, pu, a5, a6, a7, a8, a9, a10, a11, a12, a13, a14, a15, a16, a17, a18, qA, a20, q3, q0] [(false, s.p), zi s.B, zi s.Z, zi s.C2, zi s.u, zi s.t1, zi s.t2, zi s.t3, zi s.za, (false, 0), zi s.xd, zi s.n, (false, 0), (false, 0), (false, 0), (false, 0), (false, 0), (false, 0), (false, 0), zi (-3), (false, s.c), zi 3, zi 1] := R11
  clear R10
  refine (sqrc E2 R11 rfl rfl p1 p2 hT hK (i := 6) (j := 10) (a := s.xd) (c := s.q2) (by decide) rfl rfl rfl rfl (lt_pow b_xd (by omega))).mono ?_
  rintro _ w32 R12
  replace R12 : Rs g3 w32 K2 [pp, pb, pZ, pc, pu, a5, a6, a7, a8, a9, a10, a11, a12, a13, a14, a15, a16, a17, a18, qA, a20, q3, q0] [(false, s.p), zi s.B, zi s.Z, zi s.C2, zi s.u, zi s.t1, zi s.q2, zi s.t3, zi s.za, (false, 0), zi s.xd, zi s.n, (false, 0), (false, 0), (false, 0), (false, 0), (false, 0), (false, 0), (false, 0), zi (-3), (false, s.c), zi 3, zi 1] := R12
  clear R11
  refine (mulc E2 R12 rfl rfl p1 p2 hT hK (i := 14) (j := 6) (k := 10) (a := s.q2) (b := s.xd) (c := s.gxd) (by decide) rfl rfl rfl rfl rfl rfl (lt_pow b_q2 (by omega)) (lt_pow b_xd (by omega)) (by decide)).mono ?_
  rintro _ w33 R13
  replace R13 : Rs g3 w33 K2 [pp, pb, pZ, pc, pu, a5, a6, a7, a8, a9, a10, a11, a12, a13, a14, a15, a16, a17, a18, qA, a20, q3, q0] [(false, s.p), zi s.B, zi s.Z, zi s.C2, zi s.u, zi s.t1, zi s.q2, zi s.t3, zi s.za, (false, 0), zi s.xd, zi s.n, (false, 0), (false, 0), zi s.gxd, (false, 0), (false, 0), (false, 0), (false, 0), zi (-3), (false, s.c), zi 3, zi 1] := R13
  clear R12
  refine (mulc E2 R13 rfl rfl p1 p2 hT hK (i := 6) (j := 19) (k := 6) (a := (-3)) (b := s.q2) (c := s.a2) (by decide) rfl rfl rfl rfl rfl rfl (lt_pow b3 (by omega)) (lt_pow b_q2 (by omega)) (by decide)).mono ?_
  rintro _ w34 R14
  replace R14 : Rs g3 w34 K2 [pp, pb, pZ, pc, pu, a5, a6, a7, a8, a9, a10, a11, a12, a13, a14, a15, a16, a17, a18, qA, a20, q3, q0] [(false, s.p), zi s.B, zi s.Z, zi s.C2, zi s.u, zi s.t1, zi s.a2, zi s.t3, zi s.za, (false, 0), zi s.xd, zi s.n, (false, 0), (false, 0), zi s.gxd, (false, 0), (false, 0), (false, 0), (false, 0), zi (-3), (false, s.c), zi 3, zi 1] := R14
  clear R13
  refine (sqrc E2 R14 rfl rfl p1 p2 hT hK (i := 13) (j := 11) (a := s.n) (c := s.g0) (by decide) rfl rfl rfl rfl (lt_pow b_n (by omega))).mono ?_
  rintro _ w35 R15
  replace R15 : Rs g3 w35 K2 [pp, pb, pZ, pc, pu, a5, a6, a7, a8, a9, a10, a11, a12, a13, a14, a15, a16, a17, a18, qA, a20, q3, q0] [(false, s.p), zi s.B, zi s.Z, zi s.C2, zi s.u, zi s.t1, zi s.a2, zi s.t3, zi s.za, (false, 0), zi s.xd, zi s.n, (false, 0), zi s.g0, zi s.gxd, (false, 0), (false, 0), (false, 0), (false, 0), zi (-3), (false, s.c), zi 3, zi 1] := R15
  clear R14
  refine (addc E2 R15 rfl rfl p1 p2 hT hK (i := 13) (j := 13) (k := 6) (a := s.g0) (b := s.a2) (c := s.g1) (by decide) rfl rfl rfl rfl rfl rfl (lt_pow b_g0 (by omega)) (lt_pow b_a2 (by omega))).mono ?_
  rintro _ w36 R16
  replace R16 : Rs g3 w36 K2 [pp, pb, pZ, pc, pu, a5, a6, a7, a8, a9, a10, a11, a12, a13, a14, a15, a16, a17, a18, qA, a20, q3, q0] [(false, s.p), zi s.B, zi s.Z, zi s.C2, zi s.u, zi s.t1, zi s.a2, zi s.t3, zi s.za, (false, 0), zi s.xd, zi s.n, (false, 0), zi s.g1, zi s.gxd, (false, 0), (false, 0), (false, 0), (false, 0), zi (-3), (false, s.c), zi 3, zi 1] := R16
  clear R15
  refine (mulc E2 R16 rfl rfl p1 p2 hT hK (i := 13) (j := 13) (k := 11) (a := s.g1) (b := s.n) (c := s.g2) (by decide) rfl rfl rfl rfl rfl rfl (lt_pow b_g1 (by omega)) (lt_pow b_n (by omega)) (by decide)).mono ?_
  rintro _ w37 R17
  replace R17 : Rs g3 w37 K2 [pp, pb, pZ, pc, pu, a5, a6, a7, a8, a9, a10, a11, a12, a13, a14, a15, a16, a17, a18, qA, a20, q3, q0] [(false, s.p), zi s.B, zi s.Z, zi s.C2, zi s.u, zi s.t1, zi s.a2, zi s.t3, zi s.za, (false, 0), zi s.xd, zi s.n, (false, 0), zi s.g2, zi s.gxd, (false, 0), (false, 0), (false, 0), (false, 0), zi (-3), (false, s.c), zi 3, zi 1] := R17
  clear R16
  refine (mulc E2 R17 rfl rfl p1 p2 hT hK (i := 6) (j := 1) (k := 14) (a := s.B) (b := s.gxd) (c := s.bg) (by decide) rfl rfl rfl rfl rfl rfl (lt_pow bB (by omega)) (lt_pow b_gxd (by omega)) (by decide)).mono ?_
  rintro _ w38 R18
  replace R18 : Rs g3 w38 K2 [pp, pb, pZ, pc, pu, a5, a6, a7, a8, a9, a10, a11, a12, a13, a14, a15, a16, a17, a18, qA, a20, q3, q0] [(false, s.p), zi s.B, zi s.Z, zi s.C2, zi s.u, zi s.t1, zi s.bg, zi s.t3, zi s.za, (false, 0), zi s.xd, zi s.n, (false, 0), zi s.g2, zi s.gxd, (false, 0), (false, 0), (false, 0), (false, 0), zi (-3), (false, s.c), zi 3, zi 1] := R18
  clear R17
  refine (addc E2 R18 rfl rfl p1 p2 hT hK (i := 13) (j := 13) (k := 6) (a := s.g2) (b := s.bg) (c := s.gx) (by decide) rfl rfl rfl rfl rfl rfl (lt_pow b_g2 (by omega)) (lt_pow b_bg (by omega))).mono ?_
  rintro _ w39 R19
  replace R19 : Rs g3 w39 K2 [pp, pb, pZ, pc, pu, a5, a6, a7, a8, a9, a10, a11, a12, a13, a14, a15, a16, a17, a18, qA, a20, q3, q0] [(false, s.p), zi s.B, zi s.Z, zi s.C2, zi s.u, zi s.t1, zi s.bg, zi s.t3, zi s.za, (false, 0), zi s.xd, zi s.n, (false, 0), zi s.gx, zi s.gxd, (false, 0), (false, 0), (false, 0), (false, 0), zi (-3), (false, s.c), zi 3, zi 1] := R19
  clear R18
  refine (sqrc E2 R19 rfl rfl p1 p2 hT hK (i := 8) (j := 14) (a := s.gxd) (c := s.f2) (by decide) rfl rfl rfl rfl (lt_pow b_gxd (by omega))).mono ?_
  rintro _ w40 R20
  replace R20 : Rs g3 w40 K2 [pp, pb, pZ, pc, pu, a5, a6, a7, a8, a9, a10, a11, a12, a13, a14, a15, a16, a17, a18, qA, a20, q3, q0] [(false, s.p), zi s.B, zi s.Z, zi s.C2, zi s.u, zi s.t1, zi s.bg, zi s.t3, zi s.f2, (false, 0), zi s.xd, zi s.n, (false, 0), zi s.gx, zi s.gxd, (false, 0), (false, 0), (false, 0), (false, 0), zi (-3), (false, s.c), zi 3, zi 1] := R20
  clear R19
  refine (mulc E2 R20 rfl rfl p1 p2 hT hK (i := 6) (j := 13) (k := 14) (a := s.gx) (b := s.gxd) (c := s.k) (by decide) rfl rfl rfl rfl rfl rfl (lt_pow b_gx (by omega)) (lt_pow b_gxd (by omega)) (by decide)).mono ?_
  rintro _ w41 R21
  replace R21 : Rs g3 w41 K2 [pp, pb, pZ, pc, pu, a5, a6, a7, a8, a9, a10, a11, a12, a13, a14, a15, a16, a17, a18, qA, a20, q3, q0] [(false, s.p), zi s.B, zi s.Z, zi s.C2, zi s.u, zi s.t1, zi s.k, zi s.t3, zi s.f2, (false, 0), zi s.xd, zi s.n, (false, 0), zi s.gx, zi s.gxd, (false, 0), (false, 0), (false, 0), (false, 0), zi (-3), (false, s.c), zi 3, zi 1] := R21
  clear R20
  refine (mulc E2 R21 rfl rfl p1 p2 hT hK (i := 8) (j := 8) (k := 6) (a := s.f2) (b := s.k) (c := s.f4) (by decide) rfl rfl rfl rfl rfl rfl (lt_pow b_f2 (by omega)) (lt_pow b_k (by omega)) (by decide)).mono ?_
  rintro _ w42 R22
  replace R22 : Rs g3 w42 K2 [pp, pb, pZ, pc, pu, a5, a6, a7, a8, a9, a10, a11, a12, a13, a14, a15, a16, a17, a18, qA, a20, q3, q0] [(false, s.p), zi s.B, zi s.Z, zi s.C2, zi s.u, zi s.t1, zi s.k, zi s.t3, zi s.f4, (false, 0), zi s.xd, zi s.n, (false, 0), zi s.gx, zi s.gxd, (false, 0), (false, 0), (false, 0), (false, 0), zi (-3), (false, s.c), zi 3, zi 1] := R22
  clear R21
  refine (expc E2 R22 rfl rfl p1 p2 hT hK (i := 15) (j := 8) (k := 20) (a := s.f4) (b := s.e) (c := s.c) (by decide) (by decide) (by decide) (by decide) rfl rfl rfl rfl rfl (hs.ge _) rfl (lt_pow b_f4 (by omega)) (lt_pow bc1 (by omega)) bc2 bp1 odd).mono ?_
  rintro _ w43 R23
  replace R23 : Rs g3 w43 K2 [pp, pb, pZ, pc, pu, a5, a6, a7, a8, a9, a10, a11, a12, a13, a14, a15, a16, a17, a18, qA, a20, q3, q0] [(false, s.p), zi s.B, zi s.Z, zi s.C2, zi s.u, zi s.t1, zi s.k, zi s.t3, zi s.f4, (false, 0), zi s.xd, zi s.n, (false, 0), zi s.gx, zi s.gxd, zi s.e, (false, 0), (false, 0), (false, 0), zi (-3), (false, s.c), zi 3, zi 1] := R23
  clear R22
  refine (mulc E2 R23 rfl rfl p1 p2 hT hK (i := 15) (j := 15) (k := 6) (a := s.e) (b := s.k) (c := s.y1) (by decide) rfl rfl rfl rfl rfl rfl (lt_pow b_e (by omega)) (lt_pow b_k (by omega)) (by decide)).mono ?_
  rintro _ w44 R24
  replace R24 : Rs g3 w44 K2 [pp, pb, pZ, pc, pu, a5, a6, a7, a8, a9, a10, a11, a12, a13, a14, a15, a16, a17, a18, qA, a20, q3, q0] [(false, s.p), zi s.B, zi s.Z, zi s.C2, zi s.u, zi s.t1, zi s.k, zi s.t3, zi s.f4, (false, 0), zi s.xd, zi s.n, (false, 0), zi s.gx, zi s.gxd, zi s.y1, (false, 0), (false, 0), (false, 0), zi (-3), (false, s.c), zi 3, zi 1] := R24
  clear R23
  refine (mulc E2 R24 rfl rfl p1 p2 hT hK (i := 12) (j := 7) (k := 11) (a := s.t3) (b := s.n) (c := s.x2) (by decide) rfl rfl rfl rfl rfl rfl (lt_pow b_t3 (by omega)) (lt_pow b_n (by omega)) (by decide)).mono ?_
  rintro _ w45 R25
  replace R25 : Rs g3 w45 K2 [pp, pb, pZ, pc, pu, a5, a6, a7, a8, a9, a10, a11, a12, a13, a14, a15, a16, a17, a18, qA, a20, q3, q0] [(false, s.p), zi s.B, zi s.Z, zi s.C2, zi s.u, zi s.t1, zi s.k, zi s.t3, zi s.f4, (false, 0), zi s.xd, zi s.n, zi s.x2, zi s.gx, zi s.gxd, zi s.y1, (false, 0), (false, 0), (false, 0), zi (-3), (false, s.c), zi 3, zi 1] := R25
  clear R24
  refine (mulc E2 R25 rfl rfl p1 p2 hT hK (i := 16) (j := 15) (k := 3) (a := s.y1) (b := s.C2) (c := s.y2a) (by decide) rfl rfl rfl rfl rfl rfl (lt_pow b_y1 (by omega)) (lt_pow bC (by omega)) (by decide)).mono ?_
  rintro _ w46 R26
  replace R26 : Rs g3 w46 K2 [pp, pb, pZ, pc, pu, a5, a6, a7, a8, a9, a10, a11, a12, a13, a14, a15, a16, a17, a18, qA, a20, q3, q0] [(false, s.p), zi s.B, zi s.Z, zi s.C2, zi s.u, zi s.t1, zi s.k, zi s.t3, zi s.f4, (false, 0), zi s.xd, zi s.n, zi s.x2, zi s.gx, zi s.gxd, zi s.y1, zi s.y2a, (false, 0), (false, 0), zi (-3), (false, s.c), zi 3, zi 1] := R26
  clear R25
  refine (mulc E2 R26 rfl rfl p1 p2 hT hK (i := 16) (j := 16) (k := 5) (a := s.y2a) (b := s.t1) (c := s.y2b) (by decide) rfl rfl rfl rfl rfl rfl (lt_pow b_y2a (by omega)) (lt_pow b_t1 (by omega)) (by decide)).mono ?_
  rintro _ w47 R27
  replace R27 : Rs g3 w47 K2 [pp, pb, pZ, pc, pu, a5, a6, a7, a8, a9, a10, a11, a12, a13, a14, a15, a16, a17, a18, qA, a20, q3, q0] [(false, s.p), zi s.B, zi s.Z, zi s.C2, zi s.u, zi s.t1, zi s.k, zi s.t3, zi s.f4, (false, 0), zi s.xd, zi s.n, zi s.x2, zi s.gx, zi s.gxd, zi s.y1, zi s.y2b, (false, 0), (false, 0), zi (-3), (false, s.c), zi 3, zi 1] := R27
  clear R26
  refine (mulc E2 R27 rfl rfl p1 p2 hT hK (i := 16) (j := 16) (k := 4) (a := s.y2b) (b := s.u) (c := s.y2) (by decide) rfl rfl rfl rfl rfl rfl (lt_pow b_y2b (by omega)) (lt_pow bu (by omega)) (by decide)).mono ?_
  rintro _ w48 R28
  replace R28 : Rs g3 w48 K2 [pp, pb, pZ, pc, pu, a5, a6, a7, a8, a9, a10, a11, a12, a13, a14, a15, a16, a17, a18, qA, a20, q3, q0] [(false, s.p), zi s.B, zi s.Z, zi s.C2, zi s.u, zi s.t1, zi s.k, zi s.t3, zi s.f4, (false, 0), zi s.xd, zi s.n, zi s.x2, zi s.gx, zi s.gxd, zi s.y1, zi s.y2, (false, 0), (false, 0), zi (-3), (false, s.c), zi 3, zi 1] := R28
  clear R27
  refine (sqrc E2 R28 rfl rfl p1 p2 hT hK (i := 6) (j := 15) (a := s.y1) (c := s.v1) (by decide) rfl rfl rfl rfl (lt_pow b_y1 (by omega))).mono ?_
  rintro _ w49 R29
  replace R29 : Rs g3 w49 K2 [pp, pb, pZ, pc, pu, a5, a6, a7, a8, a9, a10, a11, a12, a13, a14, a15, a16, a17, a18, qA, a20, q3, q0] [(false, s.p), zi s.B, zi s.Z, zi s.C2, zi s.u, zi s.t1, zi s.v1, zi s.t3, zi s.f4, (false, 0), zi s.xd, zi s.n, zi s.x2, zi s.gx, zi s.gxd, zi s.y1, zi s.y2, (false, 0), (false, 0), zi (-3), (false, s.c), zi 3, zi 1] := R29
  clear R28
  refine (mulc E2 R29 rfl rfl p1 p2 hT hK (i := 6) (j := 6) (k := 14) (a := s.v1) (b := s.gxd) (c := s.v) (by decide) rfl rfl rfl rfl rfl rfl (lt_pow b_v1 (by omega)) (lt_pow b_gxd (by omega)) (by decide)).mono ?_
  rintro _ w50 R30
  replace R30 : Rs g3 w50 K2 [pp, pb, pZ, pc, pu, a5, a6, a7, a8, a9, a10, a11, a12, a13, a14, a15, a16, a17, a18, qA, a20, q3, q0] [(false, s.p), zi s.B, zi s.Z, zi s.C2, zi s.u, zi s.t1, zi s.v, zi s.t3, zi s.f4, (false, 0), zi s.xd, zi s.n, zi s.x2, zi s.gx, zi s.gxd, zi s.y1, zi s.y2, (false, 0), (false, 0), zi (-3), (false, s.c), zi 3, zi 1] := R30
  clear R29
  refine (cmpR R30 (i := 6) (j := 13) (a := s.v) (b := s.gx) rfl rfl rfl rfl (lt_pow b_v (by omega)) (lt_pow b_gx (by omega))).mono ?_
  rintro _ wc ⟨rfl, Rc⟩
  refine ⟨_, bCmp s.v s.gx, ?_⟩
  have R31 := Rc
  clear Rc R30
  refine (cmvc R31 (i := 9) (j := 12) (k := 11) (a := s.x2) (b := s.n) rfl rfl rfl rfl rfl (lt_pow b_x2 (by omega)) (lt_pow b_n (by omega)) (decide (s.v = s.gx)) (c := s.xn) (by simp [Sp.xn])).mono ?_
  rintro _ w52 R32
  replace R32 : Rs g3 w52 K2 [pp, pb, pZ, pc, pu, a5, a6, a7, a8, a9, a10, a11, a12, a13, a14, a15, a16, a17, a18, qA, a20, q3, q0] [(false, s.p), zi s.B, zi s.Z, zi s.C2, zi s.u, zi s.t1, zi s.v, zi s.t3, zi s.f4, zi s.xn, zi s.xd, zi s.n, zi s.x2, zi s.gx, zi s.gxd, zi s.y1, zi s.y2, (false, 0), (false, 0), zi (-3), (false, s.c), zi 3, zi 1] := R32
  clear R31
  refine (cmvc R32 (i := 18) (j := 16) (k := 15) (a := s.y2) (b := s.y1) rfl rfl rfl rfl rfl (lt_pow b_y2 (by omega)) (lt_pow b_y1 (by omega)) (decide (s.v = s.gx)) (c := s.yy) (by simp [Sp.yy])).mono ?_
  rintro _ w53 R33
  replace R33 : Rs g3 w53 K2 [pp, pb, pZ, pc, pu, a5, a6, a7, a8, a9, a10, a11, a12, a13, a14, a15, a16, a17, a18, qA, a20, q3, q0] [(false, s.p), zi s.B, zi s.Z, zi s.C2, zi s.u, zi s.t1, zi s.v, zi s.t3, zi s.f4, zi s.xn, zi s.xd, zi s.n, zi s.x2, zi s.gx, zi s.gxd, zi s.y1, zi s.y2, (false, 0), zi s.yy, zi (-3), (false, s.c), zi 3, zi 1] := R33
  clear R32
  refine (sgnc E2 R33 rfl rfl p1 p2 hT hK (i := 4) (a := s.u) (c := s.u) (by decide) rfl rfl (Int.emod_eq_of_lt (Int.le_of_lt hs.u0) hs.u1) (lt_pow bu (by omega))).mono ?_
  rintro _ w54 ⟨rfl, R34⟩
  replace R34 : Rs g3 w54 K2 [pp, pb, pZ, pc, pu, a5, a6, a7, a8, a9, a10, a11, a12, a13, a14, a15, a16, a17, a18, qA, a20, q3, q0] [(false, s.p), zi s.B, zi s.Z, zi s.C2, zi s.u, zi s.t1, zi s.v, zi s.t3, zi s.f4, zi s.xn, zi s.xd, zi s.n, zi s.x2, zi s.gx, zi s.gxd, zi s.y1, zi s.y2, (false, 0), zi s.yy, zi (-3), (false, s.c), zi 3, zi 1] := R34
  clear R33
  refine (sgnc E2 R34 rfl rfl p1 p2 hT hK (i := 18) (a := s.yy) (c := s.yy) (by decide) rfl rfl (Int.emod_eq_of_lt hs.ory.1 hs.ory.2) (lt_pow b_yy (by omega))).mono ?_
  rintro _ w55 ⟨rfl, R35⟩
  replace R35 : Rs g3 w55 K2 [pp, pb, pZ, pc, pu, a5, a6, a7, a8, a9, a10, a11, a12, a13, a14, a15, a16, a17, a18, qA, a20, q3, q0] [(false, s.p), zi s.B, zi s.Z, zi s.C2, zi s.u, zi s.t1, zi s.v, zi s.t3, zi s.f4, zi s.xn, zi s.xd, zi s.n, zi s.x2, zi s.gx, zi s.gxd, zi s.y1, zi s.y2, (false, 0), zi s.yy, zi (-3), (false, s.c), zi 3, zi 1] := R35
  clear R34
  refine ⟨_, bPar (Int.le_of_lt hs.u0) hs.ory.1, ?_⟩
  refine (negR R35 (i := 5) (j := 18) (a := s.yy) rfl rfl rfl (lt_pow b_yy (by omega))).mono ?_
  rintro _ w56 ⟨rfl, R36⟩
  replace R36 : Rs g3 w56 K2 [pp, pb, pZ, pc, pu, a5, a6, a7, a8, a9, a10, a11, a12, a13, a14, a15, a16, a17, a18, qA, a20, q3, q0] [(false, s.p), zi s.B, zi s.Z, zi s.C2, zi s.u, zi (-s.yy), zi s.v, zi s.t3, zi s.f4, zi s.xn, zi s.xd, zi s.n, zi s.x2, zi s.gx, zi s.gxd, zi s.y1, zi s.y2, (false, 0), zi s.yy, zi (-3), (false, s.c), zi 3, zi 1] := R36
  clear R35
  refine (cmvc R36 (i := 18) (j := 5) (k := 18) (a := (-s.yy)) (b := s.yy) rfl rfl rfl rfl rfl (lt_pow bny (by omega)) (lt_pow b_yy (by omega)) (decide (s.u % 2 = s.yy % 2)) (c := s.yf) (by simp [Sp.yf])).mono ?_
  rintro _ w57 R37
  replace R37 : Rs g3 w57 K2 [pp, pb, pZ, pc, pu, a5, a6, a7, a8, a9, a10, a11, a12, a13, a14, a15, a16, a17, a18, qA, a20, q3, q0] [(false, s.p), zi s.B, zi s.Z, zi s.C2, zi s.u, zi (-s.yy), zi s.v, zi s.t3, zi s.f4, zi s.xn, zi s.xd, zi s.n, zi s.x2, zi s.gx, zi s.gxd, zi s.y1, zi s.y2, (false, 0), zi s.yf, zi (-3), (false, s.c), zi 3, zi 1] := R37
  clear R36
  refine rnL na_52 (R37.cl hT hK) rfl ?_
  refine (modInvR E2 R37 rfl rfl p1 p2 (i := 5) (j := 10) (a := s.xd) (by decide) rfl rfl rfl hs.prm hs.xdr hs.xd0).mono ?_
  rintro _ w58 ⟨rfl, X, R38, bX, hX⟩
  replace R38 : Rs g3 w58 K2 [pp, pb, pZ, pc, pu, a5, a6, a7, a8, a9, a10, a11, a12, a13, a14, a15, a16, a17, a18, qA, a20, q3, q0] [(false, s.p), zi s.B, zi s.Z, zi s.C2, zi s.u, zi X, zi s.v, zi s.t3, zi s.f4, zi s.xn, zi s.xd, zi s.n, zi s.x2, zi s.gx, zi s.gxd, zi s.y1, zi s.y2, (false, 0), zi s.yf, zi (-3), (false, s.c), zi 3, zi 1] := R38
  clear R37
  refine (mulc E2 R38 rfl rfl p1 p2 hT hK (i := 17) (j := 9) (k := 5) (a := s.xn) (b := X) (c := (s.xn * X % s.p)) (by decide) rfl rfl rfl rfl rfl rfl (lt_pow b_xn (by omega)) (lt_pow bX (by omega)) (by decide)).mono ?_
  rintro _ w59 R39
  replace R39 : Rs g3 w59 K2 [pp, pb, pZ, pc, pu, a5, a6, a7, a8, a9, a10, a11, a12, a13, a14, a15, a16, a17, a18, qA, a20, q3, q0] [(false, s.p), zi s.B, zi s.Z, zi s.C2, zi s.u, zi X, zi s.v, zi s.t3, zi s.f4, zi s.xn, zi s.xd, zi s.n, zi s.x2, zi s.gx, zi s.gxd, zi s.y1, zi s.y2, zi (s.xn * X % s.p), zi s.yf, zi (-3), (false, s.c), zi 3, zi 1] := R39
  clear R38
  refine rnL na_52 (R39.cl hT hK) rfl ?_
  refine (modR E2 R39 rfl rfl p1 p2 (i := 18) (j := 18) (a := s.yf) (by decide) rfl rfl rfl (lt_pow b_yf (by omega))).mono ?_
  rintro _ w60 ⟨rfl, R40⟩
  replace R40 : Rs g3 w60 K2 [pp, pb, pZ, pc, pu, a5, a6, a7, a8, a9, a10, a11, a12, a13, a14, a15, a16, a17, a18, qA, a20, q3, q0] [(false, s.p), zi s.B, zi s.Z, zi s.C2, zi s.u, zi X, zi s.v, zi s.t3, zi s.f4, zi s.xn, zi s.xd, zi s.n, zi s.x2, zi s.gx, zi s.gxd, zi s.y1, zi s.y2, zi (s.xn * X % s.p), zi s.y, zi (-3), (false, s.c), zi 3, zi 1] := R40
  clear R39
  have hG40 := R40.cl hG3 hKG
  refine rnR (ldAg (by kernel_rfl) sz_73 hG40 rfl rfl) ?_
  refine rnA (bldE _ _ _ _ _ _) ?_
  obtain ⟨w61, e61, c61, f61, s61⟩ := bx 91 (v := .agg #[pI a17, pI a18, cvV c, .slice oa on oc]) (cs := [pI a17, pI a18, cvV c, .slice oa on oc]) rfl w60
  refine ⟨_, w61, e61, ?_⟩
  obtain ⟨K3, E3, R41, hsub3, hnew3, hout3⟩ := keepR E2 R40 f61
  have hz60 := R40.fm.size
  exact ⟨rfl, w60.heap.size, a17, a18, K3, X, rfl, c61, hnew3 _ (Nat.le_refl _) (by omega), fun b hb => hsub3 b (hsub2 b (hsub1 b hb)), E3, R41.two (i := 17) (j := 18) rfl rfl rfl rfl (by decide), hX, (hCu3.fm R40.fm (fun e => e hKc3)).fm f61 (fun h => h), by omega, hout1 (hout2 (hout3 (Fm.refl _ _)))⟩

end Go.Vc
end
