/- The reference's curves: CurveOf, IsCurve, IsBelow, IsZero, bytesOf, Opposite, Same. -/
import Derived.Test.YthahnloabllniaaGreatDoorM25
section
set_option linter.unusedSimpArgs false
set_option linter.unusedVariables false
set_option maxRecDepth 20000
set_option maxHeartbeats 4000000
namespace Go.Vc
open Go.Proofs

theorem wf_of {l : List Nat} (h : l.all (fun x => Nat.blt x 18446744073709551616) = true) : WF l := fun x hx => by
  have := List.all_eq_true.1 h x hx
  have h2 : x < 18446744073709551616 := Nat.lt_of_lt_of_le (Nat.le_of_ble_eq_true this) (Nat.le_refl _)
  rw [BW_eq]; exact h2

/-- A curve's cells. -/
structure Cx (cs : List Value) (p n : Nat) : Prop where
  len : cs.length = 48
  one : ∀ v ∈ cs, v.oneCell' = true
  ex : ∃ m, WF m ∧ m.length = 9 ∧ nv m = p ∧ cs.take 9 = vws m ∧ cs[45]? = some (.int .i64 (n : Int))

def w384_0 : List Nat := [4294967295, 18446744069414584320, 18446744073709551614, 18446744073709551615, 18446744073709551615, 18446744073709551615, 0, 0, 0]
theorem bw384_0 (w : World) : (Instr.build 35 [(0, Value.int .u64 4294967295), (1, Value.int .u64 18446744069414584320), (2, Value.int .u64 18446744073709551614), (3, Value.int .u64 18446744073709551615), (4, Value.int .u64 18446744073709551615), (5, Value.int .u64 18446744073709551615)].toArray).run P w = .ok (nV w384_0) w := by kernel_rfl
def w384_1 : List Nat := [3064076045283764975, 14291673747578343837, 221811693264799578, 1737717031765098770, 10992729701402291481, 12912154004749740004, 0, 0, 0]
theorem bw384_1 (w : World) : (Instr.build 35 [(0, Value.int .u64 3064076045283764975), (1, Value.int .u64 14291673747578343837), (2, Value.int .u64 221811693264799578), (3, Value.int .u64 1737717031765098770), (4, Value.int .u64 10992729701402291481), (5, Value.int .u64 12912154004749740004)].toArray).run P w = .ok (nV w384_1) w := by kernel_rfl
def w384_2 : List Nat := [17072048233947408755, 6348401684107011962, 14367412456785391071, 18446744073709551615, 18446744073709551615, 18446744073709551615, 0, 0, 0]
theorem bw384_2 (w : World) : (Instr.build 35 [(0, Value.int .u64 17072048233947408755), (1, Value.int .u64 6348401684107011962), (2, Value.int .u64 14367412456785391071), (3, Value.int .u64 18446744073709551615), (4, Value.int .u64 18446744073709551615), (5, Value.int .u64 18446744073709551615)].toArray).run P w = .ok (nV w384_2) w := by kernel_rfl
def w384_3 : List Nat := [4203087948775033527, 6125724927633205612, 6482722621138151992, 7934563412932533144, 10282218360005504372, 12288012358878168375, 0, 0, 0]
theorem bw384_3 (w : World) : (Instr.build 35 [(0, Value.int .u64 4203087948775033527), (1, Value.int .u64 6125724927633205612), (2, Value.int .u64 6482722621138151992), (3, Value.int .u64 7934563412932533144), (4, Value.int .u64 10282218360005504372), (5, Value.int .u64 12288012358878168375)].toArray).run P w = .ok (nV w384_3) w := by kernel_rfl
def w384_4 : List Nat := [8809917716911230559, 747793036959711645, 16850834916486723776, 17938995913990739068, 6745997240412855337, 3897828414440483951, 0, 0, 0]
theorem bw384_4 (w : World) : (Instr.build 35 [(0, Value.int .u64 8809917716911230559), (1, Value.int .u64 747793036959711645), (2, Value.int .u64 16850834916486723776), (3, Value.int .u64 17938995913990739068), (4, Value.int .u64 6745997240412855337), (5, Value.int .u64 3897828414440483951)].toArray).run P w = .ok (nV w384_4) w := by kernel_rfl
def cc384 : List Value := vws w384_0 ++ (vws w384_1 ++ (vws w384_2 ++ (vws w384_3 ++ (vws w384_4 ++ [.int .i64 48, .int .u64 12, .int .i64 72]))))
theorem bc384 (w : World) : (Instr.build 37 [(0, nV w384_0), (1, nV w384_1), (2, nV w384_2), (3, nV w384_3), (4, nV w384_4), (5, Value.int .i64 48), (6, Value.int .u64 12), (7, Value.int .i64 72)].toArray).run P w = .ok (.agg cc384.toArray) w := by kernel_rfl
theorem cx384 : Cx cc384 (sp384 0).p (nb 384) := ⟨rfl, by intro v hv; exact List.all_eq_true.1 (show cc384.all (fun v => v.oneCell') = true by kernel_rfl) v hv, w384_0, wf_of (by kernel_rfl), rfl, Nat.eq_of_beq_eq_true (by kernel_rfl), rfl, by kernel_rfl⟩
def w521_0 : List Nat := [18446744073709551615, 18446744073709551615, 18446744073709551615, 18446744073709551615, 18446744073709551615, 18446744073709551615, 18446744073709551615, 18446744073709551615, 511]
theorem bw521_0 (w : World) : (Instr.build 35 [(0, Value.int .u64 18446744073709551615), (1, Value.int .u64 18446744073709551615), (2, Value.int .u64 18446744073709551615), (3, Value.int .u64 18446744073709551615), (4, Value.int .u64 18446744073709551615), (5, Value.int .u64 18446744073709551615), (6, Value.int .u64 18446744073709551615), (7, Value.int .u64 18446744073709551615), (8, Value.int .u64 511)].toArray).run P w = .ok (nV w521_0) w := by kernel_rfl
def w521_1 : List Nat := [17241221745651760896, 3851667882566759665, 1608559935907544839, 6204052985702421371, 13309414057048082913, 11734817516813489651, 10563792850091589870, 10754236788854528543, 81]
theorem bw521_1 (w : World) : (Instr.build 35 [(0, Value.int .u64 17241221745651760896), (1, Value.int .u64 3851667882566759665), (2, Value.int .u64 1608559935907544839), (3, Value.int .u64 6204052985702421371), (4, Value.int .u64 13309414057048082913), (5, Value.int .u64 11734817516813489651), (6, Value.int .u64 10563792850091589870), (7, Value.int .u64 10754236788854528543), (8, Value.int .u64 81)].toArray).run P w = .ok (nV w521_1) w := by kernel_rfl
def w521_2 : List Nat := [13506215149420700681, 4302566813442262958, 9208736750959699408, 5874531763869423211, 18446744073709551610, 18446744073709551615, 18446744073709551615, 18446744073709551615, 511]
theorem bw521_2 (w : World) : (Instr.build 35 [(0, Value.int .u64 13506215149420700681), (1, Value.int .u64 4302566813442262958), (2, Value.int .u64 9208736750959699408), (3, Value.int .u64 5874531763869423211), (4, Value.int .u64 18446744073709551610), (5, Value.int .u64 18446744073709551615), (6, Value.int .u64 18446744073709551615), (7, Value.int .u64 18446744073709551615), (8, Value.int .u64 511)].toArray).run P w = .ok (nV w521_2) w := by kernel_rfl
def w521_3 : List Nat := [17977945514697932134, 3695401138005885595, 18311004035940853982, 11622487132578732328, 17881735149126499770, 11269274249489003809, 11402774946092790850, 9623636836853541325, 198]
theorem bw521_3 (w : World) : (Instr.build 35 [(0, Value.int .u64 17977945514697932134), (1, Value.int .u64 3695401138005885595), (2, Value.int .u64 18311004035940853982), (3, Value.int .u64 11622487132578732328), (4, Value.int .u64 17881735149126499770), (5, Value.int .u64 11269274249489003809), (6, Value.int .u64 11402774946092790850), (7, Value.int .u64 9623636836853541325), (8, Value.int .u64 198)].toArray).run P w = .ok (nV w521_3) w := by kernel_rfl
def w521_4 : List Nat := [9853476271941576272, 3836064706166178368, 14218067438623065953, 10947813747232876096, 1706790690937005612, 11021790744852251752, 6668247425720589273, 4118940400423256068, 280]
theorem bw521_4 (w : World) : (Instr.build 35 [(0, Value.int .u64 9853476271941576272), (1, Value.int .u64 3836064706166178368), (2, Value.int .u64 14218067438623065953), (3, Value.int .u64 10947813747232876096), (4, Value.int .u64 1706790690937005612), (5, Value.int .u64 11021790744852251752), (6, Value.int .u64 6668247425720589273), (7, Value.int .u64 4118940400423256068), (8, Value.int .u64 280)].toArray).run P w = .ok (nV w521_4) w := by kernel_rfl
def cc521 : List Value := vws w521_0 ++ (vws w521_1 ++ (vws w521_2 ++ (vws w521_3 ++ (vws w521_4 ++ [.int .i64 66, .int .u64 4, .int .i64 98]))))
theorem bc521 (w : World) : (Instr.build 37 [(0, nV w521_0), (1, nV w521_1), (2, nV w521_2), (3, nV w521_3), (4, nV w521_4), (5, Value.int .i64 66), (6, Value.int .u64 4), (7, Value.int .i64 98)].toArray).run P w = .ok (.agg cc521.toArray) w := by kernel_rfl
theorem cx521 : Cx cc521 (sp521 0).p (nb 521) := ⟨rfl, by intro v hv; exact List.all_eq_true.1 (show cc521.all (fun v => v.oneCell') = true by kernel_rfl) v hv, w521_0, wf_of (by kernel_rfl), rfl, Nat.eq_of_beq_eq_true (by kernel_rfl), rfl, by kernel_rfl⟩
def w256_0 : List Nat := [18446744073709551615, 4294967295, 0, 18446744069414584321, 0, 0, 0, 0, 0]
theorem bw256_0 (w : World) : (Instr.build 35 [(0, Value.int .u64 18446744073709551615), (1, Value.int .u64 4294967295), (2, Value.int .u64 0), (3, Value.int .u64 18446744069414584321)].toArray).run P w = .ok (nV w256_0) w := by kernel_rfl
def w256_1 : List Nat := [4309448131093880907, 7285987128567378166, 12964664127075681980, 6540974713487397863, 0, 0, 0, 0, 0]
theorem bw256_1 (w : World) : (Instr.build 35 [(0, Value.int .u64 4309448131093880907), (1, Value.int .u64 7285987128567378166), (2, Value.int .u64 12964664127075681980), (3, Value.int .u64 6540974713487397863)].toArray).run P w = .ok (nV w256_1) w := by kernel_rfl
def w256_2 : List Nat := [17562291160714782033, 13611842547513532036, 18446744073709551615, 18446744069414584320, 0, 0, 0, 0, 0]
theorem bw256_2 (w : World) : (Instr.build 35 [(0, Value.int .u64 17562291160714782033), (1, Value.int .u64 13611842547513532036), (2, Value.int .u64 18446744073709551615), (3, Value.int .u64 18446744069414584320)].toArray).run P w = .ok (nV w256_2) w := by kernel_rfl
def w256_3 : List Nat := [17627433388654248598, 8575836109218198432, 17923454489921339634, 7716867327612699207, 0, 0, 0, 0, 0]
theorem bw256_3 (w : World) : (Instr.build 35 [(0, Value.int .u64 17627433388654248598), (1, Value.int .u64 8575836109218198432), (2, Value.int .u64 17923454489921339634), (3, Value.int .u64 7716867327612699207)].toArray).run P w = .ok (nV w256_3) w := by kernel_rfl
def w256_4 : List Nat := [14678990851816772085, 3156516839386865358, 10297457778147434006, 5756518291402817435, 0, 0, 0, 0, 0]
theorem bw256_4 (w : World) : (Instr.build 35 [(0, Value.int .u64 14678990851816772085), (1, Value.int .u64 3156516839386865358), (2, Value.int .u64 10297457778147434006), (3, Value.int .u64 5756518291402817435)].toArray).run P w = .ok (nV w256_4) w := by kernel_rfl
def cc256 : List Value := vws w256_0 ++ (vws w256_1 ++ (vws w256_2 ++ (vws w256_3 ++ (vws w256_4 ++ [.int .i64 32, .int .u64 10, .int .i64 48]))))
theorem bc256 (w : World) : (Instr.build 37 [(0, nV w256_0), (1, nV w256_1), (2, nV w256_2), (3, nV w256_3), (4, nV w256_4), (5, Value.int .i64 32), (6, Value.int .u64 10), (7, Value.int .i64 48)].toArray).run P w = .ok (.agg cc256.toArray) w := by kernel_rfl
theorem cx256 : Cx cc256 (sp256 0).p (nb 256) := ⟨rfl, by intro v hv; exact List.all_eq_true.1 (show cc256.all (fun v => v.oneCell') = true by kernel_rfl) v hv, w256_0, wf_of (by kernel_rfl), rfl, Nat.eq_of_beq_eq_true (by kernel_rfl), rfl, by kernel_rfl⟩


def cz : List Value := vws (List.replicate 45 0) ++ [Value.int .i64 0, Value.int .u64 0, Value.int .i64 0]

theorem CurveOf_c {k bits : Nat} {f : Int → Sp} (hk : Kcv k bits f) (w : World) : CallX P 11 #[.int .i64 (k : Int)] w fun v w' => ∃ cs, v = .agg cs.toArray ∧ Cx cs (f 0).p (nb bits) ∧ Fm (fun _ => False) w w' := by
  refine calls_vc mo fn_11 rfl ok_11 (Nat.le_of_ble_eq_true rfl) nm_11 ?_
  (refine vsr ?_)
  obtain ⟨w1, e1, c1, f1, s1⟩ := nw (t := 37) (z := .agg cz.toArray) (by kernel_rfl) (cs := cz) rfl w
  refine ⟨_, w1, e1, ?_⟩
  (repeat refine vcl_v _ rfl rfl ?_); (refine vcl_end ?_)
  have hst : ∀ {cs : List Value} {p n : Nat}, Cx cs p n → ∃ w', (Instr.storeAt 37 (.pointer (some ⟨w.heap.size, 0, none⟩)) (.agg cs.toArray)).run P w1 = .ok () w' ∧ Cl w' w.heap.size cs 37 ∧ Fm (· = w.heap.size) w1 w' ∧ w'.heap.size = w1.heap.size := by
    intro cs p n hc
    exact stAg (t := 37) (vs := cs) (by rw [hc.len]; exact sz_37) c1 (i := 0) (by rw [hc.len]; exact Nat.le_refl 48) hc.one (by rw [List.take_zero, List.nil_append, List.drop_of_length_le (by rw [hc.len]; exact Nat.le_refl 48), List.append_nil])
  have hld : ∀ {cs : List Value} {p n : Nat} {w' : World}, Cx cs p n → Cl w' w.heap.size cs 37 → (loadVar 37 ⟨w.heap.size, 0, none⟩).run P w' = .ok (.agg cs.toArray) w' := by
    intro cs p n w' hc h
    exact lvAg (by kernel_rfl) sz_37 h (by rw [List.drop_zero, List.take_of_length_le (by rw [hc.len]; exact Nat.le_refl 48)]) hc.len
  rcases hk with ⟨rfl, rfl, rfl⟩ | ⟨rfl, rfl, rfl⟩ | ⟨rfl, rfl, rfl⟩
  · refine ⟨_, bEqF (by decide), ?_⟩
    refine ⟨fun hc => (by cases hc), fun _ => ?_⟩
    refine ⟨_, bEqF (by decide), ?_⟩
    refine ⟨fun hc => (by cases hc), fun _ => ?_⟩
    refine rnA bw256_0 ?_
    refine rnA bw256_1 ?_
    refine rnA bw256_2 ?_
    refine rnA bw256_3 ?_
    refine rnA bw256_4 ?_
    refine rnA bc256 ?_
    obtain ⟨w2, e2, c2, f2, s2⟩ := hst cx256
    refine ⟨w2, e2, ?_⟩
    exact ⟨rfl, _, hld cx256 c2, _, rfl, cx256, f1.trans f2 (fun b hb h => by omega)⟩
  · refine ⟨_, bEq (by decide), ?_⟩
    refine ⟨fun _ => ?_, fun hc => (by cases hc)⟩
    refine rnA bw384_0 ?_
    refine rnA bw384_1 ?_
    refine rnA bw384_2 ?_
    refine rnA bw384_3 ?_
    refine rnA bw384_4 ?_
    refine rnA bc384 ?_
    obtain ⟨w2, e2, c2, f2, s2⟩ := hst cx384
    refine ⟨w2, e2, ?_⟩
    exact ⟨rfl, _, hld cx384 c2, _, rfl, cx384, f1.trans f2 (fun b hb h => by omega)⟩
  · refine ⟨_, bEqF (by decide), ?_⟩
    refine ⟨fun hc => (by cases hc), fun _ => ?_⟩
    refine ⟨_, bEq (by decide), ?_⟩
    refine ⟨fun _ => ?_, fun hc => (by cases hc)⟩
    refine rnA bw521_0 ?_
    refine rnA bw521_1 ?_
    refine rnA bw521_2 ?_
    refine rnA bw521_3 ?_
    refine rnA bw521_4 ?_
    refine rnA bc521 ?_
    obtain ⟨w2, e2, c2, f2, s2⟩ := hst cx521
    refine ⟨w2, e2, ?_⟩
    exact ⟨rfl, _, hld cx521 c2, _, rfl, cx521, f1.trans f2 (fun b hb h => by omega)⟩

end Go.Vc
end

section
/- The reference: IsCurve, IsBelow, IsZero, bytesOf, Opposite, Same. -/
set_option linter.unusedSimpArgs false
set_option linter.unusedVariables false
set_option maxRecDepth 20000
set_option maxHeartbeats 4000000
namespace Go.Vc
open Go.Proofs

theorem IsCurve_c (k : Int) (w : World) : CallX P 4 #[.int .i64 k] w fun v w' => v = .bool (decide (0 ≤ k ∧ k ≤ 2)) ∧ w' = w := by
  refine calls_vc mo fn_4 rfl ok_4 (Nat.le_of_ble_eq_true rfl) nm_4 ?_
  rcases Int.lt_or_le k 0 with h | h
  · refine ⟨_, bGeF (by omega), ?_⟩
    rw [decide_eq_false (by omega)]
    exact ⟨rfl, rfl, rfl⟩
  · refine ⟨_, bGe (by omega), ?_⟩
    rcases Int.lt_or_le 2 k with h2 | h2
    · refine ⟨_, bLeF (by omega), ?_⟩
      rw [decide_eq_false (by omega)]
      exact ⟨rfl, rfl, rfl⟩
    · refine ⟨_, bLe (by omega), ?_⟩
      rw [decide_eq_true ⟨h, h2⟩]
      exact ⟨rfl, rfl, rfl⟩

theorem bev_pos {l : List Nat} {i : Nat} (hi : i < l.length) (h : dg l i ≠ 0) : 0 < bev l := by
  have e := bev_append (l.take i) (l.drop i)
  rw [List.take_append_drop, drop_dg hi] at e
  simp only [bev] at e
  have : 0 < dg l i * 256 ^ (l.drop (i + 1)).length := Nat.mul_pos (by omega) (Nat.pow_pos (by omega))
  omega

theorem IsZero_c {w : World} {a : Option Addr} {c : Nat} {buf : List Nat} (hb : Sb w a buf) (hl : buf.length ≤ 4000) : CallX P 6 #[.slice a buf.length c] w fun v w' => ∃ z : Bool, v = .bool z ∧ (z = false → 0 < bev buf) ∧ w' = w := by
  refine calls_vc mo fn_6 rfl ok_6 (Nat.le_of_ble_eq_true rfl) nm_6 ?_
  (refine vsr ?_)
  (repeat refine vcl_v _ rfl rfl ?_); (refine vcl_end ?_)
  refine vcut (by repeat (first | exact moE _ _ _ | exact moEd _ _ _ | apply moB | apply moL | apply moV)) Unit (fun _ => ⟨[], []⟩) (fun _ u => u = w) ?_ ?_
  · (refine vsr ?_)
    (repeat refine vcl_v _ rfl rfl ?_); (refine vcl_end ?_)
    refine vloop Nat (fun i => ⟨[(0, .slice a buf.length c), (3, .int .i64 (i : Int))], []⟩) (fun i u => u = w ∧ i ≤ buf.length) (fun i => buf.length - i) 0 ⟨⟨rfl, rfl, trivial⟩, rfl⟩ ⟨rfl, Nat.zero_le _⟩ ?_
    rintro i u ⟨rfl, hi⟩
    refine ⟨_, _, ln se_22 _ _ _ _ _ _, ?_⟩
    rcases Nat.lt_or_ge i buf.length with h | h
    · refine ⟨_, bLt (by show (i : Int) < (buf.length : Int); omega), ?_⟩
      refine ⟨fun _ => ?_, fun hc => (by cases hc)⟩
      have hne : buf ≠ [] := by intro e; rw [e] at h; simp at h
      obtain ⟨b, o, rfl, hr⟩ := hb.rd hne
      refine rnA (ia se_22 _ h) ?_
      refine rnC na_5 (hr.cell h) ?_
      rcases Nat.eq_zero_or_pos (dg buf i) with hd | hd
      · refine ⟨_, bNeF (by omega), ?_⟩
        refine ⟨fun hc => (by cases hc), fun _ => ?_⟩
        refine ⟨_, nAdd i 1 (by omega), ?_⟩
        exact ⟨i + 1, ⟨⟨rfl, rfl, trivial⟩, rfl⟩, ⟨rfl, h⟩, by show buf.length - (i + 1) < buf.length - i; omega⟩
      · refine ⟨_, bNe (by omega), ?_⟩
        refine ⟨fun _ => ?_, fun hc => (by cases hc)⟩
        exact ⟨rfl, false, rfl, fun _ => bev_pos h (by omega), rfl⟩
    · refine ⟨_, bLtF (by show ¬ (i : Int) < (buf.length : Int); omega), ?_⟩
      refine ⟨fun hc => (by cases hc), fun _ => ?_⟩
      exact ⟨(), ⟨trivial, rfl⟩, rfl⟩
  rintro _ u rfl
  exact ⟨rfl, true, rfl, fun h => (by cases h), rfl⟩

/-! IsBelow -/
theorem IsBelow_c {k bits : Nat} {f : Int → Sp} (hk : Kcv k bits f) {w : World} {a : Option Addr} {c : Nat} {buf : List Nat} (hb : Sb w a buf) (hn : nb bits ≤ 72) : CallX P 5 #[.int .i64 (k : Int), .slice a buf.length c] w fun v w' => v = .bool (decide (buf.length = nb bits ∧ bev buf < (f 0).p)) ∧ Fm (fun _ => False) w w' := by
  refine calls_vc mo fn_5 rfl ok_5 (Nat.le_of_ble_eq_true rfl) nm_5 ?_
  (refine vsr ?_)
  refine (CurveOf_c hk w).mono ?_
  rintro _ w1 ⟨cs, rfl, hx, f1⟩
  obtain ⟨w2, e2, c2, f2, s2⟩ := nw (t := 37) (z := .agg cz.toArray) (by kernel_rfl) (cs := cz) rfl w1
  refine ⟨_, w2, e2, ?_⟩
  obtain ⟨w3, e3, c3, f3, s3⟩ := stAg (t := 37) (vs := cs) (by rw [hx.len]; exact sz_37) c2 (i := 0) (by rw [hx.len]; exact Nat.le_refl 48) hx.one (cs' := cs) (by rw [List.take_zero, List.nil_append, List.drop_of_length_le (by rw [hx.len]; exact Nat.le_refl 48), List.append_nil])
  refine ⟨w3, e3, ?_⟩
  (repeat refine vcl_v _ rfl rfl ?_); (refine vcl_end ?_)
  have F3 : Fm (fun _ => False) w w3 := (f1.trans f2 (fun _ _ h => h)).trans f3 (fun b hb h => by have := f1.size; omega)
  have hb3 : Sb w3 a buf := ⟨fun h => by obtain ⟨b, o, e, hr⟩ := hb.rd h; exact ⟨b, o, e, hr.fm F3 (fun h => h)⟩⟩
  obtain ⟨m, wm, lm, vm, ht, hz⟩ := hx.ex
  refine ⟨.take 0 (.take 1 (.take 2 (.take 3 (.take 4 (.take 5 (.take 6 (.take 8 (.take 9 (.one 7 [9, 8] (.one 10 [] (.take 11 (.take 12 (.done))))))))))))), by kernel_rfl, ?_⟩
  refine ⟨_, fun w' => ln se_22 _ _ _ _ _ w', ?_⟩
  refine tkA (fa fo_37_5 _ _) ?_
  refine tkL na_3 c3 hz ?_
  rcases Nat.lt_or_ge (bev buf) 0 with h | _
  · omega
  rcases Classical.em (buf.length = nb bits) with hl | hl
  · refine ⟨_, bEq (by omega), ?_⟩
    refine tkA (fa fo_37_0 _ _) ?_
    refine tkAg (by kernel_rfl) sz_35 (Fm.drew (fun _ => False) w3 |>.obj c3 (fun h => h)) (ds := vws m) (by rw [List.drop_zero]; exact ht) (by rw [vws_len, lm]) ?_
    have hb3' : Sb w3.drew a buf := ⟨fun h => by obtain ⟨b, o, e, hr⟩ := hb3.rd h; exact ⟨b, o, e, hr.drew⟩⟩
    refine (ofBytes_c hb3' (by omega)).mono ?_
    rintro _ w4 ⟨l, rfl, ll, wl, vl, f4⟩
    have c4 : Cl w4 w1.heap.size cs 37 := f4.obj (Fm.drew (fun _ => False) w3 |>.obj c3 (fun h => h)) (fun h => h)
    refine ⟨⟨c4, trivial⟩, ?_⟩
    refine (less_c wl wm ll lm w4).mono ?_
    rintro _ w5 ⟨rfl, f5⟩
    refine ⟨trivial, ?_⟩
    rw [vl, vm]
    have e : decide (buf.length = nb bits ∧ bev buf < (f 0).p) = decide (bev buf < (f 0).p) := by simp [hl]
    rw [e]
    exact ⟨rfl, rfl, (F3.dr.trans f4 (fun _ _ h => h)).trans f5 (fun _ _ h => h)⟩
  · refine ⟨_, bEqF (by omega), ?_⟩
    rw [decide_eq_false (fun h => hl h.1)]
    exact ⟨rfl, rfl, F3.dr⟩

/-! bytesOf -/
theorem bytesOf_c {cs : List Value} {p n : Nat} (hx : Cx cs p n) (hn : n ≤ 72) {l : List Nat} (hw : WF l) (hl : l.length = 9) (w : World) : CallX P 19 #[.agg cs.toArray, nV l] w fun v w' => ∃ b, v = .slice (some ⟨b, 0, none⟩) n n ∧ Bd w' b (beL n (nv l)) ∧ w.heap.size ≤ b ∧ Fm (fun _ => False) w w' := by
  refine calls_vc mo fn_19 rfl ok_19 (Nat.le_of_ble_eq_true rfl) nm_19 ?_
  (refine vsr ?_)
  obtain ⟨w1, e1, c1, f1, s1⟩ := bx 37 (v := .agg cs.toArray) (cs := cs) rfl w
  refine ⟨_, w1, e1, ?_⟩
  obtain ⟨w2, e2, c2, f2, s2⟩ := bxN l w1
  refine ⟨_, w2, e2, ?_⟩
  (repeat refine vcl_v _ rfl rfl ?_); (refine vcl_end ?_)
  have c1' := f2.obj c1 (fun h => h)
  obtain ⟨m, wm, lm, vm, ht, hz⟩ := hx.ex
  refine rnR (ldN c2 hl) ?_
  refine rnA (fa fo_37_5 _ _) ?_
  refine rnL na_3 c1' hz ?_
  refine (toBytes_c hw hl hn w2).mono ?_
  rintro _ w3 ⟨b, rfl, hB, hb, f3⟩
  exact ⟨rfl, b, rfl, hB, by omega, (f1.trans f2 (fun _ _ h => h)).trans f3 (fun _ _ h => h)⟩

/-! Opposite -/
theorem Opposite_c {k bits : Nat} {f : Int → Sp} (hk : Kcv k bits f) {w : World} {a : Option Addr} {c : Nat} {buf : List Nat} (hb : Sb w a buf) (hn : nb bits ≤ 72) (hl : buf.length = nb bits) (h0 : 0 < bev buf) (h1 : bev buf < (f 0).p) : CallX P 10 #[.int .i64 (k : Int), .slice a buf.length c] w fun v w' => ∃ b, v = .slice (some ⟨b, 0, none⟩) (nb bits) (nb bits) ∧ Bd w' b (beL (nb bits) ((f 0).p - bev buf)) ∧ w.heap.size ≤ b ∧ Fm (fun _ => False) w w' := by
  refine calls_vc mo fn_10 rfl ok_10 (Nat.le_of_ble_eq_true rfl) nm_10 ?_
  (refine vsr ?_)
  (repeat refine vcl_v _ rfl rfl ?_); (refine vcl_end ?_)
  (refine vsr ?_)
  refine (CurveOf_c hk w).mono ?_
  rintro _ w1 ⟨cs, rfl, hx, f1⟩
  obtain ⟨w2, e2, c2, f2, s2⟩ := nw (t := 37) (z := .agg cz.toArray) (by kernel_rfl) (cs := cz) rfl w1
  refine ⟨_, w2, e2, ?_⟩
  obtain ⟨w3, e3, c3, f3, s3⟩ := stAg (t := 37) (vs := cs) (by rw [hx.len]; exact sz_37) c2 (i := 0) (by rw [hx.len]; exact Nat.le_refl 48) hx.one (cs' := cs) (by rw [List.take_zero, List.nil_append, List.drop_of_length_le (by rw [hx.len]; exact Nat.le_refl 48), List.append_nil])
  refine ⟨w3, e3, ?_⟩
  (repeat refine vcl_v _ rfl rfl ?_); (refine vcl_end ?_)
  have z1 := f1.size
  have F3 : Fm (fun _ => False) w w3 := (f1.trans f2 (fun _ _ h => h)).trans f3 (fun b hb h => by omega)
  have hb3 : Sb w3.drew a buf := ⟨fun h => by obtain ⟨b, o, e, hr⟩ := hb.rd h; exact ⟨b, o, e, (hr.fm F3 (fun h => h)).drew⟩⟩
  have c3' : Cl w3.drew w1.heap.size cs 37 := c3
  obtain ⟨m, wm, lm, vm, ht, hz⟩ := hx.ex
  refine ⟨.take 0 (.take 1 (.take 2 (.take 4 (.take 5 (.one 3 [5, 4, 1, 0] (.one 6 [0] (.one 7 [] (.take 8 (.done))))))))), by kernel_rfl, ?_⟩
  refine tkAg (by kernel_rfl) sz_37 c3' (ds := cs) (by rw [List.drop_zero, List.take_of_length_le (by rw [hx.len]; exact Nat.le_refl 48)]) hx.len ?_
  refine tkA bldN0 ?_
  refine tkA (fa fo_37_0 _ _) ?_
  refine tkAg (by kernel_rfl) sz_35 c3' (ds := vws m) (by rw [List.drop_zero]; exact ht) (by rw [vws_len, lm]) ?_
  refine (ofBytes_c hb3 (by omega)).mono ?_
  rintro _ w4 ⟨l, rfl, ll, wl, vl, f4⟩
  have c4 : Cl w4 w1.heap.size cs 37 := f4.obj c3' (fun h => h)
  refine ⟨⟨c4, c4, trivial⟩, ?_⟩
  refine (subN_c wl wm ll lm (by omega) (by omega) w4).mono ?_
  rintro _ w5 ⟨l2, rfl, ll2, wl2, vl2, f5⟩
  have c5 : Cl w5 w1.heap.size cs 37 := f5.obj c4 (fun h => h)
  refine ⟨⟨c5, trivial⟩, ?_⟩
  refine (bytesOf_c hx hn wl2 ll2 w5).mono ?_
  rintro _ w6 ⟨b, rfl, hB, hbb, f6⟩
  refine ⟨trivial, ?_⟩
  rw [vl2, vl, vm] at hB
  have z4 := f4.size
  have z5 := f5.size
  have z3 := F3.dr.size
  exact ⟨rfl, b, rfl, hB, by omega, ((F3.dr.trans f4 (fun _ _ h => h)).trans f5 (fun _ _ h => h)).trans f6 (fun _ _ h => h)⟩

/-! Same -/
def bstr (l : List Nat) : Value := .string ((l.map (fun (x : Nat) => (x : Int))).foldl (fun r n => r.push (UInt8.ofNat n.toNat)) ByteArray.empty)

theorem strB {w : World} {b n c : Nat} {X : List Nat} (h : Bd w b X) (hl : X.length = n) : (convert 22 9 (.slice (some ⟨b, 0, none⟩) n c)).run P w = .ok (bstr X) w := by
  rw [run_convert_bytes_string w _ _ 5 _ n c (by kernel_rfl) (by kernel_rfl) (by kernel_rfl)]
  subst hl
  refine run_bytesToString w _ _ _ _ ?_
  have hc := run_loadCells_list (P := P) w ⟨b, 0, none⟩ (vbs X) (fun j v hj => by
    rw [addr_add]
    exact h.cl.cell (by rw [Nat.zero_add]; exact hj))
  rw [vbs_len] at hc
  rw [hc]
  simp only [vbs, List.map_map]; rfl

theorem seqB (i j : Nat) (s : ByteArray) (w : World) : ((do eqGuard .eql 9 (.tmp i) (.tmp j) (.string s) (.string s); binOp .eql 9 (.string s) (.string s)) : Sem Value).run P w = .ok (.bool true) w := by
  have : ((do eqGuard .eql 9 (.tmp i) (.tmp j) (.string s) (.string s); binOp .eql 9 (.string s) (.string s)) : Sem Value).run P w = .ok (.bool (s.toList == s.toList)) w := by kernel_rfl
  rw [this, beq_self_eq_true]

theorem Same_c {w : World} {xb yb xb' yb' n : Nat} {X Y : List Nat} (h1 : Bd w xb X) (h2 : Bd w yb Y) (h3 : Bd w xb' X) (h4 : Bd w yb' Y) (hX : X.length = n) (hY : Y.length = n) : CallX P 9 #[ptV xb yb n, ptV xb' yb' n] w fun v w' => v = .bool true ∧ Fm (fun _ => False) w w' := by
  refine calls_vc mo fn_9 rfl ok_9 (Nat.le_of_ble_eq_true rfl) nm_9 ?_
  (refine vsr ?_)
  obtain ⟨w1, e1, c1, f1, s1⟩ := bx 27 (v := ptV xb yb n) (cs := [.slice (some ⟨xb, 0, none⟩) n n, .slice (some ⟨yb, 0, none⟩) n n]) rfl w
  refine ⟨_, w1, e1, ?_⟩
  obtain ⟨w2, e2, c2, f2, s2⟩ := bx 27 (v := ptV xb' yb' n) (cs := [.slice (some ⟨xb', 0, none⟩) n n, .slice (some ⟨yb', 0, none⟩) n n]) rfl w1
  refine ⟨_, w2, e2, ?_⟩
  (repeat refine vcl_v _ rfl rfl ?_); (refine vcl_end ?_)
  have F2 : Fm (fun _ => False) w w2 := f1.trans f2 (fun _ _ h => h)
  have c1' := f2.obj c1 (fun h => h)
  have g1 := h1.fm F2 (fun h => h)
  have g2 := h2.fm F2 (fun h => h)
  have g3 := h3.fm F2 (fun h => h)
  have g4 := h4.fm F2 (fun h => h)
  refine rnA (fa fo_27_0 _ _) ?_
  refine rnL na_22 c1' rfl ?_
  refine rnR (strB g1 hX) ?_
  refine rnA (fa fo_27_0 _ _) ?_
  refine rnL na_22 c2 rfl ?_
  refine rnR (strB g3 hX) ?_
  refine rnA (seqB _ _ _) ?_
  refine rnA (fa fo_27_1 _ _) ?_
  refine rnL na_22 c1' rfl ?_
  refine rnR (strB g2 hY) ?_
  refine rnA (fa fo_27_1 _ _) ?_
  refine rnL na_22 c2 rfl ?_
  refine rnR (strB g4 hY) ?_
  refine rnA (seqB _ _ _) ?_
  exact ⟨rfl, rfl, F2⟩

end Go.Vc
end

section
/- laws.FnMapMinus: for every number of a curve and whatever bytes: true. -/
set_option linter.unusedSimpArgs false
set_option linter.unusedVariables false
set_option maxRecDepth 20000
set_option maxHeartbeats 4000000
namespace Go.Vc
open Go.Proofs

theorem sp_op {bits : Nat} {f : Int → Sp} (h : Cv bits f) (u : Int) : f (((f 0).p : Int) - u) = (f u).op := by
  rcases h with ⟨_, rfl⟩ | ⟨_, rfl⟩ | ⟨_, rfl⟩ <;> rfl

theorem Kcv.nb {k bits : Nat} {f : Int → Sp} (h : Kcv k bits f) : nb bits ≤ 66 ∧ 1 ≤ nb bits := by
  rcases h with ⟨_, rfl, _⟩ | ⟨_, rfl, _⟩ | ⟨_, rfl, _⟩ <;> decide

theorem Kcv.ex {k : Int} (h0 : 0 ≤ k) (h2 : k ≤ 2) : ∃ (n bits : Nat) (f : Int → Sp), k = (n : Int) ∧ Kcv n bits f := by
  rcases (show k = 0 ∨ k = 1 ∨ k = 2 by omega) with rfl | rfl | rfl
  · exact ⟨0, 256, sp256, rfl, .inl ⟨rfl, rfl, rfl⟩⟩
  · exact ⟨1, 384, sp384, rfl, .inr (.inl ⟨rfl, rfl, rfl⟩)⟩
  · exact ⟨2, 521, sp521, rfl, .inr (.inr ⟨rfl, rfl, rfl⟩)⟩

/-- What is asked of the two points, in plain numbers. -/
theorem law_plain {bits : Nat} {f : Int → Sp} (h : Cv bits f) {U : Nat} (h0 : 0 < U) (h1 : U < (f 0).p) {X : Int} (hX : Cg (f U).p ((f U).xd * X) 1) :
    0 ≤ (f U).xn * X % (f U).p ∧ (f U).xn * X % (f U).p < (f 0).p ∧ 0 ≤ (f U).y ∧ (f U).y < (f 0).p ∧
    rhs (f 0).p (f 0).B ((f U).xn * X % (f U).p) = (f U).y * (f U).y % ((f 0).p : Int) ∧ ¬ ((f U).xn * X % (f U).p = 0 ∧ -(f U).y % ((f 0).p : Int) = 0) ∧
    (f ((((f 0).p - U : Nat)) : Int)).y = -(f U).y % ((f 0).p : Int) ∧
    ∀ X' : Int, Cg (f ((((f 0).p - U : Nat)) : Int)).p ((f ((((f 0).p - U : Nat)) : Int)).xd * X') 1 → (f ((((f 0).p - U : Nat)) : Int)).xn * X' % (f ((((f 0).p - U : Nat)) : Int)).p = (f U).xn * X % (f U).p := by
  have hok : (f U).Ok := sp_ok h (by omega) (by omega)
  obtain ⟨sp, sB, _⟩ := sp_same h (U : Int)
  have e : ((((f 0).p - U : Nat)) : Int) = ((f 0).p : Int) - (U : Int) := by omega
  rw [e, sp_op h, show (f U).op.p = (f U).p from rfl]
  have hx := hok.ok hX (x := (f U).xn * X % (f U).p) (Cg.md _ _)
  have hn := hok.not0 hX (x := (f U).xn * X % (f U).p) (Cg.md _ _)
  have hy := hok.y0
  have x0 := hok.ge ((f U).xn * X)
  have x1 := hok.lt ((f U).xn * X)
  have oy := hok.o_y
  have ox := fun X' hX' => hok.o_x (i := X) (j := X') hX hX'
  rw [sp] at *
  rw [sB] at hx
  generalize (f U).xn * X % ((f 0).p : Int) = x at *
  generalize (f U).y = y at *
  refine ⟨x0, x1, hy.1, hy.2, ?_, ?_, oy, ox⟩
  · unfold rhs
    rw [show x * 2 + x = 3 * x by omega]
    exact hx.symm
  · rintro ⟨a, b⟩
    refine hn ⟨a, ?_⟩
    have := Int.emod_emod_of_dvd (-y) (Int.dvd_refl ((f 0).p : Int))
    rcases Int.lt_or_le 0 y with hp | hp
    · rw [← Int.add_emod_right, Int.emod_eq_of_lt (by omega) (by omega)] at b
      omega
    · omega

theorem beL_bev {n : Nat} {x : Int} {p : Nat} (h0 : 0 ≤ x) (h1 : x < p) (hp : p ≤ 256 ^ n) : (bev (beL n x.natAbs) : Int) = x := by
  rw [bev_beL, Nat.mod_eq_of_lt (by omega)]
  omega

theorem Fm.gb {w w' : World} {be : Addr} (h : Gb w be) (f : Fm (fun _ => False) w w') : Gb w' be := h.fm f (fun _ _ h => h)

theorem Sb.fm0 {w w' : World} {a : Option Addr} {l : List Nat} (h : Sb w a l) (f : Fm (fun _ => False) w w') : Sb w' a l :=
  ⟨fun hl => by obtain ⟨b, o, e, hr⟩ := h.rd hl; exact ⟨b, o, e, hr.fm f (fun h => h)⟩⟩

theorem FnMapMinus_c {w : World} {be : Addr} {k : Int} {a : Option Addr} {c : Nat} {buf : List Nat} (hG : Gb w be) (hb : Sb w a buf) (hc : buf.length ≤ c) (hc2 : c < 9223372036854775808) :
    CallX P 3 #[.int .i64 k, .slice a buf.length c] w fun v w' => v = .bool true ∧ Fm (fun _ => False) w w' := by
  refine calls_vc mo fn_3 rfl ok_3 (Nat.le_of_ble_eq_true rfl) nm_3 ?_
  (refine vsr ?_)
  (repeat refine vcl_v _ rfl rfl ?_); (refine vcl_end ?_)
  refine ⟨_, _, ln se_22 _ _ _ _ _ _, ?_⟩
  rcases Nat.lt_or_ge 2147483647 buf.length with h1 | h1
  · refine ⟨_, bGt (by omega), ?_⟩
    refine ⟨fun _ => ?_, fun hc => (by cases hc)⟩
    exact ⟨rfl, rfl, Fm.refl _ _⟩
  refine ⟨_, bGtF (by omega), ?_⟩
  refine ⟨fun hc => (by cases hc), fun _ => ?_⟩
  refine ⟨_, _, ln se_22 _ _ _ _ _ _, ?_⟩
  rcases Nat.lt_or_ge 4096 buf.length with h2 | h2
  · refine ⟨_, bGt (by omega), ?_⟩
    refine ⟨fun _ => ?_, fun hc => (by cases hc)⟩
    exact ⟨rfl, rfl, Fm.refl _ _⟩
  refine ⟨_, bGtF (by omega), ?_⟩
  refine (IsCurve_c k w).mono ?_
  rintro _ w ⟨rfl, rfl⟩
  rcases Classical.em (0 ≤ k ∧ k ≤ 2) with hk | hk
  rotate_left
  · rw [decide_eq_false hk]
    refine ⟨fun _ => ?_, fun hc => (by cases hc)⟩
    exact ⟨rfl, rfl, Fm.refl _ _⟩
  rw [decide_eq_true hk]
  refine ⟨fun hc => (by cases hc), fun _ => ?_⟩
  obtain ⟨kn, bits, f, rfl, hK⟩ := Kcv.ex hk.1 hk.2
  obtain ⟨n72, n1⟩ := hK.nb
  refine (IsBelow_c hK hb (by omega)).mono ?_
  rintro _ w1 ⟨rfl, f1⟩
  rcases Classical.em (buf.length = nb bits ∧ bev buf < (f 0).p) with hB | hB
  rotate_left
  · rw [decide_eq_false hB]
    refine ⟨fun _ => ?_, fun hc => (by cases hc)⟩
    exact ⟨rfl, rfl, f1⟩
  rw [decide_eq_true hB]
  refine (IsZero_c (hb.fm0 f1) (by omega)).mono ?_
  rintro _ w1 ⟨z, rfl, hz, rfl⟩
  cases z
  rotate_left
  · refine ⟨fun _ => ?_, fun hc => (by cases hc)⟩
    exact ⟨rfl, rfl, f1⟩
  refine ⟨fun hc => (by cases hc), fun _ => ?_⟩
  have U0 := hz rfl
  obtain ⟨hl, U1⟩ := hB
  obtain ⟨b, o, rfl, hr⟩ := hb.rd (by intro e; rw [e] at hl; simp at hl; omega)
  have hp := (cv_bits hK.cv).2
  refine (map_c (f1.gb hG) hK (hr.fm f1 (fun h => h)) hc (by omega) hc2 U0 U1).mono ?_
  rintro _ w2 ⟨X, ⟨xb, yb, rfl, hX1, hY1, l1, l2⟩, hX, f2⟩
  obtain ⟨x0, x1, y0, y1, hon, hid, oy, ox⟩ := law_plain hK.cv U0 U1 hX
  have f12 : Fm (fun _ => False) w w2 := f1.trans f2 (fun _ _ h => h)
  generalize (f (bev buf : Int)).xn * X % ((f (bev buf : Int)).p : Int) = x at *
  generalize (f (bev buf : Int)).y = y at *
  have ex := beL_bev x0 x1 hp
  have ey := beL_bev y0 y1 hp
  refine (minus_c (f12.gb hG) hK hX1 hY1 (beL_len _ _) (beL_len _ _) (by omega) (by omega) (by rw [ex, ey]; exact hon) (by rw [ex, ey]; exact hid)).mono ?_
  rintro _ w3 ⟨pv, rfl, ⟨xm, ym, rfl, hXm, hYm, l3, l4⟩, f3⟩
  rw [ex] at hXm
  rw [ey] at hYm
  have f13 : Fm (fun _ => False) w w3 := f12.trans f3 (fun _ _ h => h)
  obtain ⟨w4, e4, c4, f4, s4⟩ := nw (t := 27) (z := .agg #[.slice none 0 0, .slice none 0 0]) (by kernel_rfl) (cs := [.slice none 0 0, .slice none 0 0]) rfl w3
  refine ⟨_, w4, e4, ?_⟩
  obtain ⟨w5, e5, c5, f5, s5⟩ := stAg (t := 27) (vs := [.slice (some ⟨xm, 0, none⟩) (nb bits) (nb bits), .slice (some ⟨ym, 0, none⟩) (nb bits) (nb bits)]) sz_27 c4 (i := 0) (by simp) (by intro v hv; simp at hv; rcases hv with rfl | rfl <;> rfl) (cs' := [.slice (some ⟨xm, 0, none⟩) (nb bits) (nb bits), .slice (some ⟨ym, 0, none⟩) (nb bits) (nb bits)]) rfl
  refine ⟨w5, e5, ?_⟩
  have z13 := f13.size
  have g35 : Fm (fun _ => False) w3 w5.drew := (f4.trans f5 (fun b hb h => by omega)).dr
  have f15 : Fm (fun _ => False) w w5.drew := f13.trans g35 (fun _ _ h => h)
  have hXm5 := hXm.fm g35 (fun h => h)
  have hYm5 := hYm.fm g35 (fun h => h)
  have c5' : Cl w5.drew w3.heap.size [.slice (some ⟨xm, 0, none⟩) (nb bits) (nb bits), .slice (some ⟨ym, 0, none⟩) (nb bits) (nb bits)] 27 := c5
  refine ⟨.take 0 (.take 1 (.take 2 (.take 3 (.take 4 (.take 7 (.one 5 [7, 2] (.one 6 [7] (.one 8 [] (.take 9 (.take 10 (.done))))))))))), by kernel_rfl, ?_⟩
  refine tkAg (by kernel_rfl) sz_27 c5' rfl rfl ?_
  refine (Opposite_c hK (hb.fm0 f15) (by omega) hl U0 U1).mono ?_
  rintro _ w6 ⟨b2, rfl, hB2, l5, f6⟩
  have c6 : Cl w6 w3.heap.size [.slice (some ⟨xm, 0, none⟩) (nb bits) (nb bits), .slice (some ⟨ym, 0, none⟩) (nb bits) (nb bits)] 27 := f6.obj c5' (fun h => h)
  refine ⟨⟨c6, trivial⟩, ?_⟩
  have f16 : Fm (fun _ => False) w w6 := f15.trans f6 (fun _ _ h => h)
  have hbv : bev (beL (nb bits) ((f 0).p - bev buf)) = (f 0).p - bev buf := by rw [bev_beL, Nat.mod_eq_of_lt (by omega)]
  have hRb : Rb w6 b2 0 (beL (nb bits) ((f 0).p - bev buf)) := Rb.of_bd hB2 (by rw [Nat.zero_add]; exact Nat.le_refl _) (by rw [List.drop_zero, List.take_length])
  have hm := map_c (c := nb bits) (f16.gb hG) hK hRb (by rw [beL_len]; exact Nat.le_refl _) (by rw [beL_len]; omega) (by omega) (by rw [hbv]; omega) (by rw [hbv]; omega)
  rw [beL_len, hbv] at hm
  refine hm.mono ?_
  rintro _ w7 ⟨X', ⟨xb2, yb2, rfl, hX2, hY2, l6, l7⟩, hX', f7⟩
  rw [ox X' hX'] at hX2
  rw [oy] at hY2
  refine ⟨⟨f7.obj c6 (fun h => h), trivial⟩, ?_⟩
  have g57 : Fm (fun _ => False) w5.drew w7 := f6.trans f7 (fun _ _ h => h)
  refine (Same_c hX2 hY2 (hXm5.fm g57 (fun h => h)) (hYm5.fm g57 (fun h => h)) (beL_len _ _) (beL_len _ _)).mono ?_
  rintro _ w8 ⟨rfl, f8⟩
  refine ⟨trivial, ?_⟩
  exact ⟨rfl, rfl, (f15.trans g57 (fun _ _ h => h)).trans f8 (fun _ _ h => h)⟩

end Go.Vc
end
