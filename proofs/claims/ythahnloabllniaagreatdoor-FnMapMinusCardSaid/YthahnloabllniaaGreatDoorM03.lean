/- Shifts of numbers as words. Plain: no program. -/
import Derived.Test.YthahnloabllniaaGreatDoorM02
section
set_option linter.unusedSimpArgs false
set_option linter.unusedVariables false
namespace Go.Vc

def tab (f : Nat → Nat) (n : Nat) : List Nat := (List.range n).map f
theorem tab_len (f : Nat → Nat) (n : Nat) : (tab f n).length = n := by simp [tab]
theorem dg_tab {f : Nat → Nat} {n i : Nat} (h : i < n) : dg (tab f n) i = f i := by simp [dg, tab, List.getD, h]
theorem WF_tab {f : Nat → Nat} {n : Nat} (h : ∀ i, i < n → f i < BW) : WF (tab f n) := by
  intro x hx
  simp [tab] at hx
  obtain ⟨i, hi, rfl⟩ := hx
  exact h i hi
theorem tab_succ (f : Nat → Nat) (n : Nat) : tab f (n + 1) = tab f n ++ [f n] := by simp [tab, List.range_succ]
theorem tab_take (f : Nat → Nat) {n k : Nat} (h : k ≤ n) : (tab f n).take k = tab f k := by
  apply list_ext_dg (by simp [tab]; omega)
  intro i hi
  simp [tab] at hi
  rw [dg_take (by omega), dg_tab (by omega), dg_tab (by omega)]
theorem nv_tab_succ (f : Nat → Nat) (n : Nat) : nv (tab f (n + 1)) = nv (tab f n) + BW ^ n * f n := by
  rw [tab_succ, nv_append, tab_len]; simp [nv]

theorem two_split {s : Nat} (h : s ≤ 64) : 2 ^ s * 2 ^ (64 - s) = BW := by rw [← Nat.pow_add, show s + (64 - s) = 64 by omega]; rfl

/-- The j-th word of a number shifted to the left. -/
def lshw (xs : List Nat) (s j : Nat) : Nat := 2 ^ s * (dg xs j % 2 ^ (64 - s)) + (if j = 0 then 0 else dg xs (j - 1) / 2 ^ (64 - s))
def lshc (xs : List Nat) (s k : Nat) : Nat := if k = 0 then 0 else dg xs (k - 1) / 2 ^ (64 - s)

theorem div_lt_pow {x s : Nat} (hx : x < BW) (hs : s ≤ 64) : x / 2 ^ (64 - s) < 2 ^ s := by
  rw [Nat.div_lt_iff_lt_mul (Nat.pow_pos (by omega)), two_split hs]; exact hx

theorem lshw_lt {xs : List Nat} (h : WF xs) {s : Nat} (hs : s ≤ 64) (j : Nat) : lshw xs s j < BW := by
  unfold lshw
  have h1 : dg xs j % 2 ^ (64 - s) < 2 ^ (64 - s) := Nat.mod_lt _ (Nat.pow_pos (by omega))
  have h2 : (if j = 0 then 0 else dg xs (j - 1) / 2 ^ (64 - s)) < 2 ^ s := by
    split
    · exact Nat.pow_pos (by omega)
    · exact div_lt_pow (h.dg _) hs
  have h3 : 2 ^ s * (dg xs j % 2 ^ (64 - s) + 1) ≤ 2 ^ s * 2 ^ (64 - s) := Nat.mul_le_mul_left _ h1
  rw [two_split hs, Nat.mul_add] at h3
  omega

theorem lsh_nv {xs : List Nat} {s : Nat} (hs : s ≤ 64) : ∀ k, k ≤ xs.length → nv (tab (lshw xs s) k) + BW ^ k * lshc xs s k = nv (xs.take k) * 2 ^ s
  | 0, _ => by simp [tab, nv, lshc]
  | k + 1, hk => by
    have ih := lsh_nv (xs := xs) hs k (by omega)
    rw [nv_tab_succ, nv_take_succ (l := xs) (i := k) (by omega), Nat.add_mul, ← ih]
    have e : lshw xs s k + BW * lshc xs s (k + 1) = dg xs k * 2 ^ s + lshc xs s k := by
      have hq := Nat.div_add_mod (dg xs k) (2 ^ (64 - s))
      have : dg xs k * 2 ^ s = 2 ^ s * (2 ^ (64 - s) * (dg xs k / 2 ^ (64 - s)) + dg xs k % 2 ^ (64 - s)) := by rw [hq, Nat.mul_comm]
      rw [Nat.mul_add, ← Nat.mul_assoc, two_split hs] at this
      rw [this]
      simp only [lshw, lshc, Nat.add_one_ne_zero, if_false, Nat.add_sub_cancel]
      omega
    have e2 : BW ^ k * (lshw xs s k + BW * lshc xs s (k + 1)) = BW ^ k * (dg xs k * 2 ^ s + lshc xs s k) := by rw [e]
    simp only [Nat.mul_add, ← Nat.mul_assoc, ← Nat.pow_succ, Nat.succ_eq_add_one] at e2 ⊢
    omega

/-- The j-th word of a number shifted to the right. -/
def rshw (xs : List Nat) (s j : Nat) : Nat := dg xs j / 2 ^ s + 2 ^ (64 - s) * (dg xs (j + 1) % 2 ^ s)

theorem rshw_lt {xs : List Nat} (h : WF xs) {s : Nat} (hs : s ≤ 64) (j : Nat) : rshw xs s j < BW := by
  unfold rshw
  have h1 : dg xs (j + 1) % 2 ^ s < 2 ^ s := Nat.mod_lt _ (Nat.pow_pos (by omega))
  have h2 : dg xs j / 2 ^ s < 2 ^ (64 - s) := by
    have := div_lt_pow (x := dg xs j) (s := 64 - s) (h.dg _) (by omega)
    rwa [show 64 - (64 - s) = s by omega] at this
  have h3 : 2 ^ (64 - s) * (dg xs (j + 1) % 2 ^ s + 1) ≤ 2 ^ (64 - s) * 2 ^ s := Nat.mul_le_mul_left _ h1
  rw [Nat.mul_comm (2 ^ (64 - s)) (2 ^ s), two_split hs, Nat.mul_add] at h3
  omega

theorem rsh_nv {xs : List Nat} {s : Nat} (hs : s ≤ 64) : ∀ k, k ≤ xs.length → nv (tab (rshw xs s) k) * 2 ^ s + dg xs 0 % 2 ^ s = nv (xs.take k) + BW ^ k * (dg xs k % 2 ^ s)
  | 0, _ => by simp [tab, nv]
  | k + 1, hk => by
    have ih := rsh_nv (xs := xs) hs k (by omega)
    rw [nv_tab_succ, nv_take_succ (l := xs) (i := k) (by omega), Nat.add_mul]
    have e : rshw xs s k * 2 ^ s + dg xs k % 2 ^ s = dg xs k + BW * (dg xs (k + 1) % 2 ^ s) := by
      have hq := Nat.div_add_mod (dg xs k) (2 ^ s)
      simp only [rshw, Nat.add_mul]
      have : 2 ^ (64 - s) * (dg xs (k + 1) % 2 ^ s) * 2 ^ s = BW * (dg xs (k + 1) % 2 ^ s) := by
        rw [Nat.mul_comm _ (2 ^ s), ← Nat.mul_assoc, two_split hs]
      rw [this, Nat.mul_comm _ (2 ^ s)]
      omega
    have e2 : BW ^ k * (rshw xs s k * 2 ^ s + dg xs k % 2 ^ s) = BW ^ k * (dg xs k + BW * (dg xs (k + 1) % 2 ^ s)) := by rw [e]
    simp only [Nat.mul_add, ← Nat.mul_assoc, ← Nat.pow_succ, Nat.succ_eq_add_one] at e2 ⊢
    omega

theorem rsh_nv_all {xs : List Nat} {s : Nat} (hs : s ≤ 64) : nv (tab (rshw xs s) xs.length) = nv xs / 2 ^ s := by
  have h := rsh_nv (xs := xs) hs xs.length (Nat.le_refl _)
  rw [dg_ge (Nat.le_refl _), List.take_length] at h
  have hp : 0 < 2 ^ s := Nat.pow_pos (by omega)
  have h1 : dg xs 0 % 2 ^ s < 2 ^ s := Nat.mod_lt _ hp
  simp only [Nat.zero_mod, Nat.mul_zero, Nat.add_zero] at h
  rw [← h, Nat.mul_comm, Nat.mul_add_div hp, Nat.div_eq_of_lt h1, Nat.add_zero]

theorem or_split {a b s : Nat} (h : b < 2 ^ s) : (2 ^ s * a) ||| b = 2 ^ s * a + b := (Nat.two_pow_add_eq_or_of_lt h a).symm

theorem shl_mod {x s : Nat} (hs : s ≤ 64) : (x * 2 ^ s) % BW = 2 ^ s * (x % 2 ^ (64 - s)) := by
  rw [← two_split hs, Nat.mul_comm x, Nat.mul_mod_mul_left]

end Go.Vc
end

section
/- The shifts. -/
set_option linter.unusedSimpArgs false
set_option linter.unusedVariables false
set_option maxRecDepth 4000
namespace Go.Vc
open Go.Proofs

theorem and63 {s : Nat} (h : s < 64) : s &&& 63 = s := by
  have := Nat.and_two_pow_sub_one_eq_mod s 6
  rw [show 2 ^ 6 - 1 = 63 by rfl] at this
  rw [this]; exact Nat.mod_eq_of_lt h

theorem drop_tab {f : Nat → Nat} {n i : Nat} (h : i < n) : (tab f n).drop i = f i :: (tab f n).drop (i + 1) := by
  rw [drop_dg (by rw [tab_len]; exact h), dg_tab h]

theorem lshVU_g_c {w : World} {bz oz cz bx ox cx s : Nat} {Z xs : List Nat} (hZ : Wd w bz Z) (hx : Rd w bx ox xs) (hs : s < 64) (hn : 0 < xs.length)
    (hz : oz + xs.length ≤ Z.length) (cxx : bx = bz → ox ≤ oz ∨ oz + xs.length ≤ ox) (hb : xs.length < 4611686018427387904) :
    CallX P 163 #[.slice (some ⟨bz, oz, none⟩) xs.length cz, .slice (some ⟨bx, ox, none⟩) xs.length cx, .int .u64 (s : Int)] w fun v w' =>
      ∃ zs c, v = vw c ∧ c < 2 ^ s ∧ zs.length = xs.length ∧ Wd w' bz (splice Z oz zs) ∧ nv zs + BW ^ xs.length * c = nv xs * 2 ^ s ∧ Fm (· = bz) w w' ∧ w'.heap.size = w.heap.size := by
  refine calls_vc mo fn_163 rfl ok_163 (Nat.le_of_ble_eq_true rfl) nm_163 ?_
  refine ⟨_, _, ln se_53 _ _ _ _ _ _, ?_⟩
  refine ⟨_, _, ln se_53 _ _ _ _ _ _, ?_⟩
  refine ⟨_, bNeF rfl, ?_⟩
  refine ⟨fun hc => (by cases hc), fun _ => ?_⟩
  rcases Nat.eq_zero_or_pos s with rfl | hsp
  · refine ⟨_, bEq rfl, ?_⟩
    refine ⟨fun _ => ?_, fun hc => (by cases hc)⟩
    obtain ⟨w', e', hW', hF', hs'⟩ := cpy se_53 (dn := xs.length) (sn := xs.length) (dc := cz) (sc := cx) hZ hx (by omega) hz _ _ _
    refine ⟨_, w', e', ?_⟩
    refine ⟨rfl, ?_⟩
    exact ⟨xs, 0, rfl, by omega, rfl, hW', by simp, hF', hs'⟩
  refine ⟨_, bEqF (by omega), ?_⟩
  refine ⟨fun hc => (by cases hc), fun _ => ?_⟩
  refine ⟨_, _, ln se_53 _ _ _ _ _ _, ?_⟩
  refine ⟨_, bEqF (by omega), ?_⟩
  refine ⟨fun hc => (by cases hc), fun _ => ?_⟩
  have a1 : s &&& 63 = s := and63 hs
  have a2 : (64 - s) &&& 63 = 64 - s := and63 (by omega)
  refine ⟨_, wAnd s 63 (by omega) (by omega), ?_⟩
  rw [a1]
  refine ⟨_, wSub' (x := 64) (y := s) (by omega) (by omega), ?_⟩
  refine ⟨_, wAnd (64 - s) 63 (by omega) (by omega), ?_⟩
  rw [a2]
  refine ⟨_, _, ln se_53 _ _ _ _ _ _, ?_⟩
  refine ⟨_, nSub xs.length 1 (by omega) (by omega), ?_⟩
  refine rnA (ia se_53 _ (by omega)) ?_
  refine rnC na_101 (hx.cell (by omega)) ?_
  refine ⟨_, wShr _ (64 - s) _ (by omega), ?_⟩
  refine ⟨_, _, ln se_53 _ _ _ _ _ _, ?_⟩
  refine ⟨_, nSub xs.length 1 (by omega) (by omega), ?_⟩
  have hcw : dg xs (xs.length - 1) / 2 ^ (64 - s) < 2 ^ s := div_lt_pow (hx.wf.dg _) (by omega)
  generalize hcc : dg xs (xs.length - 1) / 2 ^ (64 - s) = c at hcw
  have hwf : WF (tab (lshw xs s) xs.length) := WF_tab fun i _ => lshw_lt (s := s) hx.wf (by omega) i
  have htl := tab_len (lshw xs s) xs.length
  generalize hT : tab (lshw xs s) xs.length = T at *
  have hdr : ∀ i, (T.drop i).length = xs.length - i := fun i => by rw [List.length_drop, htl]
  refine vloop Nat (fun i => ⟨[(0, .slice (some ⟨bz, oz, none⟩) xs.length cz), (1, .slice (some ⟨bx, ox, none⟩) xs.length cx), (2, vw s), (6, vw c), (7, vw (64 - s)), (8, .int .i64 (i : Int))], []⟩)
    (fun i u => i < xs.length ∧ Wd u bz (splice Z (oz + (i + 1)) (T.drop (i + 1))) ∧ Fm (· = bz) w u ∧ u.heap.size = w.heap.size) (fun i => i) (xs.length - 1)
    ⟨⟨rfl, rfl, rfl, rfl, rfl, rfl, trivial⟩, rfl⟩ ⟨by omega, by rw [List.drop_eq_nil_of_le (by omega), splice_nil]; exact hZ, Fm.refl _ _, rfl⟩ ?_
  rintro i u ⟨hi, hW, hF, hsz⟩
  have hfit : oz + (i + 1) + (T.drop (i + 1)).length ≤ Z.length := by rw [hdr]; omega
  have rdi : ∀ j, j ≤ i → u.cell? ⟨bx, ox + j, none⟩ = some (vw (dg xs j)) := fun j hj =>
    rd_out hx hZ hF hW hfit (fun e => by rw [hdr]; rcases cxx e with h | h <;> omega) (by omega)
  rcases Nat.eq_zero_or_pos i with rfl | hip
  · refine ⟨_, bGtF (by omega), ?_⟩
    refine ⟨fun hc => (by cases hc), fun _ => ?_⟩
    refine rnA (ia se_53 _ hn) ?_
    refine rnC na_101 (rdi 0 (Nat.le_refl _)) ?_
    refine ⟨_, wShl _ s _ (by omega), ?_⟩
    refine rnA (ia se_53 _ hn) ?_
    have e0 : (dg xs 0 * 2 ^ s) % 18446744073709551616 = lshw xs s 0 := by
      rw [← BW_eq, shl_mod (by omega)]; simp [lshw]
    rw [e0]
    obtain ⟨w3, e3, hW3, hF3, hz3⟩ := hW.st (i := oz + 0) (by rw [splice_len hfit]; omega) (lshw_lt (s := s) hx.wf (by omega) 0)
    refine ⟨w3, e3, ?_⟩
    refine ⟨rfl, ?_⟩
    refine ⟨T, c, rfl, hcw, htl, ?_, ?_, hF.trans hF3 (fun _ _ h => h), hz3.trans hsz⟩
    · have hW4 : Wd w3 bz ((splice Z (oz + 1) (T.drop 1)).set oz (lshw xs s 0)) := hW3
      rw [splice_cons (Z := Z) (o := oz) (r := T.drop 1) (by rw [hdr]; omega)] at hW4
      have : lshw xs s 0 :: T.drop 1 = T := by
        have := drop_tab (f := lshw xs s) hn
        rw [hT, List.drop_zero] at this
        exact this.symm
      rw [this] at hW4; exact hW4
    · have := lsh_nv (xs := xs) (s := s) (by omega) xs.length (Nat.le_refl _)
      rw [List.take_length, hT] at this
      rw [← this, ← hcc]
      simp [lshc, Nat.ne_of_gt hn]
  · refine ⟨_, bGt (by omega), ?_⟩
    refine ⟨fun _ => ?_, fun hc => (by cases hc)⟩
    refine ⟨.take 0 (.take 1 (.take 2 (.take 3 (.take 4 (.take 5 (.take 6 (.take 7 (.take 8 (.take 9 (.take 10 (.take 11 (.take 12 (.take 13 (.take 14 (.take 15 (.take 16 (.one 17 [] (.done)))))))))))))))))), by kernel_rfl, ?_⟩
    refine tkA (ia se_53 _ hi) ?_
    refine tkC na_101 (rdi i (Nat.le_refl _)) ?_
    refine ⟨_, wShl _ s _ (by omega), ?_⟩
    refine ⟨_, nSub i 1 (by omega) (by omega), ?_⟩
    refine tkA (ia se_53 _ (by omega)) ?_
    refine tkC na_101 (rdi (i - 1) (by omega)) ?_
    refine ⟨_, wShr _ (64 - s) _ (by omega), ?_⟩
    have hlo : dg xs (i - 1) / 2 ^ (64 - s) < 2 ^ s := div_lt_pow (hx.wf.dg _) (by omega)
    have h2s : 2 ^ s ≤ 2 ^ 64 := Nat.pow_le_pow_right (by omega) (by omega)
    have e0 : (dg xs i * 2 ^ s) % 18446744073709551616 ||| dg xs (i - 1) / 2 ^ (64 - s) = lshw xs s i := by
      rw [← BW_eq, shl_mod (by omega), or_split hlo]; simp [lshw, Nat.ne_of_gt hip]
    refine ⟨_, wOr _ _ (by omega) (by omega), ?_⟩
    rw [e0]
    refine tkA (ia se_53 _ hi) ?_
    obtain ⟨w3, e3, hW3, hF3, hz3⟩ := hW.drew.st (i := oz + i) (by rw [splice_len hfit]; omega) (lshw_lt (s := s) hx.wf (by omega) i)
    refine ⟨w3, e3, ?_⟩
    refine ⟨trivial, ?_⟩
    refine ⟨_, nSub i 1 (by omega) (by omega), ?_⟩
    refine ⟨i - 1, ⟨⟨rfl, rfl, rfl, rfl, rfl, rfl, trivial⟩, rfl⟩, ⟨by omega, ?_, hF.trans hF3.drew' (fun _ _ h => h), hz3.trans hsz⟩, by omega⟩
    rw [← Nat.add_assoc, splice_cons (by rw [hdr]; omega)] at hW3
    have : lshw xs s i :: T.drop (i + 1) = T.drop i := by rw [← hT, ← drop_tab hi]
    rw [this] at hW3
    rw [show i - 1 + 1 = i by omega]; exact hW3

theorem lshVU_c {w : World} {bz oz cz bx ox cx s : Nat} {Z xs : List Nat} (hZ : Wd w bz Z) (hx : Rd w bx ox xs) (hs : s < 64) (hn : 0 < xs.length)
    (hz : oz + xs.length ≤ Z.length) (cxx : bx = bz → ox ≤ oz ∨ oz + xs.length ≤ ox) (hb : xs.length < 4611686018427387904) :
    CallX P 142 #[.slice (some ⟨bz, oz, none⟩) xs.length cz, .slice (some ⟨bx, ox, none⟩) xs.length cx, .int .u64 (s : Int)] w fun v w' =>
      ∃ zs c, v = vw c ∧ c < 2 ^ s ∧ zs.length = xs.length ∧ Wd w' bz (splice Z oz zs) ∧ nv zs + BW ^ xs.length * c = nv xs * 2 ^ s ∧ Fm (· = bz) w w' ∧ w'.heap.size = w.heap.size := by
  refine calls_vc mo fn_142 rfl ok_142 (Nat.le_of_ble_eq_true rfl) nm_142 ?_
  refine (lshVU_g_c hZ hx hs hn hz cxx hb).mono ?_
  rintro v1 w1 h
  exact ⟨rfl, h⟩

theorem rshVU_g_c {w : World} {bz oz cz bx ox cx s : Nat} {Z xs : List Nat} (hZ : Wd w bz Z) (hx : Rd w bx ox xs) (hs : s < 64) (hn : 0 < xs.length)
    (hz : oz + xs.length ≤ Z.length) (cxx : bx = bz → oz ≤ ox ∨ ox + xs.length ≤ oz) (hb : xs.length < 4611686018427387904) :
    CallX P 111 #[.slice (some ⟨bz, oz, none⟩) xs.length cz, .slice (some ⟨bx, ox, none⟩) xs.length cx, .int .u64 (s : Int)] w fun v w' =>
      ∃ zs c, v = vw c ∧ zs.length = xs.length ∧ Wd w' bz (splice Z oz zs) ∧ nv zs = nv xs / 2 ^ s ∧ Fm (· = bz) w w' ∧ w'.heap.size = w.heap.size := by
  refine calls_vc mo fn_111 rfl ok_111 (Nat.le_of_ble_eq_true rfl) nm_111 ?_
  refine ⟨_, _, ln se_53 _ _ _ _ _ _, ?_⟩
  refine ⟨_, _, ln se_53 _ _ _ _ _ _, ?_⟩
  refine ⟨_, bNeF rfl, ?_⟩
  refine ⟨fun hc => (by cases hc), fun _ => ?_⟩
  rcases Nat.eq_zero_or_pos s with rfl | hsp
  · refine ⟨_, bEq rfl, ?_⟩
    refine ⟨fun _ => ?_, fun hc => (by cases hc)⟩
    obtain ⟨w', e', hW', hF', hs'⟩ := cpy se_53 (dn := xs.length) (sn := xs.length) (dc := cz) (sc := cx) hZ hx (by omega) hz _ _ _
    refine ⟨_, w', e', ?_⟩
    refine ⟨rfl, ?_⟩
    exact ⟨xs, 0, rfl, rfl, hW', by simp, hF', hs'⟩
  refine ⟨_, bEqF (by omega), ?_⟩
  refine ⟨fun hc => (by cases hc), fun _ => ?_⟩
  refine ⟨_, _, ln se_53 _ _ _ _ _ _, ?_⟩
  refine ⟨_, bEqF (by omega), ?_⟩
  refine ⟨fun hc => (by cases hc), fun _ => ?_⟩
  have a1 : s &&& 63 = s := and63 hs
  have a2 : (64 - s) &&& 63 = 64 - s := and63 (by omega)
  refine ⟨_, wAnd s 63 (by omega) (by omega), ?_⟩
  rw [a1]
  refine ⟨_, wSub' (x := 64) (y := s) (by omega) (by omega), ?_⟩
  refine ⟨_, wAnd (64 - s) 63 (by omega) (by omega), ?_⟩
  rw [a2]
  refine rnA (ia se_53 _ hn) ?_
  refine rnC na_101 (hx.cell hn) ?_
  refine ⟨_, wShl _ (64 - s) _ (by omega), ?_⟩
  generalize (dg xs 0 * 2 ^ (64 - s)) % 18446744073709551616 = c
  have hwf : WF (tab (rshw xs s) xs.length) := WF_tab fun i _ => rshw_lt (s := s) hx.wf (by omega) i
  have htl := tab_len (rshw xs s) xs.length
  generalize hT : tab (rshw xs s) xs.length = T at *
  have htk : ∀ k, k < xs.length → T.take k ++ [rshw xs s k] = T.take (k + 1) := fun k hk => by
    rw [← hT, tab_take _ (by omega), tab_take _ (by omega), tab_succ]
  have htll : ∀ k, k ≤ xs.length → (T.take k).length = k := fun k hk => by rw [List.length_take, htl]; omega
  refine vloop Nat (fun i => ⟨[(0, .slice (some ⟨bz, oz, none⟩) xs.length cz), (1, .slice (some ⟨bx, ox, none⟩) xs.length cx), (2, vw s), (6, vw c), (7, vw (64 - s)), (8, .int .i64 (i : Int))], []⟩)
    (fun i u => 0 < i ∧ i ≤ xs.length ∧ Wd u bz (splice Z oz (T.take (i - 1))) ∧ Fm (· = bz) w u ∧ u.heap.size = w.heap.size) (fun i => xs.length - i) 1
    ⟨⟨rfl, rfl, rfl, rfl, rfl, rfl, trivial⟩, rfl⟩ ⟨by omega, hn, by rw [List.take_zero, splice_nil]; exact hZ, Fm.refl _ _, rfl⟩ ?_
  rintro i u ⟨hi0, hi, hW, hF, hsz⟩
  have hlt := htll (i - 1) (by omega)
  have hfit : oz + (T.take (i - 1)).length ≤ Z.length := by rw [hlt]; omega
  have rdi : ∀ j, i - 1 ≤ j → j < xs.length → u.cell? ⟨bx, ox + j, none⟩ = some (vw (dg xs j)) := fun j hj hj2 =>
    rd_out hx hZ hF hW hfit (fun e => by rw [hlt]; rcases cxx e with h | h <;> omega) hj2
  refine ⟨_, _, ln se_53 _ _ _ _ _ _, ?_⟩
  rcases Nat.lt_or_ge i xs.length with hil | hig
  · refine ⟨_, bLt (by omega), ?_⟩
    refine ⟨fun _ => ?_, fun hc => (by cases hc)⟩
    refine ⟨.take 0 (.take 1 (.take 2 (.take 3 (.take 4 (.take 5 (.take 6 (.take 7 (.take 8 (.take 9 (.take 10 (.take 11 (.take 12 (.take 13 (.take 14 (.take 15 (.take 16 (.take 17 (.one 18 [] (.done))))))))))))))))))), by kernel_rfl, ?_⟩
    refine ⟨_, nSub i 1 (by omega) (by omega), ?_⟩
    refine ⟨_, nSub i 1 (by omega) (by omega), ?_⟩
    refine tkA (ia se_53 _ (by omega)) ?_
    refine tkC na_101 (rdi (i - 1) (Nat.le_refl _) (by omega)) ?_
    refine ⟨_, wShr _ s _ (by omega), ?_⟩
    refine tkA (ia se_53 _ hil) ?_
    refine tkC na_101 (rdi i (by omega) hil) ?_
    refine ⟨_, wShl _ (64 - s) _ (by omega), ?_⟩
    have hlo : dg xs (i - 1) / 2 ^ s < 2 ^ (64 - s) := by
      have := div_lt_pow (x := dg xs (i - 1)) (s := 64 - s) (hx.wf.dg _) (by omega)
      rwa [show 64 - (64 - s) = s by omega] at this
    have h2s : 2 ^ (64 - s) ≤ 2 ^ 64 := Nat.pow_le_pow_right (by omega) (by omega)
    have e0 : dg xs (i - 1) / 2 ^ s ||| (dg xs i * 2 ^ (64 - s)) % 18446744073709551616 = rshw xs s (i - 1) := by
      rw [← BW_eq, shl_mod (by omega), Nat.or_comm, or_split hlo, show 64 - (64 - s) = s by omega]
      simp only [rshw]
      rw [show i - 1 + 1 = i by omega]; omega
    refine ⟨_, wOr _ _ (by omega) (by omega), ?_⟩
    rw [e0]
    refine tkA (ia se_53 _ (by omega)) ?_
    obtain ⟨w3, e3, hW3, hF3, hz3⟩ := hW.drew.st (i := oz + (i - 1)) (by rw [splice_len hfit]; omega) (rshw_lt (s := s) hx.wf (by omega) (i - 1))
    refine ⟨w3, e3, ?_⟩
    refine ⟨trivial, ?_⟩
    refine ⟨_, nAdd i 1 (by omega), ?_⟩
    refine ⟨i + 1, ⟨⟨rfl, rfl, rfl, rfl, rfl, rfl, trivial⟩, rfl⟩, ⟨by omega, by omega, ?_, hF.trans hF3.drew' (fun _ _ h => h), hz3.trans hsz⟩, by omega⟩
    have := splice_snoc (Z := Z) (o := oz) (l := T.take (i - 1)) (by rw [hlt]; omega) (rshw xs s (i - 1))
    rw [hlt, htk _ (by omega)] at this
    rw [this, show i - 1 + 1 = i + 1 - 1 by omega] at hW3
    exact hW3
  · have hie : i = xs.length := by omega
    subst hie
    refine ⟨_, bLtF (by omega), ?_⟩
    refine ⟨fun hc => (by cases hc), fun _ => ?_⟩
    refine ⟨_, _, ln se_53 _ _ _ _ _ _, ?_⟩
    refine ⟨_, nSub xs.length 1 (by omega) (by omega), ?_⟩
    refine ⟨_, _, ln se_53 _ _ _ _ _ _, ?_⟩
    refine ⟨_, nSub xs.length 1 (by omega) (by omega), ?_⟩
    refine rnA (ia se_53 _ (by omega)) ?_
    refine rnC na_101 (rdi (xs.length - 1) (Nat.le_refl _) (by omega)) ?_
    refine ⟨_, wShr _ s _ (by omega), ?_⟩
    refine rnA (ia se_53 _ (by omega)) ?_
    have e0 : dg xs (xs.length - 1) / 2 ^ s = rshw xs s (xs.length - 1) := by
      simp only [rshw]
      rw [dg_ge (l := xs) (i := xs.length - 1 + 1) (by omega)]; simp
    rw [e0]
    obtain ⟨w3, e3, hW3, hF3, hz3⟩ := hW.st (i := oz + (xs.length - 1)) (by rw [splice_len hfit]; omega) (rshw_lt (s := s) hx.wf (by omega) (xs.length - 1))
    refine ⟨w3, e3, ?_⟩
    refine ⟨rfl, ?_⟩
    refine ⟨T, c, rfl, htl, ?_, ?_, hF.trans hF3 (fun _ _ h => h), hz3.trans hsz⟩
    · have := splice_snoc (Z := Z) (o := oz) (l := T.take (xs.length - 1)) (by rw [hlt]; omega) (rshw xs s (xs.length - 1))
      rw [hlt, htk _ (by omega), show xs.length - 1 + 1 = xs.length by omega, show T.take xs.length = T from List.take_of_length_le (by omega)] at this
      rw [this] at hW3
      exact hW3
    · rw [← hT]; exact rsh_nv_all (by omega)

theorem rshVU_c {w : World} {bz oz cz bx ox cx s : Nat} {Z xs : List Nat} (hZ : Wd w bz Z) (hx : Rd w bx ox xs) (hs : s < 64) (hn : 0 < xs.length)
    (hz : oz + xs.length ≤ Z.length) (cxx : bx = bz → oz ≤ ox ∨ ox + xs.length ≤ oz) (hb : xs.length < 4611686018427387904) :
    CallX P 96 #[.slice (some ⟨bz, oz, none⟩) xs.length cz, .slice (some ⟨bx, ox, none⟩) xs.length cx, .int .u64 (s : Int)] w fun v w' =>
      ∃ zs c, v = vw c ∧ zs.length = xs.length ∧ Wd w' bz (splice Z oz zs) ∧ nv zs = nv xs / 2 ^ s ∧ Fm (· = bz) w w' ∧ w'.heap.size = w.heap.size := by
  refine calls_vc mo fn_96 rfl ok_96 (Nat.le_of_ble_eq_true rfl) nm_96 ?_
  refine (rshVU_g_c hZ hx hs hn hz cxx hb).mono ?_
  rintro v1 w1 h
  exact ⟨rfl, h⟩

end Go.Vc
end

section
/- How many bits a word has. Plain. -/
set_option linter.unusedSimpArgs false
set_option linter.unusedVariables false
namespace Go.Vc

def blen (x : Nat) : Nat := if x = 0 then 0 else Nat.log2 x + 1

theorem blen_zero : blen 0 = 0 := rfl
theorem blen_lt (x : Nat) : x < 2 ^ blen x := by
  unfold blen
  split
  · next h => subst h; simp
  · exact Nat.lt_log2_self
theorem blen_ge {x : Nat} (h : x ≠ 0) : 2 ^ (blen x - 1) ≤ x := by
  unfold blen
  rw [if_neg h, Nat.add_sub_cancel]
  exact Nat.log2_self_le h
theorem blen_pos {x : Nat} (h : x ≠ 0) : 0 < blen x := by unfold blen; rw [if_neg h]; omega

theorem blen_uniq {x k : Nat} (h1 : x < 2 ^ k) (h2 : k = 0 ∨ 2 ^ (k - 1) ≤ x) : blen x = k := by
  rcases Nat.lt_trichotomy (blen x) k with h | h | h
  · have h3 := blen_lt x
    have h4 := h2.resolve_left (by omega)
    have : 2 ^ blen x ≤ 2 ^ (k - 1) := Nat.pow_le_pow_right (by omega) (by omega)
    omega
  · exact h
  · have hx : x ≠ 0 := by intro e; subst e; simp [blen] at h
    have h3 := blen_ge hx
    have : 2 ^ k ≤ 2 ^ (blen x - 1) := Nat.pow_le_pow_right (by omega) (by omega)
    omega

theorem blen_le {x k : Nat} (h : x < 2 ^ k) : blen x ≤ k := by
  rcases Nat.lt_or_ge k (blen x) with h1 | h1
  · have hx : x ≠ 0 := by intro e; subst e; simp [blen] at h1
    have h3 := blen_ge hx
    have : 2 ^ k ≤ 2 ^ (blen x - 1) := Nat.pow_le_pow_right (by omega) (by omega)
    omega
  · exact h1

theorem blen_shr {x k : Nat} (h : 2 ^ k ≤ x) : blen x = k + blen (x / 2 ^ k) := by
  have hp : 0 < 2 ^ k := Nat.pow_pos (by omega)
  have hy : x / 2 ^ k ≠ 0 := by
    intro e
    rw [Nat.div_eq_zero_iff] at e
    omega
  have h1 := blen_lt (x / 2 ^ k)
  have h2 := blen_ge hy
  have h3 := blen_pos hy
  apply blen_uniq
  · rw [Nat.div_lt_iff_lt_mul hp] at h1
    rw [Nat.pow_add, Nat.mul_comm]; exact h1
  · right
    rw [Nat.le_div_iff_mul_le hp] at h2
    rw [show k + blen (x / 2 ^ k) - 1 = blen (x / 2 ^ k) - 1 + k by omega, Nat.pow_add]; exact h2

theorem blen_of_lt {x k : Nat} (h : x < 2 ^ k) (hk : k ≤ 64) : blen x ≤ 64 := Nat.le_trans (blen_le h) hk

/-- The leading zeros of a word. -/
def lz (x : Nat) : Nat := 64 - blen x

theorem lz_mul {x : Nat} (h : x ≠ 0) (hx : x < BW) : BW / 2 ≤ x * 2 ^ lz x ∧ x * 2 ^ lz x < BW := by
  have h0 : blen x ≤ 64 := blen_le (k := 64) hx
  have h1 := blen_lt x
  have h2 := blen_ge h
  have h3 := blen_pos h
  have e : BW = 2 ^ blen x * 2 ^ (64 - blen x) := (two_split h0).symm
  constructor
  · have e2 : BW / 2 = 2 ^ (blen x - 1) * 2 ^ (64 - blen x) := by
      rw [← Nat.pow_add, show blen x - 1 + (64 - blen x) = 63 by omega]; rfl
    rw [e2]; exact Nat.mul_le_mul_right _ h2
  · rw [e]; exact Nat.mul_lt_mul_of_pos_right h1 (Nat.pow_pos (by omega))

theorem lz_lt {x : Nat} (h : x ≠ 0) : lz x < 64 := by have := blen_pos h; unfold lz; omega
theorem lz_le (x : Nat) : lz x ≤ 64 := by unfold lz; omega

end Go.Vc
end

section
/- math/bits: the length of a word; nlz. -/
set_option linter.unusedSimpArgs false
set_option linter.unusedVariables false
set_option maxRecDepth 4000
namespace Go.Vc
open Go.Proofs

noncomputable def strTy (t : TypeId) : Bool := match P.underlying t with
  | some .string => true
  | _ => false

theorem ixS {t : TypeId} (ht : strTy t = true) {s : ByteArray} {y : Nat} (k : IntKind) {b : UInt8} (h : s[y]? = some b) (w : World) : (Instr.index t (.string s) (.int k (y : Int))).run P w = .ok (.int .u8 (b.toNat : Int)) w := by
  unfold strTy at ht
  split at ht
  · rename_i hu
    simp only [Instr.index, asIntOf, Sem.run_bind, pure, Sem.run, Result.andThen_ok, run_und hu]
    rw [if_pos (by omega)]
    simp [h, Sem.run]
  · cases ht

def tab8ok (s : ByteArray) : Bool := (List.range 256).all fun y => s[y]? == some (UInt8.ofNat (blen y))
theorem tab8 {s : ByteArray} (h : tab8ok s = true) {y : Nat} (hy : y < 256) : s[y]? = some (UInt8.ofNat (blen y)) := by
  have := List.all_eq_true.1 h y (List.mem_range.2 hy)
  simpa using this

theorem wrapB_nat {x : Nat} (h : x < 256) : IntKind.u8.wrap (x : Int) = (x : Int) := by rw [wrapB]; omega

theorem len64_c (x : Nat) (hx : x < BW) (w : World) : CallX P 177 #[vw x] w fun v w' => w = w' ∧ v = .int .i64 (blen x : Int) := by
  have h64 : blen x ≤ 64 := blen_le (k := 64) hx
  have hx' : x < 18446744073709551616 := hx
  refine calls_vc mo fn_177 rfl ok_177 (Nat.le_of_ble_eq_true rfl) nm_177 ?_
  have sh : ∀ (z k : Nat), k ≤ 64 → binV .shr .u64 .u64 ((z : Nat) : Int) ((k : Nat) : Int) = some (vw (z / 2 ^ k)) := fun z k h => wShr z k _ h
  rcases Nat.lt_or_ge (x) 4294967296 with c0 | c0
  · refine ⟨_, bGeF (by omega), ?_⟩
    refine ⟨fun hc => (by cases hc), fun _ => ?_⟩
    rcases Nat.lt_or_ge (x) 65536 with c1 | c1
    · refine ⟨_, bGeF (by omega), ?_⟩
      refine ⟨fun hc => (by cases hc), fun _ => ?_⟩
      rcases Nat.lt_or_ge (x) 256 with c2 | c2
      · refine ⟨_, bGeF (by omega), ?_⟩
        refine ⟨fun hc => (by cases hc), fun _ => ?_⟩
        have hy : x < 256 := by omega
        have h8 : blen (x) ≤ 8 := blen_le (k := 8) hy
        refine rnA (cv cv_33_5 (wrapB_nat hy)) ?_
        refine rnA (ixS (by kernel_rfl) _ (tab8 (by kernel_rfl) hy)) ?_
        refine rnA (cv cv_5_3 (y := (blen (x) : Int)) (by rw [UInt8.toNat_ofNat_of_lt' (by show _ < 256; omega)]; exact wrap64_in (by omega))) ?_
        refine ⟨_, nAdd 0 (blen (x)) (by omega), ?_⟩
        refine ⟨rfl, rfl, ?_⟩
        have e : 0 + blen (x) = blen x := by omega
        show Value.int .i64 ((0 + blen (x) : Nat) : Int) = _
        rw [e]
      · refine ⟨_, bGe (by omega), ?_⟩
        refine ⟨fun _ => ?_, fun hc => (by cases hc)⟩
        refine ⟨_, sh (x) 8 (by omega), ?_⟩
        refine ⟨_, nAdd 0 8 (by omega), ?_⟩
        have d2 := blen_shr (x := x) (k := 8) c2
        have hy : x / 2 ^ 8 < 256 := by omega
        have h8 : blen (x / 2 ^ 8) ≤ 8 := blen_le (k := 8) hy
        refine rnA (cv cv_33_5 (wrapB_nat hy)) ?_
        refine rnA (ixS (by kernel_rfl) _ (tab8 (by kernel_rfl) hy)) ?_
        refine rnA (cv cv_5_3 (y := (blen (x / 2 ^ 8) : Int)) (by rw [UInt8.toNat_ofNat_of_lt' (by show _ < 256; omega)]; exact wrap64_in (by omega))) ?_
        refine ⟨_, nAdd 8 (blen (x / 2 ^ 8)) (by omega), ?_⟩
        refine ⟨rfl, rfl, ?_⟩
        have e : 8 + blen (x / 2 ^ 8) = blen x := by omega
        show Value.int .i64 ((8 + blen (x / 2 ^ 8) : Nat) : Int) = _
        rw [e]
    · refine ⟨_, bGe (by omega), ?_⟩
      refine ⟨fun _ => ?_, fun hc => (by cases hc)⟩
      refine ⟨_, sh (x) 16 (by omega), ?_⟩
      refine ⟨_, nAdd 0 16 (by omega), ?_⟩
      have d1 := blen_shr (x := x) (k := 16) c1
      rcases Nat.lt_or_ge (x / 2 ^ 16) 256 with c2 | c2
      · refine ⟨_, bGeF (by omega), ?_⟩
        refine ⟨fun hc => (by cases hc), fun _ => ?_⟩
        have hy : x / 2 ^ 16 < 256 := by omega
        have h8 : blen (x / 2 ^ 16) ≤ 8 := blen_le (k := 8) hy
        refine rnA (cv cv_33_5 (wrapB_nat hy)) ?_
        refine rnA (ixS (by kernel_rfl) _ (tab8 (by kernel_rfl) hy)) ?_
        refine rnA (cv cv_5_3 (y := (blen (x / 2 ^ 16) : Int)) (by rw [UInt8.toNat_ofNat_of_lt' (by show _ < 256; omega)]; exact wrap64_in (by omega))) ?_
        refine ⟨_, nAdd 16 (blen (x / 2 ^ 16)) (by omega), ?_⟩
        refine ⟨rfl, rfl, ?_⟩
        have e : 16 + blen (x / 2 ^ 16) = blen x := by omega
        show Value.int .i64 ((16 + blen (x / 2 ^ 16) : Nat) : Int) = _
        rw [e]
      · refine ⟨_, bGe (by omega), ?_⟩
        refine ⟨fun _ => ?_, fun hc => (by cases hc)⟩
        refine ⟨_, sh (x / 2 ^ 16) 8 (by omega), ?_⟩
        refine ⟨_, nAdd 16 8 (by omega), ?_⟩
        have d2 := blen_shr (x := x / 2 ^ 16) (k := 8) c2
        have hy : (x / 2 ^ 16) / 2 ^ 8 < 256 := by omega
        have h8 : blen ((x / 2 ^ 16) / 2 ^ 8) ≤ 8 := blen_le (k := 8) hy
        refine rnA (cv cv_33_5 (wrapB_nat hy)) ?_
        refine rnA (ixS (by kernel_rfl) _ (tab8 (by kernel_rfl) hy)) ?_
        refine rnA (cv cv_5_3 (y := (blen ((x / 2 ^ 16) / 2 ^ 8) : Int)) (by rw [UInt8.toNat_ofNat_of_lt' (by show _ < 256; omega)]; exact wrap64_in (by omega))) ?_
        refine ⟨_, nAdd 24 (blen ((x / 2 ^ 16) / 2 ^ 8)) (by omega), ?_⟩
        refine ⟨rfl, rfl, ?_⟩
        have e : 24 + blen ((x / 2 ^ 16) / 2 ^ 8) = blen x := by omega
        show Value.int .i64 ((24 + blen ((x / 2 ^ 16) / 2 ^ 8) : Nat) : Int) = _
        rw [e]
  · refine ⟨_, bGe (by omega), ?_⟩
    refine ⟨fun _ => ?_, fun hc => (by cases hc)⟩
    refine ⟨_, sh (x) 32 (by omega), ?_⟩
    have d0 := blen_shr (x := x) (k := 32) c0
    rcases Nat.lt_or_ge (x / 2 ^ 32) 65536 with c1 | c1
    · refine ⟨_, bGeF (by omega), ?_⟩
      refine ⟨fun hc => (by cases hc), fun _ => ?_⟩
      rcases Nat.lt_or_ge (x / 2 ^ 32) 256 with c2 | c2
      · refine ⟨_, bGeF (by omega), ?_⟩
        refine ⟨fun hc => (by cases hc), fun _ => ?_⟩
        have hy : x / 2 ^ 32 < 256 := by omega
        have h8 : blen (x / 2 ^ 32) ≤ 8 := blen_le (k := 8) hy
        refine rnA (cv cv_33_5 (wrapB_nat hy)) ?_
        refine rnA (ixS (by kernel_rfl) _ (tab8 (by kernel_rfl) hy)) ?_
        refine rnA (cv cv_5_3 (y := (blen (x / 2 ^ 32) : Int)) (by rw [UInt8.toNat_ofNat_of_lt' (by show _ < 256; omega)]; exact wrap64_in (by omega))) ?_
        refine ⟨_, nAdd 32 (blen (x / 2 ^ 32)) (by omega), ?_⟩
        refine ⟨rfl, rfl, ?_⟩
        have e : 32 + blen (x / 2 ^ 32) = blen x := by omega
        show Value.int .i64 ((32 + blen (x / 2 ^ 32) : Nat) : Int) = _
        rw [e]
      · refine ⟨_, bGe (by omega), ?_⟩
        refine ⟨fun _ => ?_, fun hc => (by cases hc)⟩
        refine ⟨_, sh (x / 2 ^ 32) 8 (by omega), ?_⟩
        refine ⟨_, nAdd 32 8 (by omega), ?_⟩
        have d2 := blen_shr (x := x / 2 ^ 32) (k := 8) c2
        have hy : (x / 2 ^ 32) / 2 ^ 8 < 256 := by omega
        have h8 : blen ((x / 2 ^ 32) / 2 ^ 8) ≤ 8 := blen_le (k := 8) hy
        refine rnA (cv cv_33_5 (wrapB_nat hy)) ?_
        refine rnA (ixS (by kernel_rfl) _ (tab8 (by kernel_rfl) hy)) ?_
        refine rnA (cv cv_5_3 (y := (blen ((x / 2 ^ 32) / 2 ^ 8) : Int)) (by rw [UInt8.toNat_ofNat_of_lt' (by show _ < 256; omega)]; exact wrap64_in (by omega))) ?_
        refine ⟨_, nAdd 40 (blen ((x / 2 ^ 32) / 2 ^ 8)) (by omega), ?_⟩
        refine ⟨rfl, rfl, ?_⟩
        have e : 40 + blen ((x / 2 ^ 32) / 2 ^ 8) = blen x := by omega
        show Value.int .i64 ((40 + blen ((x / 2 ^ 32) / 2 ^ 8) : Nat) : Int) = _
        rw [e]
    · refine ⟨_, bGe (by omega), ?_⟩
      refine ⟨fun _ => ?_, fun hc => (by cases hc)⟩
      refine ⟨_, sh (x / 2 ^ 32) 16 (by omega), ?_⟩
      refine ⟨_, nAdd 32 16 (by omega), ?_⟩
      have d1 := blen_shr (x := x / 2 ^ 32) (k := 16) c1
      rcases Nat.lt_or_ge ((x / 2 ^ 32) / 2 ^ 16) 256 with c2 | c2
      · refine ⟨_, bGeF (by omega), ?_⟩
        refine ⟨fun hc => (by cases hc), fun _ => ?_⟩
        have hy : (x / 2 ^ 32) / 2 ^ 16 < 256 := by omega
        have h8 : blen ((x / 2 ^ 32) / 2 ^ 16) ≤ 8 := blen_le (k := 8) hy
        refine rnA (cv cv_33_5 (wrapB_nat hy)) ?_
        refine rnA (ixS (by kernel_rfl) _ (tab8 (by kernel_rfl) hy)) ?_
        refine rnA (cv cv_5_3 (y := (blen ((x / 2 ^ 32) / 2 ^ 16) : Int)) (by rw [UInt8.toNat_ofNat_of_lt' (by show _ < 256; omega)]; exact wrap64_in (by omega))) ?_
        refine ⟨_, nAdd 48 (blen ((x / 2 ^ 32) / 2 ^ 16)) (by omega), ?_⟩
        refine ⟨rfl, rfl, ?_⟩
        have e : 48 + blen ((x / 2 ^ 32) / 2 ^ 16) = blen x := by omega
        show Value.int .i64 ((48 + blen ((x / 2 ^ 32) / 2 ^ 16) : Nat) : Int) = _
        rw [e]
      · refine ⟨_, bGe (by omega), ?_⟩
        refine ⟨fun _ => ?_, fun hc => (by cases hc)⟩
        refine ⟨_, sh ((x / 2 ^ 32) / 2 ^ 16) 8 (by omega), ?_⟩
        refine ⟨_, nAdd 48 8 (by omega), ?_⟩
        have d2 := blen_shr (x := (x / 2 ^ 32) / 2 ^ 16) (k := 8) c2
        have hy : ((x / 2 ^ 32) / 2 ^ 16) / 2 ^ 8 < 256 := by omega
        have h8 : blen (((x / 2 ^ 32) / 2 ^ 16) / 2 ^ 8) ≤ 8 := blen_le (k := 8) hy
        refine rnA (cv cv_33_5 (wrapB_nat hy)) ?_
        refine rnA (ixS (by kernel_rfl) _ (tab8 (by kernel_rfl) hy)) ?_
        refine rnA (cv cv_5_3 (y := (blen (((x / 2 ^ 32) / 2 ^ 16) / 2 ^ 8) : Int)) (by rw [UInt8.toNat_ofNat_of_lt' (by show _ < 256; omega)]; exact wrap64_in (by omega))) ?_
        refine ⟨_, nAdd 56 (blen (((x / 2 ^ 32) / 2 ^ 16) / 2 ^ 8)) (by omega), ?_⟩
        refine ⟨rfl, rfl, ?_⟩
        have e : 56 + blen (((x / 2 ^ 32) / 2 ^ 16) / 2 ^ 8) = blen x := by omega
        show Value.int .i64 ((56 + blen (((x / 2 ^ 32) / 2 ^ 16) / 2 ^ 8) : Nat) : Int) = _
        rw [e]

theorem len_c (x : Nat) (hx : x < BW) (w : World) : CallX P 173 #[vw x] w fun v w' => w = w' ∧ v = .int .i64 (blen x : Int) := by
  refine calls_vc mo fn_173 rfl ok_173 (Nat.le_of_ble_eq_true rfl) nm_173 ?_
  refine ⟨fun hc => (by cases hc), fun _ => ?_⟩
  refine (len64_c x hx w).mono ?_
  rintro v w1 ⟨rfl, rfl⟩
  exact ⟨rfl, rfl, rfl⟩

theorem leadingZeros_c (x : Nat) (hx : x < BW) (w : World) : CallX P 158 #[vw x] w fun v w' => w = w' ∧ v = .int .i64 (lz x : Int) := by
  have h64 : blen x ≤ 64 := blen_le (k := 64) hx
  have hx' : x < 18446744073709551616 := hx
  refine calls_vc mo fn_158 rfl ok_158 (Nat.le_of_ble_eq_true rfl) nm_158 ?_
  refine (len_c x hx w).mono ?_
  rintro v w1 ⟨rfl, rfl⟩
  refine ⟨_, nSub 64 (blen x) h64 (by omega), ?_⟩
  exact ⟨rfl, rfl, rfl⟩

theorem leadingZeros64_c (x : Nat) (hx : x < BW) (w : World) : CallX P 178 #[vw x] w fun v w' => w = w' ∧ v = .int .i64 (lz x : Int) := by
  have h64 : blen x ≤ 64 := blen_le (k := 64) hx
  have hx' : x < 18446744073709551616 := hx
  refine calls_vc mo fn_178 rfl ok_178 (Nat.le_of_ble_eq_true rfl) nm_178 ?_
  refine (len64_c x hx w).mono ?_
  rintro v w1 ⟨rfl, rfl⟩
  refine ⟨_, nSub 64 (blen x) h64 (by omega), ?_⟩
  exact ⟨rfl, rfl, rfl⟩

theorem nlz_c (x : Nat) (hx : x < BW) (w : World) : CallX P 130 #[vw x] w fun v w' => w = w' ∧ v = vw (lz x) := by
  refine calls_vc mo fn_130 rfl ok_130 (Nat.le_of_ble_eq_true rfl) nm_130 ?_
  refine (leadingZeros_c x hx w).mono ?_
  rintro v w1 ⟨rfl, rfl⟩
  refine rnA (cv cv_3_60 (wrapU_nat (by have := lz_le x; omega))) ?_
  exact ⟨rfl, rfl, rfl⟩

theorem mulWW_c {x y : Nat} (hx : x < BW) (hy : y < BW) (w : World) : CallX P 116 #[vw x, vw y] w fun v w' => w = w' ∧ ∃ hi lo, v = .tuple #[vw hi, vw lo] ∧ hi < BW ∧ lo < BW ∧ lo + BW * hi = x * y := by
  refine calls_vc mo fn_116 rfl ok_116 (Nat.le_of_ble_eq_true rfl) nm_116 ?_
  refine (bMul_a hx hy w).mono ?_
  rintro v1 w1 ⟨rfl, hi, lo, rfl, h1, h2, e⟩
  exact ⟨rfl, rfl, hi, lo, rfl, h1, h2, e⟩

end Go.Vc
end

section
/- Division of words: the plain laws. No program. -/
set_option linter.unusedSimpArgs false
set_option linter.unusedVariables false
set_option maxRecDepth 8000
namespace Go.Vc


def HW : Nat := 4294967296
theorem HW_eq : HW = 4294967296 := rfl
theorem HW_pos : 0 < HW := by unfold HW; omega

/-! ### A half-word of a quotient -/

structure HIn (u u1 Y y1 y0 : Nat) : Prop where
  hY : Y = y1 * HW + y0
  h0 : y0 < HW
  h1 : y1 < HW
  hn : HW ≤ 2 * y1
  hu : u < Y
  hu1 : u1 < HW

def HInv (u u1 Y y1 q r : Nat) : Prop := q * y1 + r = u ∧ (u * HW + u1) / Y ≤ q ∧ q ≤ HW + 1

theorem HIn.pos {u u1 Y y1 y0 : Nat} (h : HIn u u1 Y y1 y0) : 0 < Y := Nat.lt_of_le_of_lt (Nat.zero_le _) h.hu

theorem HIn.lt {u u1 Y y1 y0 : Nat} (h : HIn u u1 Y y1 y0) : (u * HW + u1) / Y < HW := by
  rw [Nat.div_lt_iff_lt_mul h.pos]
  have h1 : (u + 1) * HW ≤ Y * HW := Nat.mul_le_mul_right _ h.hu
  have := h.hu1
  rw [Nat.mul_comm HW Y]
  rw [Nat.add_mul] at h1
  omega

theorem HIn.init {u u1 Y y1 y0 : Nat} (h : HIn u u1 Y y1 y0) : HInv u u1 Y y1 (u / y1) (u % y1) := by
  have hy : 0 < y1 := by have := h.hn; have := HW_pos; omega
  refine ⟨by rw [Nat.mul_comm]; exact Nat.div_add_mod u y1, ?_, ?_⟩
  · rw [Nat.le_div_iff_mul_le hy]
    have h1 : (u * HW + u1) / Y * Y ≤ u * HW + u1 := Nat.div_mul_le_self _ _
    generalize (u * HW + u1) / Y = Q at *
    rw [h.hY, Nat.mul_add, ← Nat.mul_assoc] at h1
    have := h.hu1
    have h3 : Q * y1 * HW < (u + 1) * HW := by rw [Nat.add_mul]; omega
    have := Nat.lt_of_mul_lt_mul_right h3
    omega
  · have h2 : u / y1 < HW + 2 := by
      rw [Nat.div_lt_iff_lt_mul hy, Nat.add_mul]
      have := h.hu; have := h.hY; have := h.h0; have := h.hn
      rw [Nat.mul_comm HW y1]
      omega
    omega

theorem HIn.down {u u1 Y y1 y0 q r : Nat} (h : HIn u u1 Y y1 y0) (hi : HInv u u1 Y y1 q r) (hc : HW ≤ q ∨ r * HW + u1 < q * y0) : 1 ≤ q ∧ HInv u u1 Y y1 (q - 1) (r + y1) := by
  obtain ⟨h1, h2, h3⟩ := hi
  have hlt : (u * HW + u1) / Y < q := by
    rcases hc with hc | hc
    · exact Nat.lt_of_lt_of_le h.lt hc
    · rw [Nat.div_lt_iff_lt_mul h.pos, h.hY, Nat.mul_add, ← Nat.mul_assoc]
      have : (q * y1 + r) * HW = u * HW := by rw [h1]
      rw [Nat.add_mul] at this
      omega
  unfold HInv
  generalize (u * HW + u1) / Y = Q at hlt h2 ⊢
  have hq : 1 ≤ q := by omega
  refine ⟨hq, ?_, by omega, by omega⟩
  obtain ⟨p, rfl⟩ : ∃ p, q = p + 1 := ⟨q - 1, by omega⟩
  rw [Nat.add_mul] at h1
  rw [Nat.add_sub_cancel]
  omega

theorem HIn.done {u u1 Y y1 y0 q r : Nat} (h : HIn u u1 Y y1 y0) (hi : HInv u u1 Y y1 q r) (hc : q * y0 ≤ r * HW + u1) : q = (u * HW + u1) / Y := by
  obtain ⟨h1, h2, h3⟩ := hi
  refine Nat.le_antisymm ?_ h2
  rw [Nat.le_div_iff_mul_le h.pos, h.hY, Nat.mul_add, ← Nat.mul_assoc]
  have : (q * y1 + r) * HW = u * HW := by rw [h1]
  rw [Nat.add_mul] at this
  omega

theorem HIn.broke {u u1 Y y1 y0 q r : Nat} (h : HIn u u1 Y y1 y0) (hi : HInv u u1 Y y1 q r) (hq : q ≤ HW) (hr : HW ≤ r) : q = (u * HW + u1) / Y := by
  refine h.done hi ?_
  have h1 : q * y0 ≤ HW * HW := Nat.mul_le_mul hq (by have := h.h0; omega)
  have h2 : HW * HW ≤ r * HW := Nat.mul_le_mul_right _ hr
  omega

/-- Two half-words make the whole quotient. -/
theorem two_halves {A B1 B0 Y : Nat} (hY : 0 < Y) (h0 : B0 < HW) : (A * (HW * HW) + B1 * HW + B0) / Y = (A * HW + B1) / Y * HW + ((A * HW + B1) % Y * HW + B0) / Y ∧
    (A * (HW * HW) + B1 * HW + B0) % Y = ((A * HW + B1) % Y * HW + B0) % Y := by
  have e : A * (HW * HW) + B1 * HW + B0 = (A * HW + B1) * HW + B0 := by rw [Nat.add_mul, Nat.mul_assoc]
  have e2 := Nat.div_add_mod (A * HW + B1) Y
  generalize hq : (A * HW + B1) / Y = q1 at *
  generalize hr : (A * HW + B1) % Y = r1 at *
  have e3 : A * (HW * HW) + B1 * HW + B0 = r1 * HW + B0 + Y * (q1 * HW) := by
    rw [e, ← e2, Nat.add_mul, ← Nat.mul_assoc]; omega
  rw [e3]
  constructor
  · rw [Nat.add_mul_div_left _ _ hY]; omega
  · rw [Nat.add_mul_mod_self_left]

theorem HH : HW * HW = BW := by decide

/-- The scaled division, in half-words. -/
structure Div64 (hi lo y s Y u32 u10 u1 u0 : Nat) : Prop where
  a : HIn u32 u1 Y (Y / HW) (Y % HW)
  b : HIn ((u32 * HW + u1) % Y) u0 Y (Y / HW) (Y % HW)
  q : (u32 * HW + u1) / Y * HW + ((u32 * HW + u1) % Y * HW + u0) / Y = (hi * BW + lo) / y
  r : ((u32 * HW + u1) % Y * HW + u0) % Y / 2 ^ s = (hi * BW + lo) % y
  u : u32 < BW

theorem div64_plain {hi lo y : Nat} (hy : hi < y) (hyB : y < BW) (hlo : lo < BW) : Div64 hi lo y (lz y) (y * 2 ^ lz y) (2 ^ lz y * hi + lo / 2 ^ (64 - lz y)) (2 ^ lz y * (lo % 2 ^ (64 - lz y)))
    (2 ^ lz y * (lo % 2 ^ (64 - lz y)) / HW) (2 ^ lz y * (lo % 2 ^ (64 - lz y)) % HW) := by
  have hy0 : y ≠ 0 := by omega
  obtain ⟨n1, n2⟩ := lz_mul hy0 hyB
  have hsl := lz_lt hy0
  generalize hs : lz y = s at *
  have hp : 0 < 2 ^ s := Nat.pow_pos (by omega)
  have hq := two_split (s := s) (by omega)
  generalize hP : 2 ^ s = p at *
  generalize hQ : 2 ^ (64 - s) = k at *
  have hkp : 0 < k := by rw [← hQ]; exact Nat.pow_pos (by omega)
  generalize hY : y * p = Y at *
  have eN : (p * hi + lo / k) * BW + p * (lo % k) = (hi * BW + lo) * p := by
    have e1 := Nat.div_add_mod lo k
    have : p * lo = p * (k * (lo / k) + lo % k) := by rw [e1]
    rw [Nat.mul_add, ← Nat.mul_assoc, hq] at this
    rw [Nat.add_mul, Nat.add_mul, Nat.mul_comm lo p, this, Nat.mul_comm (lo / k) BW, Nat.mul_comm p hi, Nat.mul_assoc, Nat.mul_assoc, Nat.mul_comm p BW]
    omega
  have hu10 : p * (lo % k) < BW := by
    rw [← hq]; exact Nat.mul_lt_mul_of_pos_left (Nat.mod_lt _ hkp) hp
  generalize hu : p * hi + lo / k = u32 at *
  generalize hv : p * (lo % k) = u10 at *
  have huY : u32 < Y := by
    have h1 : (hi * BW + lo) < y * BW := by
      have : (hi + 1) * BW ≤ y * BW := Nat.mul_le_mul_right _ hy
      rw [Nat.add_mul] at this; omega
    have h2 : (hi * BW + lo) * p < y * BW * p := Nat.mul_lt_mul_of_pos_right h1 hp
    rw [← eN, Nat.mul_assoc, Nat.mul_comm BW p, ← Nat.mul_assoc, hY] at h2
    have h3 : u32 * BW < Y * BW := by omega
    exact Nat.lt_of_mul_lt_mul_right h3
  have hY0 : 0 < Y := by omega
  have eY : Y = Y / HW * HW + Y % HW := by have := Nat.div_add_mod Y HW; rw [Nat.mul_comm] at this; exact this.symm
  have m1 : Y % HW < HW := Nat.mod_lt _ HW_pos
  have d1 : Y / HW < HW := by rw [Nat.div_lt_iff_lt_mul HW_pos, HH]; exact n2
  have d2 : HW ≤ 2 * (Y / HW) := by unfold HW BW at *; omega
  have e10 : u10 = u10 / HW * HW + u10 % HW := by have := Nat.div_add_mod u10 HW; rw [Nat.mul_comm] at this; exact this.symm
  have v1 : u10 / HW < HW := by rw [Nat.div_lt_iff_lt_mul HW_pos, HH]; exact hu10
  have v0 : u10 % HW < HW := Nat.mod_lt _ HW_pos
  obtain ⟨t1, t2⟩ := two_halves (A := u32) (B1 := u10 / HW) (B0 := u10 % HW) hY0 v0
  have eT : u32 * (HW * HW) + u10 / HW * HW + u10 % HW = (hi * BW + lo) * p := by rw [HH, ← eN]; omega
  rw [eT, ← hY] at t1 t2
  rw [Nat.mul_div_mul_right _ _ hp] at t1
  rw [Nat.mul_mod_mul_right] at t2
  rw [hY] at t1 t2
  exact ⟨⟨eY, m1, d1, d2, huY, v1⟩, ⟨eY, m1, d1, d2, Nat.mod_lt _ hY0, v0⟩, t1.symm, by rw [hP, ← t2]; exact Nat.mul_div_cancel _ hp, by omega⟩

theorem scale_plain {hi lo y : Nat} (hy : hi < y) (hyB : y < BW) (hlo : lo < BW) : (2 ^ lz y * hi + lo / 2 ^ (64 - lz y)) * BW + 2 ^ lz y * (lo % 2 ^ (64 - lz y)) = (hi * BW + lo) * 2 ^ lz y ∧
    2 ^ lz y * hi + lo / 2 ^ (64 - lz y) < y * 2 ^ lz y ∧ 2 ^ lz y * (lo % 2 ^ (64 - lz y)) < BW := by
  have hy0 : y ≠ 0 := by omega
  have hsl := lz_lt hy0
  generalize hs : lz y = s at *
  have hp : 0 < 2 ^ s := Nat.pow_pos (by omega)
  have hq := two_split (s := s) (by omega)
  generalize hP : 2 ^ s = p at *
  generalize hQ : 2 ^ (64 - s) = k at *
  have hkp : 0 < k := by rw [← hQ]; exact Nat.pow_pos (by omega)
  generalize hY : y * p = Y at *
  have eN : (p * hi + lo / k) * BW + p * (lo % k) = (hi * BW + lo) * p := by
    have e1 := Nat.div_add_mod lo k
    have : p * lo = p * (k * (lo / k) + lo % k) := by rw [e1]
    rw [Nat.mul_add, ← Nat.mul_assoc, hq] at this
    rw [Nat.add_mul, Nat.add_mul, Nat.mul_comm lo p, this, Nat.mul_comm (lo / k) BW, Nat.mul_comm p hi, Nat.mul_assoc, Nat.mul_assoc, Nat.mul_comm p BW]
    omega
  have hu10 : p * (lo % k) < BW := by
    rw [← hq]; exact Nat.mul_lt_mul_of_pos_left (Nat.mod_lt _ hkp) hp
  refine ⟨eN, ?_, hu10⟩
  have h1 : (hi * BW + lo) < y * BW := by
    have : (hi + 1) * BW ≤ y * BW := Nat.mul_le_mul_right _ hy
    rw [Nat.add_mul] at this; omega
  have h2 : (hi * BW + lo) * p < y * BW * p := Nat.mul_lt_mul_of_pos_right h1 hp
  rw [← eN, Nat.mul_assoc, Nat.mul_comm BW p, ← Nat.mul_assoc, hY] at h2
  have h3 : (p * hi + lo / k) * BW < Y * BW := by omega
  exact Nat.lt_of_mul_lt_mul_right h3

/-! ### A word of a quotient by the reciprocal -/

/-- The reciprocal. -/
def recip (d : Nat) : Nat := (BW * BW - 1) / d - BW

theorem recip_spec {d : Nat} (h1 : BW / 2 ≤ d) (h2 : d < BW) : recip d < BW ∧ d * (recip d + BW) ≤ BW * BW - 1 ∧ BW * BW ≤ d * (recip d + BW) + d := by
  have hd : 0 < d := by unfold BW at h1; omega
  have hge : BW ≤ (BW * BW - 1) / d := by
    rw [Nat.le_div_iff_mul_le hd]
    have : BW * (d + 1) ≤ BW * BW := Nat.mul_le_mul_left _ h2
    rw [Nat.mul_add] at this
    have := BW_pos
    omega
  have e : recip d + BW = (BW * BW - 1) / d := by unfold recip; omega
  have e2 := Nat.div_add_mod (BW * BW - 1) d
  have e3 := Nat.mod_lt (BW * BW - 1) hd
  have hBB : 0 < BW * BW := Nat.mul_pos BW_pos BW_pos
  rw [e]
  refine ⟨?_, by omega, by omega⟩
  have : (BW * BW - 1) / d < 2 * BW := by
    rw [Nat.div_lt_iff_lt_mul hd]
    have h3 : 2 * BW * (BW / 2) ≤ 2 * BW * d := Nat.mul_le_mul_left _ h1
    have h4 : 2 * BW * (BW / 2) = BW * BW := by decide
    omega
  omega

theorem guess_spec {d x1 x0 : Nat} (h1 : BW / 2 ≤ d) (h2 : d < BW) (hx1 : x1 < d) (hx0 : x0 < BW) :
    d * ((recip d * x1 + x1 * BW + x0) / BW) ≤ x1 * BW + x0 ∧ x1 * BW + x0 < d * ((recip d * x1 + x1 * BW + x0) / BW) + BW + d := by
  obtain ⟨hr, ha, hb⟩ := recip_spec h1 h2
  generalize hv : recip d + BW = v at *
  have eS : recip d * x1 + x1 * BW + x0 = v * x1 + x0 := by rw [← hv, Nat.add_mul, Nat.mul_comm x1 BW]
  rw [eS]
  have e1 := Nat.div_add_mod (v * x1 + x0) BW
  have e2 := Nat.mod_lt (v * x1 + x0) BW_pos
  generalize (v * x1 + x0) / BW = q at *
  generalize (v * x1 + x0) % BW = f at *
  obtain ⟨e, he⟩ : ∃ e, BW * BW = d * v + e := ⟨BW * BW - d * v, by omega⟩
  obtain ⟨g, hg⟩ : ∃ g, BW = d + g := ⟨BW - d, by omega⟩
  have he1 : e ≤ d := by omega
  -- B (x1 B + x0) + d f = B d q + x0 g + e x1 + d f ...
  have key : BW * (x1 * BW + x0) = BW * (d * q) + (x0 * g + e * x1 + d * f) := by
    have k1 : d * (BW * q + f) = d * (v * x1 + x0) := by rw [e1]
    have k2 : BW * (x1 * BW + x0) = (BW * BW) * x1 + BW * x0 := by
      rw [Nat.mul_add, Nat.mul_comm x1 BW, ← Nat.mul_assoc]
    rw [k2, he]
    have k3 : BW * x0 = d * x0 + x0 * g := by rw [hg, Nat.add_mul, Nat.mul_comm g]
    rw [k3]
    simp only [Nat.mul_add, Nat.add_mul] at k1 ⊢
    rw [show d * (BW * q) = BW * (d * q) by rw [← Nat.mul_assoc, Nat.mul_comm d BW, Nat.mul_assoc]] at k1
    rw [show d * (v * x1) = d * v * x1 by rw [Nat.mul_assoc]] at k1
    omega
  constructor
  · have : BW * (d * q) ≤ BW * (x1 * BW + x0) := by rw [key]; omega
    exact Nat.le_of_mul_le_mul_left this BW_pos
  · have b1 : x0 * g ≤ BW * g := Nat.mul_le_mul_right _ (by omega)
    have b2 : e * x1 ≤ d * d := Nat.mul_le_mul he1 (by omega)
    have b3 : d * f + d ≤ d * BW := by rw [← Nat.mul_succ]; exact Nat.mul_le_mul_left _ e2
    have b4 : d * d ≤ BW * d := Nat.mul_le_mul_right _ (by omega)
    have hd : 0 < d := by unfold BW at h1; omega
    have : BW * (x1 * BW + x0) < BW * (d * q + BW + d) := by
      rw [key]
      simp only [Nat.mul_add]
      have b5 : BW * BW = BW * d + BW * g := by rw [← Nat.mul_add, ← hg]
      rw [Nat.mul_comm d BW] at b3
      omega
    exact Nat.lt_of_mul_lt_mul_left this

theorem quot_lt {d q U : Nat} (hd : 0 < d) (h : d * q ≤ U) (hU : U < d * BW) : q < BW := Nat.lt_of_mul_lt_mul_left (Nat.lt_of_le_of_lt h hU)

theorem divmod_of {d q r U : Nat} (h : d * q + r = U) (hr : r < d) : q = U / d ∧ r = U % d := by
  subst h
  have hd : 0 < d := by omega
  rw [Nat.mul_add_div hd, Nat.mul_add_mod, Nat.div_eq_of_lt hr, Nat.mod_eq_of_lt hr]
  exact ⟨rfl, rfl⟩

end Go.Vc
end

section
/- Division of two words by one: bitsDiv64, reciprocalWord, divWW. -/
set_option linter.unusedSimpArgs false
set_option linter.unusedVariables false
set_option maxRecDepth 8000
namespace Go.Vc
open Go.Proofs

theorem mask32 {x : Nat} (hx : x < BW) : binV .and .u64 .u64 (x : Int) ((4294967295 : Nat) : Int) = some (vw (x % HW)) := by
  rw [wAnd x _ hx (by omega), and_mask32]; rfl

theorem mul32_lt {x : Nat} (h : x < HW) : x * HW < BW := by rw [← HH]; exact Nat.mul_lt_mul_of_pos_right h HW_pos

/-- What is left over, by words that run over. -/
theorem rem_words {u u1 Y q : Nat} (hY : Y < BW) (hq : q = (u * HW + u1) / Y) (hY0 : 0 < Y) :
    (((u * HW) % 18446744073709551616 + u1) % 18446744073709551616 + (18446744073709551616 - (q * Y) % 18446744073709551616)) % 18446744073709551616 = (u * HW + u1) % Y := by
  have e := Nat.div_add_mod (u * HW + u1) Y
  have l := Nat.mod_lt (u * HW + u1) hY0
  rw [← hq, Nat.mul_comm Y q] at e
  generalize (u * HW + u1) % Y = r at *
  generalize q * Y = a at *
  generalize u * HW = b at *
  unfold BW at hY
  omega

theorem bitsDiv64_c {hi lo y : Nat} (hy : hi < y) (hyB : y < BW) (hlo : lo < BW) (w : World) :
    CallX P 175 #[vw hi, vw lo, vw y] w fun v w' => (Fm (fun _ => False) w w' ∧ w'.heap.size = w.heap.size) ∧ v = .tuple #[vw ((hi * BW + lo) / y), vw ((hi * BW + lo) % y)] := by
  have hy0 : y ≠ 0 := by omega
  have D := div64_plain hy hyB hlo
  obtain ⟨n1, n2⟩ := lz_mul hy0 hyB
  have hsl := lz_lt hy0
  refine calls_vc mo fn_175 rfl ok_175 (Nat.le_of_ble_eq_true rfl) nm_175 ?_
  refine ⟨_, bEqF (by omega), ?_⟩
  refine ⟨fun hc => (by cases hc), fun _ => ?_⟩
  refine ⟨_, bLeF (by omega), ?_⟩
  refine ⟨fun hc => (by cases hc), fun _ => ?_⟩
  rcases Nat.eq_zero_or_pos hi with rfl | hh
  · refine ⟨_, bEq rfl, ?_⟩
    refine ⟨fun _ => ?_, fun hc => (by cases hc)⟩
    refine ⟨.take 0 (.take 1 (.take 2 (.take 3 (.take 4 (.take 5 (.take 6 (.take 7 (.done)))))))), by kernel_rfl, ?_⟩
    refine ⟨_, wQuo lo y hy0 hlo, ?_⟩
    refine ⟨_, wRem lo y hy0, ?_⟩
    refine ⟨rfl, ⟨Fm.drew _ _, rfl⟩, ?_⟩
    simp [tupV]
  refine ⟨_, bEqF (by omega), ?_⟩
  refine ⟨fun hc => (by cases hc), fun _ => ?_⟩
  refine (leadingZeros64_c y hyB w).mono ?_
  rintro v w1 ⟨rfl, rfl⟩
  refine rnA (cv cv_3_60 (wrapU_nat (by omega))) ?_
  have e1 : (y * 2 ^ lz y) % 18446744073709551616 = y * 2 ^ lz y := Nat.mod_eq_of_lt n2
  refine ⟨_, wShl y (lz y) _ (by omega), ?_⟩
  rw [e1]
  refine ⟨_, wShr _ 32 _ (by omega), ?_⟩
  refine ⟨_, mask32 n2, ?_⟩
  have hhi : hi * 2 ^ lz y < BW := Nat.lt_of_le_of_lt (Nat.mul_le_mul_right _ (Nat.le_of_lt hy)) n2
  have e2 : (hi * 2 ^ lz y) % 18446744073709551616 = 2 ^ lz y * hi := by rw [show hi * 2 ^ lz y % 18446744073709551616 = hi * 2 ^ lz y from Nat.mod_eq_of_lt hhi, Nat.mul_comm]
  refine ⟨_, wShl hi (lz y) _ (by omega), ?_⟩
  rw [e2]
  refine ⟨_, wSub' (x := 64) (y := lz y) (by omega) (by omega), ?_⟩
  refine ⟨_, wShr lo (64 - lz y) _ (by omega), ?_⟩
  have e3 : 2 ^ lz y * hi ||| lo / 2 ^ (64 - lz y) = 2 ^ lz y * hi + lo / 2 ^ (64 - lz y) := or_split (div_lt_pow hlo (by omega))
  have hb3 := D.u
  refine ⟨_, wOr _ _ (by rw [Nat.mul_comm]; exact hhi) (Nat.lt_of_le_of_lt (Nat.div_le_self _ _) hlo), ?_⟩
  rw [e3]
  have e4 : (lo * 2 ^ lz y) % 18446744073709551616 = 2 ^ lz y * (lo % 2 ^ (64 - lz y)) := shl_mod (by omega)
  refine ⟨_, wShl lo (lz y) _ (by omega), ?_⟩
  rw [e4]
  have hb4 : 2 ^ lz y * (lo % 2 ^ (64 - lz y)) < BW := by rw [← e4]; exact Nat.mod_lt _ BW_pos
  refine ⟨_, wShr _ 32 _ (by omega), ?_⟩
  refine ⟨_, mask32 hb4, ?_⟩
  have hY0 : 0 < y * 2 ^ lz y := D.a.pos
  generalize hs : lz y = s at *
  generalize y * 2 ^ s = Y at *
  generalize 2 ^ s * hi + lo / 2 ^ (64 - s) = U at *
  generalize 2 ^ s * (lo % 2 ^ (64 - s)) = V at *
  have eH : (2 : Nat) ^ 32 = HW := rfl
  rw [eH]
  obtain ⟨Da, Db, Dq, Dr, Du⟩ := D
  have Qa := Da.lt
  have Qb := Db.lt
  generalize hy1 : Y / HW = y1 at *
  generalize hy00 : Y % HW = y0 at *
  generalize hV1 : V / HW = v1 at *
  generalize hV0 : V % HW = v0 at *
  have hy1p : y1 ≠ 0 := by have := Da.hn; unfold HW at this; omega
  have hH1 := Da.h1
  have hH0 := Da.h0
  have Du' : U < 18446744073709551616 := Du
  refine ⟨_, wQuo U y1 hy1p (by omega), ?_⟩
  have im : ((U / y1) * y1) % 18446744073709551616 = (U / y1) * y1 := Nat.mod_eq_of_lt (Nat.lt_of_le_of_lt (Nat.div_mul_le_self _ _) (by omega))
  refine ⟨_, wMul _ _, ?_⟩
  rw [im]
  have is : U - (U / y1) * y1 = U % y1 := by have := Nat.div_add_mod U y1; rw [Nat.mul_comm] at this; omega
  refine ⟨_, wSub' (Nat.div_mul_le_self _ _) (by omega), ?_⟩
  rw [is]
  refine vcut (by repeat (first | exact moE _ _ _ | exact moEd _ _ _ | apply moB | apply moL | apply moV)) Unit (fun _ => ⟨[(2, vw Y), (8, vw s), (9, vw y1), (10, vw y0), (11, vw U), (12, vw V), (13, vw v1), (14, vw v0), (15, vw ((U * HW + v1) / Y))], []⟩) (fun _ u => w = u) ?_ ?_
  · refine vloop (Nat × Nat) (fun p => ⟨[(2, vw Y), (8, vw s), (9, vw y1), (10, vw y0), (11, vw U), (12, vw V), (13, vw v1), (14, vw v0), (15, vw p.1), (16, vw p.2)], []⟩) (fun p u => w = u ∧ HInv U v1 Y y1 p.1 p.2 ∧ p.2 < HW) (fun p => p.1) (U / y1, U % y1)
      ⟨⟨rfl, rfl, rfl, rfl, rfl, rfl, rfl, rfl, rfl, rfl, trivial⟩, rfl⟩ ⟨rfl, Da.init, Nat.lt_trans (Nat.mod_lt _ (by omega)) hH1⟩ ?_
    rintro ⟨q, r⟩ u0 ⟨rfl, hI, hr⟩
    dsimp only at hI hr ⊢
    have hr32 : r * HW + v1 < BW := by
      have h1 : r * HW + HW ≤ HW * HW := by rw [← Nat.succ_mul]; exact Nat.mul_le_mul_right _ hr
      have h2 := Da.hu1
      rw [HH] at h1; omega
    have hbd : ∀ (hc : HW ≤ q ∨ r * HW + v1 < q * y0), 1 ≤ q ∧ HInv U v1 Y y1 (q - 1) (r + y1) ∧ q < BW ∧ r + y1 < BW := fun hc => by
      obtain ⟨h1, h2⟩ := Da.down hI hc
      refine ⟨h1, h2, ?_, ?_⟩
      · have := hI.2.2; unfold HW at this; unfold BW; omega
      · unfold HW BW at *; omega
    rcases Nat.lt_or_ge q HW with hq | hq
    · refine ⟨_, bGeF (by unfold HW at hq; omega), ?_⟩
      have hqy : q * y0 < BW := by
        have : q * y0 ≤ HW * y0 := Nat.mul_le_mul_right _ (by omega)
        have h2 : HW * y0 < HW * HW := Nat.mul_lt_mul_of_pos_left hH0 HW_pos
        rw [HH] at h2; omega
      refine ⟨_, wMul' hqy, ?_⟩
      have hm : 4294967296 * r < 18446744073709551616 := by
        have : r * HW < BW := by omega
        rw [Nat.mul_comm]; exact this
      refine ⟨_, wMul' (x := 4294967296) hm, ?_⟩
      have em : 4294967296 * r = r * HW := Nat.mul_comm _ _
      rw [em]
      refine ⟨_, wAdd' hr32, ?_⟩
      rcases Nat.lt_or_ge (r * HW + v1) (q * y0) with hc | hc
      · refine ⟨_, bGt (by omega), ?_⟩
        refine ⟨fun _ => ?_, fun hc => (by cases hc)⟩
        obtain ⟨b1, b2, b3, b4⟩ := hbd (.inr hc)
        refine ⟨_, wSub' (y := 1) b1 b3, ?_⟩
        refine ⟨_, wAdd' b4, ?_⟩
        rcases Nat.lt_or_ge (r + y1) HW with hb | hb
        · refine ⟨_, bGeF (by unfold HW at hb; omega), ?_⟩
          refine ⟨fun hc => (by cases hc), fun _ => ?_⟩
          exact ⟨(q - 1, r + y1), ⟨⟨rfl, rfl, rfl, rfl, rfl, rfl, rfl, rfl, rfl, rfl, trivial⟩, rfl⟩, ⟨rfl, b2, hb⟩, by simp; omega⟩
        · refine ⟨_, bGe (by unfold HW at hb; omega), ?_⟩
          refine ⟨fun _ => ?_, fun hc => (by cases hc)⟩
          have e := Da.broke b2 (by omega) hb
          refine ⟨(), ⟨⟨rfl, rfl, rfl, rfl, rfl, rfl, rfl, rfl, ?_, trivial⟩, rfl⟩, rfl⟩
          show some (vw (q - 1)) = _
          rw [e]
      · refine ⟨_, bGtF (by omega), ?_⟩
        refine ⟨fun hc => (by cases hc), fun _ => ?_⟩
        have e := Da.done hI hc
        refine ⟨(), ⟨⟨rfl, rfl, rfl, rfl, rfl, rfl, rfl, rfl, ?_, trivial⟩, rfl⟩, rfl⟩
        show some (vw q) = _
        rw [e]
    · refine ⟨_, bGe (by unfold HW at hq; omega), ?_⟩
      refine ⟨fun _ => ?_, fun hc => (by cases hc)⟩
      obtain ⟨b1, b2, b3, b4⟩ := hbd (.inl hq)
      refine ⟨_, wSub' (y := 1) b1 b3, ?_⟩
      refine ⟨_, wAdd' b4, ?_⟩
      rcases Nat.lt_or_ge (r + y1) HW with hb | hb
      · refine ⟨_, bGeF (by unfold HW at hb; omega), ?_⟩
        refine ⟨fun hc => (by cases hc), fun _ => ?_⟩
        exact ⟨(q - 1, r + y1), ⟨⟨rfl, rfl, rfl, rfl, rfl, rfl, rfl, rfl, rfl, rfl, trivial⟩, rfl⟩, ⟨rfl, b2, hb⟩, by simp; omega⟩
      · refine ⟨_, bGe (by unfold HW at hb; omega), ?_⟩
        refine ⟨fun _ => ?_, fun hc => (by cases hc)⟩
        have e := Da.broke b2 (by have := hI.2.2; omega) hb
        refine ⟨(), ⟨⟨rfl, rfl, rfl, rfl, rfl, rfl, rfl, rfl, ?_, trivial⟩, rfl⟩, rfl⟩
        show some (vw (q - 1)) = _
        rw [e]
  rintro _ u0 rfl
  refine ⟨vw ((U * HW) % 18446744073709551616), wMul U 4294967296, ?_⟩
  refine ⟨_, wAdd _ v1, ?_⟩
  refine ⟨_, wMul _ Y, ?_⟩
  have er := rem_words (u := U) (u1 := v1) n2 rfl hY0
  refine ⟨_, wSub _ _ (Nat.le_of_lt (Nat.mod_lt _ (by omega))), ?_⟩
  rw [er]
  clear im is
  have hR : (U * HW + v1) % Y < 18446744073709551616 := Nat.lt_trans (Nat.mod_lt _ hY0) n2
  generalize hR1 : (U * HW + v1) % Y = R at *
  generalize hQ1 : (U * HW + v1) / Y = Q at *
  refine ⟨_, wQuo R y1 hy1p (by omega), ?_⟩
  have im : ((R / y1) * y1) % 18446744073709551616 = (R / y1) * y1 := Nat.mod_eq_of_lt (Nat.lt_of_le_of_lt (Nat.div_mul_le_self _ _) (by omega))
  refine ⟨_, wMul _ _, ?_⟩
  rw [im]
  have is : R - (R / y1) * y1 = R % y1 := by have := Nat.div_add_mod R y1; rw [Nat.mul_comm] at this; omega
  refine ⟨_, wSub' (Nat.div_mul_le_self _ _) (by omega), ?_⟩
  rw [is]
  refine vcut (by repeat (first | exact moE _ _ _ | exact moEd _ _ _ | apply moB | apply moL | apply moV)) Unit (fun _ => ⟨[(2, vw Y), (8, vw s), (9, vw y1), (10, vw y0), (11, vw U), (12, vw V), (13, vw v1), (14, vw v0), (15, vw (Q)), (17, vw (R)), (18, vw ((R * HW + v0) / Y))], []⟩) (fun _ u => w = u) ?_ ?_
  · refine vloop (Nat × Nat) (fun p => ⟨[(2, vw Y), (8, vw s), (9, vw y1), (10, vw y0), (11, vw U), (12, vw V), (13, vw v1), (14, vw v0), (15, vw (Q)), (17, vw (R)), (18, vw p.1), (16, vw p.2)], []⟩) (fun p u => w = u ∧ HInv R v0 Y y1 p.1 p.2 ∧ p.2 < HW) (fun p => p.1) (R / y1, R % y1)
      ⟨⟨rfl, rfl, rfl, rfl, rfl, rfl, rfl, rfl, rfl, rfl, rfl, rfl, trivial⟩, rfl⟩ ⟨rfl, Db.init, Nat.lt_trans (Nat.mod_lt _ (by omega)) hH1⟩ ?_
    rintro ⟨q, r⟩ u0 ⟨rfl, hI, hr⟩
    dsimp only at hI hr ⊢
    have hr32 : r * HW + v0 < BW := by
      have h1 : r * HW + HW ≤ HW * HW := by rw [← Nat.succ_mul]; exact Nat.mul_le_mul_right _ hr
      have h2 := Db.hu1
      rw [HH] at h1; omega
    have hbd : ∀ (hc : HW ≤ q ∨ r * HW + v0 < q * y0), 1 ≤ q ∧ HInv R v0 Y y1 (q - 1) (r + y1) ∧ q < BW ∧ r + y1 < BW := fun hc => by
      obtain ⟨h1, h2⟩ := Db.down hI hc
      refine ⟨h1, h2, ?_, ?_⟩
      · have := hI.2.2; unfold HW at this; unfold BW; omega
      · unfold HW BW at *; omega
    rcases Nat.lt_or_ge q HW with hq | hq
    · refine ⟨_, bGeF (by unfold HW at hq; omega), ?_⟩
      have hqy : q * y0 < BW := by
        have : q * y0 ≤ HW * y0 := Nat.mul_le_mul_right _ (by omega)
        have h2 : HW * y0 < HW * HW := Nat.mul_lt_mul_of_pos_left hH0 HW_pos
        rw [HH] at h2; omega
      refine ⟨_, wMul' hqy, ?_⟩
      have hm : 4294967296 * r < 18446744073709551616 := by
        have : r * HW < BW := by omega
        rw [Nat.mul_comm]; exact this
      refine ⟨_, wMul' (x := 4294967296) hm, ?_⟩
      have em : 4294967296 * r = r * HW := Nat.mul_comm _ _
      rw [em]
      refine ⟨_, wAdd' hr32, ?_⟩
      rcases Nat.lt_or_ge (r * HW + v0) (q * y0) with hc | hc
      · refine ⟨_, bGt (by omega), ?_⟩
        refine ⟨fun _ => ?_, fun hc => (by cases hc)⟩
        obtain ⟨b1, b2, b3, b4⟩ := hbd (.inr hc)
        refine ⟨_, wSub' (y := 1) b1 b3, ?_⟩
        refine ⟨_, wAdd' b4, ?_⟩
        rcases Nat.lt_or_ge (r + y1) HW with hb | hb
        · refine ⟨_, bGeF (by unfold HW at hb; omega), ?_⟩
          refine ⟨fun hc => (by cases hc), fun _ => ?_⟩
          exact ⟨(q - 1, r + y1), ⟨⟨rfl, rfl, rfl, rfl, rfl, rfl, rfl, rfl, rfl, rfl, rfl, rfl, trivial⟩, rfl⟩, ⟨rfl, b2, hb⟩, by simp; omega⟩
        · refine ⟨_, bGe (by unfold HW at hb; omega), ?_⟩
          refine ⟨fun _ => ?_, fun hc => (by cases hc)⟩
          have e := Db.broke b2 (by omega) hb
          refine ⟨(), ⟨⟨rfl, rfl, rfl, rfl, rfl, rfl, rfl, rfl, rfl, rfl, ?_, trivial⟩, rfl⟩, rfl⟩
          show some (vw (q - 1)) = _
          rw [e]
      · refine ⟨_, bGtF (by omega), ?_⟩
        refine ⟨fun hc => (by cases hc), fun _ => ?_⟩
        have e := Db.done hI hc
        refine ⟨(), ⟨⟨rfl, rfl, rfl, rfl, rfl, rfl, rfl, rfl, rfl, rfl, ?_, trivial⟩, rfl⟩, rfl⟩
        show some (vw q) = _
        rw [e]
    · refine ⟨_, bGe (by unfold HW at hq; omega), ?_⟩
      refine ⟨fun _ => ?_, fun hc => (by cases hc)⟩
      obtain ⟨b1, b2, b3, b4⟩ := hbd (.inl hq)
      refine ⟨_, wSub' (y := 1) b1 b3, ?_⟩
      refine ⟨_, wAdd' b4, ?_⟩
      rcases Nat.lt_or_ge (r + y1) HW with hb | hb
      · refine ⟨_, bGeF (by unfold HW at hb; omega), ?_⟩
        refine ⟨fun hc => (by cases hc), fun _ => ?_⟩
        exact ⟨(q - 1, r + y1), ⟨⟨rfl, rfl, rfl, rfl, rfl, rfl, rfl, rfl, rfl, rfl, rfl, rfl, trivial⟩, rfl⟩, ⟨rfl, b2, hb⟩, by simp; omega⟩
      · refine ⟨_, bGe (by unfold HW at hb; omega), ?_⟩
        refine ⟨fun _ => ?_, fun hc => (by cases hc)⟩
        have e := Db.broke b2 (by have := hI.2.2; omega) hb
        refine ⟨(), ⟨⟨rfl, rfl, rfl, rfl, rfl, rfl, rfl, rfl, rfl, rfl, ?_, trivial⟩, rfl⟩, rfl⟩
        show some (vw (q - 1)) = _
        rw [e]
  rintro _ u0 rfl
  refine ⟨vw ((Q * HW) % 18446744073709551616), wMul Q 4294967296, ?_⟩
  have eq : (Q * HW) % 18446744073709551616 = Q * HW := Nat.mod_eq_of_lt (mul32_lt Qa)
  rw [eq]
  have hqq : Q * HW + (R * HW + v0) / Y < BW := by
    have h1 : Q * HW + HW ≤ HW * HW := by rw [← Nat.succ_mul]; exact Nat.mul_le_mul_right _ Qa
    rw [HH] at h1; omega
  refine ⟨_, wAdd' hqq, ?_⟩
  refine ⟨vw ((R * HW) % 18446744073709551616), wMul R 4294967296, ?_⟩
  refine ⟨_, wAdd _ v0, ?_⟩
  refine ⟨_, wMul _ Y, ?_⟩
  have er2 := rem_words (u := R) (u1 := v0) n2 rfl hY0
  refine ⟨_, wSub _ _ (Nat.le_of_lt (Nat.mod_lt _ (by omega))), ?_⟩
  rw [er2]
  refine ⟨_, wShr _ s _ (by omega), ?_⟩
  refine ⟨rfl, ⟨Fm.refl _ _, rfl⟩, ?_⟩
  rw [Dq, Dr]; rfl

end Go.Vc
end

section
/- reciprocalWord, divWW, greaterThan. -/
set_option linter.unusedSimpArgs false
set_option linter.unusedVariables false
set_option maxRecDepth 8000
namespace Go.Vc
open Go.Proofs

theorem bitsDiv_c {hi lo y : Nat} (hy : hi < y) (hyB : y < BW) (hlo : lo < BW) (w : World) :
    CallX P 160 #[vw hi, vw lo, vw y] w fun v w' => (Fm (fun _ => False) w w' ∧ w'.heap.size = w.heap.size) ∧ v = .tuple #[vw ((hi * BW + lo) / y), vw ((hi * BW + lo) % y)] := by
  refine calls_vc mo fn_160 rfl ok_160 (Nat.le_of_ble_eq_true rfl) nm_160 ?_
  refine (bitsDiv64_c hy hyB hlo w).mono ?_
  rintro v w' ⟨h, rfl⟩
  exact ⟨rfl, h, rfl⟩

theorem xor_run {x : Nat} (hx : x < BW) (w : World) : (Op.unary .xor (.int .u64 (x : Int))).run P w = .ok (vw (BW - 1 - x)) w := by
  have h : binV .xor .u64 .u64 ((18446744073709551615 : Nat) : Int) (x : Int) = some (vw (18446744073709551615 ^^^ x)) := wXor _ _ (by omega) hx
  have e : 18446744073709551615 ^^^ x = BW - 1 - x := by
    have e0 : BW - 1 - x = 2 ^ 64 - (x + 1) := by unfold BW; omega
    rw [e0]
    apply Nat.eq_of_testBit_eq
    intro i
    rw [Nat.testBit_xor, Nat.testBit_two_pow_sub_succ hx, show (18446744073709551615 : Nat) = 2 ^ 64 - 1 by rfl, Nat.testBit_two_pow_sub_one]
    rcases Nat.lt_or_ge i 64 with h | h
    · simp [h]
    · have : x.testBit i = false := Nat.testBit_lt_two_pow (Nat.lt_of_lt_of_le hx (Nat.pow_le_pow_right (show 0 < 2 by omega) h))
      simp [this, Nat.not_lt.2 h]
  rw [← e]
  exact binV_run 0 w h

theorem reciprocalWord_c {y : Nat} (hy : y ≠ 0) (hyB : y < BW) (w : World) :
    CallX P 161 #[vw y] w fun v w' => (Fm (fun _ => False) w w' ∧ w'.heap.size = w.heap.size) ∧ v = vw (recip (y * 2 ^ lz y)) := by
  obtain ⟨n1, n2⟩ := lz_mul hy hyB
  have hsl := lz_lt hy
  refine calls_vc mo fn_161 rfl ok_161 (Nat.le_of_ble_eq_true rfl) nm_161 ?_
  refine (nlz_c y hyB w).mono ?_
  rintro v w' ⟨rfl, rfl⟩
  have e1 : (y * 2 ^ lz y) % 18446744073709551616 = y * 2 ^ lz y := Nat.mod_eq_of_lt n2
  refine ⟨_, wShl y (lz y) _ (by omega), ?_⟩
  rw [e1]
  generalize y * 2 ^ lz y = d at *
  refine rnA (xor_run n2) ?_
  refine (bitsDiv_c (hi := BW - 1 - d) (lo := 18446744073709551615) (y := d) (by unfold BW at *; omega) n2 (by unfold BW; omega) w).mono ?_
  rintro v w' ⟨h, rfl⟩
  refine ⟨rfl, h, ?_⟩
  have e2 : ((BW - 1 - d) * BW + 18446744073709551615) / d = recip d := by
    unfold recip
    have hd : 0 < d := by unfold BW at n1; omega
    have : BW * BW - 1 = (BW - 1 - d) * BW + 18446744073709551615 + d * BW := by
      rw [Nat.sub_mul, Nat.sub_mul]
      have : (1 + d) * BW ≤ BW * BW := Nat.mul_le_mul_right _ (by omega)
      rw [Nat.add_mul] at this
      have e : BW = 18446744073709551616 := rfl
      generalize d * BW = a at *
      generalize hbb : BW * BW = bb at *
      omega
    rw [this, Nat.add_mul_div_left _ _ hd, Nat.add_sub_cancel]
  rw [← e2]; rfl

theorem divWW_c {x1 x0 y m : Nat} (h1 : x1 < y) (hyB : y < BW) (h0 : x0 < BW) (hm : m = recip (y * 2 ^ lz y)) (w : World) :
    CallX P 162 #[vw x1, vw x0, vw y, vw m] w fun v w' => w = w' ∧ v = .tuple #[vw ((x1 * BW + x0) / y), vw ((x1 * BW + x0) % y)] := by
  have hy : y ≠ 0 := by omega
  obtain ⟨n1, n2⟩ := lz_mul hy hyB
  have hsl := lz_lt hy
  obtain ⟨s1, s2, s3⟩ := scale_plain h1 hyB h0
  have hmB : m < BW := by rw [hm]; exact (recip_spec n1 n2).1
  refine calls_vc mo fn_162 rfl ok_162 (Nat.le_of_ble_eq_true rfl) nm_162 ?_
  refine (nlz_c y hyB w).mono ?_
  rintro v w' ⟨rfl, rfl⟩
  (repeat refine vcl_v _ rfl rfl ?_); (refine vcl_end ?_)
  refine vcut (by repeat (first | exact moE _ _ _ | exact moEd _ _ _ | apply moB | apply moL | apply moV)) Unit (fun _ => ⟨[(0, vw (2 ^ lz y * x1 + x0 / 2 ^ (64 - lz y))), (1, vw (2 ^ lz y * (x0 % 2 ^ (64 - lz y)))), (2, vw (y * 2 ^ lz y)), (3, vw m), (10, vw (lz y))], []⟩) (fun _ u => w = u) ?_ ?_
  · rcases Nat.eq_zero_or_pos (lz y) with hz | hz
    · refine ⟨_, bNeF (by omega), ?_⟩
      refine ⟨fun hc => (by cases hc), fun _ => ?_⟩
      have e0 : x0 / 18446744073709551616 = 0 := Nat.div_eq_of_lt h0
      have e1 : x0 % 18446744073709551616 = x0 := Nat.mod_eq_of_lt h0
      rw [hz]
      refine ⟨(), ⟨⟨?_, ?_, ?_, rfl, rfl, trivial⟩, rfl⟩, rfl⟩
      · show some (vw x1) = some (vw (2 ^ 0 * x1 + x0 / 2 ^ 64)); simp [e0]
      · show some (vw x0) = some (vw (2 ^ 0 * (x0 % 2 ^ 64))); simp [e1]
      · show some (vw y) = some (vw (y * 2 ^ 0)); simp
    · refine ⟨_, bNe (by omega), ?_⟩
      refine ⟨fun _ => ?_, fun hc => (by cases hc)⟩
      have hhi : x1 * 2 ^ lz y < 18446744073709551616 := Nat.lt_of_le_of_lt (Nat.mul_le_mul_right _ (Nat.le_of_lt h1)) n2
      have e2 : (x1 * 2 ^ lz y) % 18446744073709551616 = 2 ^ lz y * x1 := by rw [Nat.mod_eq_of_lt hhi, Nat.mul_comm]
      refine ⟨_, wShl x1 (lz y) _ (by omega), ?_⟩
      rw [e2]
      refine ⟨_, wSub' (x := 64) (y := lz y) (by omega) (by omega), ?_⟩
      refine ⟨_, wShr x0 (64 - lz y) _ (by omega), ?_⟩
      have e3 : 2 ^ lz y * x1 ||| x0 / 2 ^ (64 - lz y) = 2 ^ lz y * x1 + x0 / 2 ^ (64 - lz y) := or_split (div_lt_pow h0 (by omega))
      refine ⟨_, wOr _ _ (by rw [Nat.mul_comm]; exact hhi) (Nat.lt_of_le_of_lt (Nat.div_le_self _ _) h0), ?_⟩
      rw [e3]
      have e4 : (x0 * 2 ^ lz y) % 18446744073709551616 = 2 ^ lz y * (x0 % 2 ^ (64 - lz y)) := shl_mod (by omega)
      refine ⟨_, wShl x0 (lz y) _ (by omega), ?_⟩
      rw [e4]
      have e5 : (y * 2 ^ lz y) % 18446744073709551616 = y * 2 ^ lz y := Nat.mod_eq_of_lt n2
      refine ⟨_, wShl y (lz y) _ (by omega), ?_⟩
      rw [e5]
      exact ⟨(), ⟨⟨rfl, rfl, rfl, rfl, rfl, trivial⟩, rfl⟩, rfl⟩
  rintro _ w rfl
  have hdiv : ((x1 * BW + x0) * 2 ^ lz y) / (y * 2 ^ lz y) = (x1 * BW + x0) / y := Nat.mul_div_mul_right _ _ (Nat.pow_pos (by omega))
  have hmod : ((x1 * BW + x0) * 2 ^ lz y) % (y * 2 ^ lz y) / 2 ^ lz y = (x1 * BW + x0) % y := by
    rw [Nat.mul_mod_mul_right]; exact Nat.mul_div_cancel _ (Nat.pow_pos (by omega))
  rw [← s1] at hdiv hmod
  generalize hs : lz y = s at *
  generalize hd : y * 2 ^ s = d at *
  generalize 2 ^ s * x1 + x0 / 2 ^ (64 - s) = X1 at *
  generalize 2 ^ s * (x0 % 2 ^ (64 - s)) = X0 at *
  obtain ⟨g1, g2⟩ := guess_spec n1 n2 s2 s3
  rw [← hm] at g1 g2
  have hd0 : 0 < d := by omega
  have hU : X1 * BW + X0 < d * BW := by
    have : (X1 + 1) * BW ≤ d * BW := Nat.mul_le_mul_right _ s2
    rw [Nat.add_mul] at this; omega
  have hX1B : X1 < BW := by omega
  refine (bMul_a hmB hX1B w).mono ?_
  rintro v w1 ⟨rfl, ph, pl, rfl, b1, b2, pe⟩
  refine (bAdd_a b2 s3 (Nat.zero_le 1) w).mono ?_
  rintro v w1 ⟨rfl, a0, ac, rfl, b3, b4, ae⟩
  refine (bAdd_a b1 hX1B b4 w).mono ?_
  rintro v w1 ⟨rfl, t, tc, rfl, b5, b6, te⟩
  have hq : (m * X1 + X1 * BW + X0) / BW = ph + X1 + ac := by
    have : m * X1 + X1 * BW + X0 = a0 + BW * (ph + X1 + ac) := by
      rw [← pe, Nat.mul_add, Nat.mul_add, Nat.mul_comm X1 BW]; omega
    rw [this, Nat.add_mul_div_left _ _ BW_pos, Nat.div_eq_of_lt b3]; omega
  rw [hq] at g1 g2
  have hqB := quot_lt hd0 g1 hU
  have htc : tc = 0 := by
    rcases Nat.eq_zero_or_pos tc with h | h
    · exact h
    · have : BW * 1 ≤ BW * tc := Nat.mul_le_mul_left _ h
      omega
  subst htc
  have ht : t = ph + X1 + ac := by omega
  rw [← ht] at g1 g2 hqB
  refine (bMul_a n2 hqB w).mono ?_
  rintro v w1 ⟨rfl, dh, dl, rfl, b7, b8, de⟩
  refine (bSub_a s3 b8 (Nat.zero_le 1) w).mono ?_
  rintro v w1 ⟨rfl, r0, br, rfl, b9, b10, re⟩
  refine (bSub_a hX1B b7 b10 w).mono ?_
  rintro v w1 ⟨rfl, r1, br1, rfl, b11, b12, re1⟩
  rw [← de] at g1 g2
  -- what is left over
  have hkey : r1 * BW + r0 + (dl + BW * dh) = X1 * BW + X0 + BW * BW * br1 := by
    have k1 : BW * (r1 + dh + br) = BW * (X1 + BW * br1) := by rw [re1]
    simp only [Nat.mul_add, ← Nat.mul_assoc] at k1
    rw [Nat.mul_comm r1 BW, Nat.mul_comm X1 BW]
    omega
  have hbr1 : br1 = 0 := by
    rcases Nat.eq_zero_or_pos br1 with h | h
    · exact h
    · have h2 : BW * BW * 1 ≤ BW * BW * br1 := Nat.mul_le_mul_left _ h
      have h3 : r1 * BW + BW ≤ BW * BW := by rw [← Nat.succ_mul]; exact Nat.mul_le_mul_right _ b11
      omega
  subst hbr1
  have hr1 : r1 ≤ 1 := by
    rcases Nat.lt_or_ge r1 2 with h | h
    · omega
    · have : 2 * BW ≤ r1 * BW := Nat.mul_le_mul_right _ h
      omega
  have htot : d * t + (r1 * BW + r0) = X1 * BW + X0 := by rw [← de]; omega
  have hlt : r1 * BW + r0 < BW + d := by omega
  (repeat refine vcl_v _ rfl rfl ?_); (refine vcl_end ?_)
  refine vcut (by repeat (first | exact moE _ _ _ | exact moEd _ _ _ | apply moB | apply moL | apply moV)) (Nat × Nat) (fun p => ⟨[(10, vw s), (11, vw d), (16, vw p.1), (19, vw p.2)], []⟩) (fun p u => w = u ∧ d * p.1 + p.2 = X1 * BW + X0 ∧ p.2 < BW) ?_ ?_
  · rcases Nat.eq_zero_or_pos r1 with hz | hz
    · refine ⟨_, bNeF (by omega), ?_⟩
      refine ⟨fun hc => (by cases hc), fun _ => ?_⟩
      exact ⟨(t, r0), ⟨⟨rfl, rfl, rfl, rfl, trivial⟩, rfl⟩, rfl, by subst hz; show d * t + r0 = _; omega, b9⟩
    · have h1 : r1 = 1 := by omega
      subst h1
      refine ⟨_, bNe (by omega), ?_⟩
      refine ⟨fun _ => ?_, fun hc => (by cases hc)⟩
      have htot2 : d * (t + 1) + (r0 + BW - d) = X1 * BW + X0 := by rw [Nat.mul_add]; omega
      have hq2 : t + 1 < BW := quot_lt hd0 (U := X1 * BW + X0) (by omega) hU
      refine ⟨_, wAdd' (y := 1) hq2, ?_⟩
      have e : (r0 + (18446744073709551616 - d)) % 18446744073709551616 = r0 + BW - d := by unfold BW at *; omega
      refine ⟨_, wSub r0 d (Nat.le_of_lt n2), ?_⟩
      rw [e]
      exact ⟨(t + 1, r0 + BW - d), ⟨⟨rfl, rfl, rfl, rfl, trivial⟩, rfl⟩, rfl, htot2, by omega⟩
  rintro ⟨q1, c⟩ w ⟨rfl, f1, f2⟩
  dsimp only at f1 f2 ⊢
  have hq1 : q1 < BW := quot_lt hd0 (U := X1 * BW + X0) (by omega) hU
  refine vcut (by repeat (first | exact moE _ _ _ | exact moEd _ _ _ | apply moB | apply moL | apply moV)) (Nat × Nat) (fun p => ⟨[(10, vw s), (16, vw p.1), (19, vw p.2)], []⟩) (fun p u => w = u ∧ d * p.1 + p.2 = X1 * BW + X0 ∧ p.2 < d) ?_ ?_
  · rcases Nat.lt_or_ge c d with hz | hz
    · refine ⟨_, bGeF (by omega), ?_⟩
      refine ⟨fun hc => (by cases hc), fun _ => ?_⟩
      exact ⟨(q1, c), ⟨⟨rfl, rfl, rfl, trivial⟩, rfl⟩, rfl, f1, hz⟩
    · refine ⟨_, bGe (by omega), ?_⟩
      refine ⟨fun _ => ?_, fun hc => (by cases hc)⟩
      have htot2 : d * (q1 + 1) + (c - d) = X1 * BW + X0 := by rw [Nat.mul_add]; omega
      have hq2 : q1 + 1 < BW := quot_lt hd0 (U := X1 * BW + X0) (by omega) hU
      refine ⟨_, wAdd' (y := 1) hq2, ?_⟩
      refine ⟨_, wSub' hz f2, ?_⟩
      exact ⟨(q1 + 1, c - d), ⟨⟨rfl, rfl, rfl, trivial⟩, rfl⟩, rfl, htot2, by unfold BW at *; omega⟩
  rintro ⟨q2, c2⟩ w ⟨rfl, f3, f4⟩
  dsimp only at f3 f4 ⊢
  obtain ⟨e1, e2⟩ := divmod_of f3 f4
  refine ⟨_, wShr c2 s _ (by omega), ?_⟩
  refine ⟨rfl, rfl, ?_⟩
  rw [← hdiv, ← hmod, ← e1, ← e2]; rfl

theorem greaterThan_c {x1 x2 y1 y2 : Nat} (hx2 : x2 < BW) (hy2 : y2 < BW) (w : World) : CallX P 164 #[vw x1, vw x2, vw y1, vw y2] w fun v w' => w = w' ∧ v = .bool (decide (y1 * BW + y2 < x1 * BW + x2)) := by
  refine calls_vc mo fn_164 rfl ok_164 (Nat.le_of_ble_eq_true rfl) nm_164 ?_
  rcases Nat.lt_trichotomy y1 x1 with h | h | h
  · refine ⟨_, bGt (by omega), ?_⟩
    refine ⟨rfl, rfl, ?_⟩
    have : (y1 + 1) * BW ≤ x1 * BW := Nat.mul_le_mul_right _ h
    rw [Nat.add_mul] at this
    have : y1 * BW + y2 < x1 * BW + x2 := by omega
    simp [tupV, this]
  · subst h
    refine ⟨_, bGtF (by omega), ?_⟩
    refine ⟨_, bEq rfl, ?_⟩
    rcases Nat.lt_or_ge y2 x2 with h | h
    · refine ⟨_, bGt (by omega), ?_⟩
      refine ⟨rfl, rfl, ?_⟩
      simp [tupV, h]
    · refine ⟨_, bGtF (by omega), ?_⟩
      refine ⟨rfl, rfl, ?_⟩
      simp [tupV, Nat.not_lt.2 h, h]
  · refine ⟨_, bGtF (by omega), ?_⟩
    refine ⟨_, bEqF (by omega), ?_⟩
    refine ⟨rfl, rfl, ?_⟩
    have : (x1 + 1) * BW ≤ y1 * BW := Nat.mul_le_mul_right _ h
    rw [Nat.add_mul] at this
    have : ¬ y1 * BW + y2 < x1 * BW + x2 := by omega
    simp [tupV]
    omega

end Go.Vc
end
