/- Whatever curve number and whatever bytes the law FnMapMinus is called with, it returns true, and its two arguments and the six listed variables of the program's own read afterwards as they read before. Conditions: the nine listed package variables (the end-of-input error, two errors of the number package, four thresholds, two tables of math/bits) hold at the call's start what the program's text lays in them (the card ties this to the text of the pruned copy); calls through interfaces and of functions that call themselves are among what is run. -/
import Derived.Test.YthahnloabllniaaGreatDoorM26
import Derived.Test.YthahnloabllniaaGreatDoorRows
import Derived.Test.YthahnloabllniaaGreatDoorTie
import Derived.Test.YthahnloabllniaaGreatDoorCards
import Derived.ProofKit
import Derived.LaidMore
import Derived.OpenShut
import Derived.Stop.Joined
import Derived.Stop.LaidErr
import Derived.SevenTiedAt
section
set_option linter.unusedSimpArgs false
set_option linter.unusedVariables false
set_option maxRecDepth 100000
namespace Go.Vc
open Go.Proofs

theorem CallX.calls {P : Program} {f : FuncId} {fn : Func} {c : Code} {args : Array Value} {w : World} {R : Value → World → Prop} (hf : P.funcs[f]? = some fn) (hb : fn.body = some c) (hn : (fn.name == "runtime.NumGoroutine") = false) (h : CallX P f args w R) :
    Calls P f args w fun e w' => ∃ v, e = .returned v ∧ R v w' := by
  rcases h with ⟨_, _, _, _, _, h⟩ | ⟨v, w', e, _⟩
  · exact h
  · have h1 : fn.name ≠ "runtime.NumGoroutine" := by simpa using hn
    simp [callFunc, hf, h1, hb, Sem.run] at e

/-- A variable's block, from the world's shape. -/
theorem cl_of_shaped {P : Program} {w : World} {n : String} {g : Nat} {T : TypeId} {zero cs : Array Value} (hs : w.ShapedOpen P) (hg : P.globalNamed n = some g) (hlt : g < P.globals.size)
    (hz : ((begin P (fun _ _ => 0) default).world.heap[g]?).bind Obj.row? = some (zero, T)) (hv : w.var? P n = some cs) : Cl w g cs.toList T := by
  obtain ⟨cs', h, _⟩ := hs.1 g zero T hlt hz
  simp only [World.var?, hg, Option.bind_some, h, Option.some.injEq] at hv
  subst hv
  simpa using h

theorem laid_int {P : Program} {n : String} {k : IntKind} {v : Int} {r : List (String × DataW Unit)} {W : World} {g : Nat} {t : TypeId} (h : laidMet P ((n, .lit (.int k v)) :: r) W)
    (hg : P.globalNamed n = some g) (ht : (P.globals[g]?).map (·.type) = some t) (hu : P.underlying t = some (.int k)) : W.var? P n = some #[.int k v] := by
  obtain ⟨ps, ⟨g0, t0, cs0, f0, p0, q0, hg0, ht0, hv0, hd0, _, _⟩, _, _⟩ := h
  obtain rfl := Option.some.inj (hg.symm.trans hg0)
  obtain rfl := Option.some.inj (ht.symm.trans ht0)
  obtain ⟨m, e1, e2, _⟩ := DataW.trod_int hu hd0
  simp only [Prod.mk.injEq, DataW.lit.injEq, Lit.int.injEq, true_and] at e2
  obtain ⟨rfl, _⟩ := e2
  obtain ⟨l⟩ := cs0
  simp only at e1
  subst e1
  exact hv0
end Go.Vc

namespace Go.Proofs.YthahnloabllniaaGreatDoor
open Go.ChangeShapes Go.WideShapes Go.RowKit Go.Vc

theorem own : ownKnob Tryz.prog.godebug = none := by kernel_rfl
theorem laidOut : laidOutB Tryz.prog = true := by kernel_rfl
theorem gE : Tryz.prog.globalNamed "io.EOF" = some 0 := by kernel_rfl
theorem gEt : (Tryz.prog.globals[0]?).map (·.type) = some 64 := by kernel_rfl
theorem gD : Tryz.prog.globalNamed "loop.example/pub-pointsofhashes/pub/bigall.divRecursiveThreshold" = some 6 := by kernel_rfl
theorem gDt : (Tryz.prog.globals[6]?).map (·.type) = some 3 := by kernel_rfl
theorem gK : Tryz.prog.globalNamed "loop.example/pub-pointsofhashes/pub/bigall.karatsubaThreshold" = some 5 := by kernel_rfl
theorem gKt : (Tryz.prog.globals[5]?).map (·.type) = some 3 := by kernel_rfl
theorem gS : Tryz.prog.globalNamed "loop.example/pub-pointsofhashes/pub/bigall.basicSqrThreshold" = some 3 := by kernel_rfl
theorem gSt : (Tryz.prog.globals[3]?).map (·.type) = some 3 := by kernel_rfl
theorem gQ : Tryz.prog.globalNamed "loop.example/pub-pointsofhashes/pub/bigall.karatsubaSqrThreshold" = some 4 := by kernel_rfl
theorem gQt : (Tryz.prog.globals[4]?).map (·.type) = some 3 := by kernel_rfl
theorem gsz : Tryz.prog.globals.size = 9 := by kernel_rfl
theorem uE : ∃ ms, Tryz.prog.underlying 64 = some (.interface ms) := ⟨_, Tryz.underlying64⟩
theorem uP : Tryz.prog.underlying 217 = some (.pointer 260) := by kernel_rfl
theorem uS : ∃ f : Field, Tryz.prog.underlying 260 = some (.struct #[f]) ∧ f.type = 9 ∧ f.offset = 0 := ⟨_, Tryz.underlying260, rfl, rfl⟩
theorem uStr : Tryz.prog.underlying 9 = some .string := by kernel_rfl
theorem cS : Tryz.prog.cellsOf 260 = 1 := by kernel_rfl
theorem cStr : Tryz.prog.cellsOf 9 = 1 := by kernel_rfl
theorem c5 : Tryz.prog.cellsOf 5 = 1 := by kernel_rfl
theorem star : "*" ++ "errors.errorString" = "*errors.errorString" := by decide
theorem rowE (u : TypeId) (h : Tryz.prog.typeName? 3 u = some "*errors.errorString") : u = 217 :=
  typeName_ptr_named (nm := "errors.errorString") (by rw [star]; kernel_rfl) (by kernel_rfl) (by decide) u (by rw [star]; exact h)
theorem zE : ((begin Tryz.prog (fun _ _ => 0) default).world.heap[0]?).bind Obj.row? = some (#[.nilIface], 64) := by kernel_rfl
theorem zD : ((begin Tryz.prog (fun _ _ => 0) default).world.heap[6]?).bind Obj.row? = some (#[.int .i64 0], 3) := by kernel_rfl
theorem zK : ((begin Tryz.prog (fun _ _ => 0) default).world.heap[5]?).bind Obj.row? = some (#[.int .i64 0], 3) := by kernel_rfl
theorem zS : ((begin Tryz.prog (fun _ _ => 0) default).world.heap[3]?).bind Obj.row? = some (#[.int .i64 0], 3) := by kernel_rfl
theorem zQ : ((begin Tryz.prog (fun _ _ => 0) default).world.heap[4]?).bind Obj.row? = some (#[.int .i64 0], 3) := by kernel_rfl

/-- What the condition gives the walk. -/
theorem gb_of_laid {W : World} (hs : W.ShapedOpen Tryz.prog) (h : laidMetH Tryz.prog Rows.fnMapMinusRow.laid W) : ∃ be, Gb W be := by
  rw [MakeChecks.laidMetH_plain _ _ _ (by kernel_rfl)] at h
  have h3 : laidMet Tryz.prog (("io.EOF", Rows.laid_io_EOF) :: _) W := h.tail.tail
  obtain ⟨ms, hi⟩ := uE
  obtain ⟨f, hf, hf1, hf2⟩ := uS
  obtain ⟨a, s, hv, _⟩ := laid_sentinel h3 gE gEt hi rowE uP hf hf1 hf2 uStr cS cStr
  have h6 : laidMet Tryz.prog (("loop.example/pub-pointsofhashes/pub/bigall.divRecursiveThreshold", .lit (.int .i64 40)) :: _) W := h3.tail.tail.tail
  have h7 : laidMet Tryz.prog (("loop.example/pub-pointsofhashes/pub/bigall.karatsubaThreshold", .lit (.int .i64 40)) :: _) W := h6.tail
  have h8 : laidMet Tryz.prog (("loop.example/pub-pointsofhashes/pub/bigall.basicSqrThreshold", .lit (.int .i64 12)) :: _) W := h7.tail
  have h9 : laidMet Tryz.prog (("loop.example/pub-pointsofhashes/pub/bigall.karatsubaSqrThreshold", .lit (.int .i64 80)) :: _) W := h8.tail
  have vD := laid_int h6 gD gDt Tryz.underlying3
  have vK := laid_int h7 gK gKt Tryz.underlying3
  have vS := laid_int h8 gS gSt Tryz.underlying3
  have vQ := laid_int h9 gQ gQt Tryz.underlying3
  exact ⟨a, ⟨cl_of_shaped hs gK (by rw [gsz]; decide) zK vK, cl_of_shaped hs gS (by rw [gsz]; decide) zS vS, cl_of_shaped hs gQ (by rw [gsz]; decide) zQ vQ, cl_of_shaped hs gD (by rw [gsz]; decide) zD vD⟩, cl_of_shaped hs gE (by rw [gsz]; decide) zE hv⟩

/-- The bytes of an argument. -/
theorem sb_of {w : World} {a : Option Addr} {l : List Nat} (hb : ∀ x ∈ l, x < 256) (h : l ≠ [] → ∃ p, a = some p ∧ ∀ i, i < l.length → w.cell? (p.add i) = some (vb (dg l i))) : Sb w a l := by
  refine ⟨fun hl => ?_⟩
  obtain ⟨p, rfl, hc⟩ := h hl
  obtain ⟨b, o, sp⟩ := p
  have h0 := hc 0 (List.length_pos_iff.2 hl)
  have hsp : sp = none := by
    cases sp with
    | none => rfl
    | some _ =>
      exfalso
      simp only [World.cell?, Addr.add] at h0
      split at h0
      · simp at h0
      · cases h0
  subst hsp
  have hc' : ∀ i, i < l.length → w.cell? ⟨b, o + i, none⟩ = some (vb (dg l i)) := fun i hi => by
    have := hc i hi
    rwa [addr_add] at this
  refine ⟨b, o, rfl, hb, hc', ?_, fun l2 hw => ?_⟩
  · have := hc' 0 (List.length_pos_iff.2 hl)
    rcases Nat.lt_or_ge b w.heap.size with h | h
    · exact h
    · simp [World.cell?, Array.getElem?_eq_none h] at this
  · have := hc' 0 (List.length_pos_iff.2 hl)
    have hcl := hw.cl
    unfold Cl at hcl
    simp only [World.cell?, hcl] at this
    simp [vws, vb] at this

/-- The named variables read as they did, where no old block has turned. -/
theorem vars_stay {H : Type} {enc : TypeId × Value → H} {P : Program} (hl : laidOutB P = true) {W W' : World} (hb : Below W.heap.size W W') : ∀ (ns : List String) (gs : List (DataW H)) (ps : List MemPlace),
    (∀ n ∈ ns, ∃ g t, P.globalNamed n = some g ∧ (P.globals[g]?).map (·.type) = some t ∧ P.readableRec t = true ∧ t < P.types.size) →
    DataW.TrodVars enc P W (fun _ => true) ns gs ps → DataW.TrodVars enc P W' (fun b => decide (b < W.heap.size)) ns gs ps
  | [], [], _, _, h => h
  | [], _ :: _, _, _, h => h.elim
  | _ :: _, [], _, _, h => h.elim
  | n :: ns, d :: ds, ps, hv, h => by
    have hlt := h.lt
    obtain ⟨g, t, cs, fuel, p, q, h1, h2, h3, h4, hs, e⟩ := h
    obtain ⟨g', t', g1, g2, g3, g4⟩ := hv n (.head _)
    obtain rfl := Option.some.inj (h1.symm.trans g1)
    obtain rfl := Option.some.inj (h2.symm.trans g2)
    have h5 : DataW.Trod enc P W 0 (fun _ => true) true t (.agg cs) d p := ⟨fuel, h4⟩
    obtain ⟨fuel', h6⟩ := Below.trod hl g3 g4 h5 hb (fun x hx => hlt x (by rw [e]; simp [hx]))
    refine ⟨g, t, cs, fuel', p, q, h1, h2, ?_, h6, vars_stay hl hb ns ds q (fun m hm => hv m (.tail _ hm)) hs, e⟩
    simp only [World.var?, h1, Option.bind_some] at h3 ⊢
    have hg : g < W.heap.size := by
      rcases Nat.lt_or_ge g W.heap.size with h | h
      · exact h
      · simp [Array.getElem?_eq_none h] at h3
    rw [hb.block g hg]; exact h3

/-- The door's own heap meets the condition: closed facts. -/
theorem door_met (os : Os) (args : Array Value) : laidMetH Tryz.prog Rows.fnMapMinusRow.laid ((World.doorLaid Tryz.prog 92 os).forCall (fun _ _ => 0) ⟨#[], args, []⟩).memory :=
  laidMetH_of_parts3 (fuel := 8) (laidMet_of_run' 8 (by kernel_rfl) (by kernel_rfl)) (by kernel_rfl) (by kernel_rfl)

theorem vars_named : ∀ n ∈ Rows.fnMapMinusSpec.vars, ∃ g t, Tryz.prog.globalNamed n = some g ∧ (Tryz.prog.globals[g]?).map (·.type) = some t ∧ Tryz.prog.readableRec t = true ∧ t < Tryz.prog.types.size := by
  have h : (Rows.fnMapMinusSpec.vars.all fun n => match (Tryz.prog.globalNamed n) with
    | some g => (match (Tryz.prog.globals[g]?).map (·.type) with
      | some t => Tryz.prog.readableRec t && Nat.blt t Tryz.prog.types.size
      | none => false)
    | none => false) = true := by kernel_rfl
  intro n hn
  have := List.all_eq_true.1 h n hn
  split at this
  · rename_i g hg
    split at this
    · rename_i t ht
      rw [Bool.and_eq_true] at this
      exact ⟨g, t, hg, ht, this.1, Nat.le_of_ble_eq_true this.2⟩
    · cases this
  · cases this

theorem vars_len {H : Type} {enc : TypeId × Value → H} {P : Program} {W : World} {sp : Nat → Bool} : ∀ (ns : List String) (gs : List (DataW H)) (ps : List MemPlace), DataW.TrodVars enc P W sp ns gs ps → gs.length = ns.length
  | [], [], _, _ => rfl
  | [], _ :: _, _, h => h.elim
  | _ :: _, [], _, h => h.elim
  | n :: ns, d :: ds, ps, h => by
    obtain ⟨g, t, cs, fuel, p, q, h1, h2, h3, h4, hs, e⟩ := h
    simp [vars_len ns ds q hs]

theorem six {α : Type} {l : List α} (h : l.length = 6) : ∃ a b c d e f, l = [a, b, c, d, e, f] := by
  match l, h with
  | [a, b, c, d, e, f], _ => exact ⟨a, b, c, d, e, f, rfl⟩

theorem law_calls {W : World} {be : Addr} {k : Int} {a : Option Addr} {c : Nat} {buf : List Nat} (hG : Gb W be) (hb : Sb W a buf) (hc : buf.length ≤ c) (hc2 : c < 9223372036854775808) :
    Calls Tryz.prog 3 #[.int .i64 k, .slice a buf.length c] W fun e W' => e = .returned (.bool true) ∧ Fm (fun _ => False) W W' := by
  have h := FnMapMinus_c (k := k) hG hb hc hc2
  have hP : P = Tryz.prog := by unfold P; rfl
  rw [hP] at h
  refine (h.calls Tryz.func3 rfl (by kernel_rfl)).mono ?_
  rintro e W' ⟨v, rfl, rfl, hf⟩
  exact ⟨rfl, hf⟩

theorem lifted (os : Os) (started : os.Started) (H : Type) (enc : TypeId × Value → H) :
    ReturnsInHanded {} Tryz.checked os 3 .any (fun w args => (Rows.fnMapMinusSpec.pre enc Tryz.prog Tryz.f3 [] false w args ∧ laidMetH Tryz.prog Rows.fnMapMinusRow.laid w) ∧ sizedMet enc Tryz.prog Tryz.f3 (OpenSpec.ofChange Rows.fnMapMinusSpec) false w args)
      (Rows.fnMapMinusSpec.post enc Tryz.prog Tryz.f3 false true false false) := by
  refine returnsInHanded_of_calls own started (by kernel_rfl)
    (ChangeSpec.witness_shaped (enc := enc) (C := Tryz.checked) (os := os) (X := fun w _ => laidMetH Tryz.prog Rows.fnMapMinusRow.laid w) false (World.doorLaid Tryz.prog 92 os) #[.int .i64 0, .slice none 0 0] 8 rfl (World.shaped_of_RefB (by kernel_rfl) (by kernel_rfl)) (by kernel_rfl) (by kernel_rfl) (by kernel_rfl) (door_met os _)) ?_
  intro w tape i _ hsh _ hok hpre _
  obtain ⟨_, _, _, fn', hfn', _, _, _, _, hval⟩ := hok
  have e : fn' = Tryz.f3 := Option.some.inj (hfn'.symm.trans Tryz.func3)
  subst e
  obtain ⟨⟨⟨ds, gs, before, hw, hcnd⟩, hx⟩, hz⟩ := hpre
  have hW := DataW.Whole.of_heap (w' := w.forCall tape i) (by rfl) hw
  have hL : laidMetH Tryz.prog Rows.fnMapMinusRow.laid (w.forCall tape i) := laidMetH.of_heap (by rfl) hx
  clear hcnd hz hx hw
  generalize w.forCall tape i = W at *
  generalize i.args = args at *
  generalize w.heap.size = base at *
  obtain ⟨be, hG⟩ := gb_of_laid hsh hL
  clear hL hsh
  have hW' := hW
  obtain ⟨p, q, hA0, hV, rfl, hfz, hnd⟩ := hW
  have hA : DataW.TrodAll enc Tryz.prog W 0 (fun _ => true) true Tryz.f3.params.toList args.toList ds p := hA0
  have hval' : ∀ (j : Nat) t v, Tryz.f3.params[j]? = some t → args[j]? = some v → Value.okWide Tryz.prog W .any base t v := hval
  clear hA0 hval
  rw [Tryz.params3] at hA hval'
  obtain ⟨v0, v1, d0, d1, p0, p1, rfl, rfl, rfl, h0, h1⟩ := trodAll_two hA
  have h0k := h0
  have h1k := h1
  have hlt := hW'.lt
  have hgs := vars_len _ _ _ hV
  obtain ⟨g1, g2, g3, g4, g5, g6, rfl⟩ := six hgs
  obtain ⟨k, rfl, -, -, wk⟩ := open_int Tryz.underlying3 (hval' 0 3 v0 rfl rfl) h0
  obtain ⟨a0, len, cap, rfl⟩ := okWide_slice Tryz.underlying22 (hval' 1 22 v1 rfl rfl)
  have fin : ∀ {W' : World}, Fm (fun _ => False) W W' → Rows.fnMapMinusSpec.post enc Tryz.prog Tryz.f3 false true false false W #[.int .i64 k, .slice a0 len cap] (.bool true) W' := by
    intro W' hf
    have hb : Below W.heap.size W W' := ⟨hf.os, hf.tape, hf.output, hf.size, fun i hi => hf.keep i hi (fun h => h)⟩
    refine ⟨_, _, _, [], p0 ++ p1, q, hW', ?_, ?_, ?_, hb.frame _, fun h => by cases h⟩
    · exact trodAll_mk1 (shut_bool Tryz.underlying4 true)
    · exact trodAll_mk2 (Below.trod laidOut (by kernel_rfl) (of_decide_eq_true (by kernel_rfl)) h0k hb (fun x hx => hlt x (by simp [hx]))) (Below.trod laidOut (by kernel_rfl) (of_decide_eq_true (by kernel_rfl)) h1k hb (fun x hx => hlt x (by simp [hx])))
    · exact vars_stay laidOut hb _ _ _ vars_named hV
  suffices hS : ∃ buf : List Nat, buf.length = len ∧ Sb W a0 buf ∧ len ≤ cap ∧ cap < 9223372036854775808 by
    obtain ⟨buf, rfl, hb, hc, hc2⟩ := hS
    refine (law_calls hG hb hc hc2).mono ?_
    rintro e W' ⟨rfl, hf⟩
    exact ChangeSpec.post_blind (fin hf)
  obtain ⟨fuel, hf⟩ := h1
  rcases open_ints Tryz.underlying22 Tryz.underlying5 c5 hf with ⟨hcs, hx⟩ | ⟨a, len', cap', zs, hcs, _, hl, hm, hz, hx, hcell, hwz⟩
  · have hcs' : [Value.slice a0 len cap] = [Value.slice none 0 0] := hcs
    simp only [List.cons.injEq, Value.slice.injEq, and_true] at hcs'
    obtain ⟨rfl, rfl, rfl⟩ := hcs'
    exact ⟨[], rfl, ⟨fun h => absurd rfl h⟩, Nat.le_refl _, by omega⟩
  · have hcs' : [Value.slice a0 len cap] = [Value.slice (some a) len' cap'] := hcs
    simp only [List.cons.injEq, Value.slice.injEq, and_true] at hcs'
    obtain ⟨rfl, rfl, rfl⟩ := hcs'
    simp only [if_true] at hz
    have hwz' : ∀ z ∈ zs, 0 ≤ z ∧ z < 256 := fun z hz => by
      have := hwz z hz
      simp only [Lit.wf, Bool.and_eq_true, decide_eq_true_eq] at this
      have h1 : IntKind.u8.min = 0 := rfl
      have h2 : IntKind.u8.max = 255 := rfl
      rw [h1, h2] at this
      omega
    have hm' : cap ≤ 2 ^ 63 - 1 := hm
    refine ⟨(zs.take len).map Int.toNat, by simp; omega, sb_of ?_ ?_, hl, by omega⟩
    · intro x hx
      obtain ⟨z, hz1, rfl⟩ := List.mem_map.1 hx
      have := hwz' z (List.mem_of_mem_take hz1)
      omega
    · intro _
      refine ⟨a, rfl, fun i hi => ?_⟩
      simp only [List.length_map, List.length_take] at hi
      rw [hcell i (by omega)]
      have hi2 : i < zs.length := by omega
      have := hwz' zs[i] (List.getElem_mem hi2)
      have e1 : zs.getD i 0 = zs[i] := by simp [List.getD, List.getElem?_eq_getElem hi2]
      have e2 : dg ((zs.take len).map Int.toNat) i = zs[i].toNat := by
        unfold dg
        simp [List.getD, List.getElem?_take_of_lt (show i < len by omega), List.getElem?_eq_getElem hi2]
      rw [e1, e2]
      show some (Value.int .u8 zs[i]) = some (Value.int .u8 ((zs[i].toNat : Nat) : Int))
      rw [Int.toNat_of_nonneg this.1]

theorem law_holds : Rows.FnMapMinusSaid :=
  OpenClaim.holds_of_wide 3 Tryz.f3 rfl rfl rfl rfl rfl rfl rfl ⟨rfl, rfl, rfl, rfl, rfl⟩ rfl rfl rfl rfl rfl (by kernel_rfl) Tryz.func3 (by kernel_rfl)
    (of_decide_eq_true (by kernel_rfl)) (by unfold Func.isWrapper; rw [if_neg (of_decide_eq_false (by kernel_rfl))]; exact ⟨rfl, rfl⟩)
    (fun os started H enc _ => lifted os started H enc)

/-- The tied card. -/
theorem fnMapMinus_holds : Rows.FnMapMinusCardSaid :=
  Claim7.holds_tied_plain_at .later [] [.data, .data, .sentinel, .sentinel, .sentinel, .data, .data, .data, .data] true (true, "482d9731f3e16f2fa888ff178a4ae7a05dacff53a39a9944440e4287434da94f") true
    law_holds (fun _ h => by cases h) (by kernel_rfl) (fun _ h => by cases h) fnMapMinus_row_tie rfl ⟨rfl, rfl⟩ (by kernel_rfl) rfl
    (fun f fn hf hfn => by
      obtain rfl : f = 3 := Option.some.inj ((show Tryz.prog.funcNamed "loop.example/pub-pointsofhashes/laws.FnMapMinus" = some 3 by kernel_rfl).symm.trans hf) |>.symm
      obtain rfl : fn = Tryz.f3 := (Option.some.inj (Tryz.func3.symm.trans hfn)).symm
      exact ⟨by kernel_rfl, fun j t ht => by
        rw [Tryz.params3] at ht
        have hm : t ∈ [3, 22] := by simpa using Array.mem_of_getElem? ht
        have hall : ([3, 22].all fun u => !Tryz.prog.wantsStandIn u) = true := by kernel_rfl
        exact (show Tryz.prog.wantsStandIn t = false by simpa using List.all_eq_true.1 hall t hm)⟩)
    (by kernel_rfl)
#print axioms fnMapMinus_holds

end Go.Proofs.YthahnloabllniaaGreatDoor
end
