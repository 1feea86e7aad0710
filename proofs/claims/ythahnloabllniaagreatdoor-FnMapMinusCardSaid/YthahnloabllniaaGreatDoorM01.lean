/- Verification conditions over the model's programs: frames that are known in part; what an operation leaves to be shown. -/
import Derived.OrdersHeld
import Derived.Tactics
import Derived.Defers
import Derived.KernelRfl
import Derived.Laws.Sem
import Derived.Laws.World
import Derived.Deep.LoopGhost
section
namespace Go.Vc

/-- What is known of a frame: slots with their values, and the deferred calls. -/
structure Fr where
  s : List (Nat × Value)
  d : List Deferred

def look : List (Nat × Value) → Nat → Option Value
  | [], _ => none
  | (j, v) :: r, i => bif Nat.beq j i then some v else look r i

def Fr.put (K : Fr) (dst : Option Tmp) (v : Value) : Fr :=
  match dst with
  | some d => ⟨(d, v) :: K.s, K.d⟩
  | none => K

structure Rep (n : Nat) (a : Act) (K : Fr) : Prop where
  defers : a.defers = K.d
  size : a.tmps.size = n
  get : ∀ i v, look K.s i = some v → a.tmps[i]? = some v

def evO (K : Fr) : Operand → Option Value
  | .tmp t => look K.s t
  | .const v => some v
  | .global g => some (.pointer (some ⟨g, 0, none⟩))
  | .func f => some (.func (.func f) #[] #[])

theorem Rep.ev {n : Nat} {a : Act} {K : Fr} (h : Rep n a K) {x : Operand} {v : Value} (hx : evO K x = some v) : a.eval x = v := by
  cases x with
  | tmp t => have := h.get t v hx; simp [Act.eval, this]
  | const u => simp [evO] at hx; simp [Act.eval, hx]
  | global g => simp [evO] at hx; simp [Act.eval, hx]
  | func f => simp [evO] at hx; simp [Act.eval, hx]

def evL (K : Fr) : List Operand → Option (List Value)
  | [] => some []
  | x :: r => match evO K x, evL K r with
    | some v, some vs => some (v :: vs)
    | _, _ => none

theorem evL_map {K : Fr} {ρ : Operand → Value} (h : ∀ x v, evO K x = some v → ρ x = v) : ∀ (l : List Operand) (vs : List Value), evL K l = some vs → l.map ρ = vs
  | [], vs, e => by simp [evL] at e; simp [e]
  | x :: r, vs, e => by
    simp only [evL] at e
    cases hx : evO K x with
    | none => simp [hx] at e
    | some v =>
      cases hr : evL K r with
      | none => simp [hx, hr] at e
      | some us => simp [hx, hr] at e; subst e; simp [h x v hx, evL_map h r us hr]

theorem evA_map {K : Fr} {ρ : Operand → Value} (h : ∀ x v, evO K x = some v → ρ x = v) (xs : Array Operand) (vs : List Value) (e : evL K xs.toList = some vs) : xs.map ρ = vs.toArray := by
  have := evL_map h xs.toList vs e
  rw [← this]
  exact Array.toList_inj.1 (by simp)

theorem Rep.put {n : Nat} {a : Act} {K : Fr} (h : Rep n a K) (dst : Option Tmp) (hd : ∀ d, dst = some d → d < n) (v : Value) : Rep n (a.put dst v) (K.put dst v) := by
  cases dst with
  | none => exact h
  | some d =>
    refine ⟨h.defers, by simp [Act.put, h.size], fun i u hi => ?_⟩
    simp only [Fr.put, look] at hi
    simp only [Act.put]
    by_cases hdi : d = i
    · subst hdi
      have : Nat.beq d d = true := Nat.beq_refl d
      rw [this] at hi
      simp at hi
      subst hi
      have := h.size
      have := hd d rfl
      simp [*]
    · have : Nat.beq d i = false := by
        cases hb : Nat.beq d i
        · rfl
        · exact absurd (Nat.eq_of_beq_eq_true hb) hdi
      rw [this] at hi
      simp at hi
      rw [Array.getElem?_setIfInBounds_ne hdi]
      exact h.get i u hi

theorem Rep.known {n : Nat} {a : Act} {K : Fr} (h : Rep n a K) : ∀ x v, evO K x = some v → a.eval x = v := fun _ _ e => h.ev e

/-- Whole numbers: what '+', '<' and the like come to, where nothing panics. -/
def bitV (op : BinOp) (k : IntKind) (x y : Int) : Int :=
  let a := BitVec.ofInt k.bits x
  let b := BitVec.ofInt k.bits y
  match op with
  | .and => k.wrap (a &&& b).toNat
  | .or => k.wrap (a ||| b).toNat
  | .xor => k.wrap (a ^^^ b).toNat
  | _ => k.wrap (a &&& ~~~b).toNat

def binV (op : BinOp) (k k' : IntKind) (x y : Int) : Option Value :=
  match op with
  | .shl => if y < 0 then none else some (.int k (k.wrap (x * 2 ^ min y.toNat k.bits)))
  | .shr => if y < 0 then none else some (.int k (x.fdiv (2 ^ min y.toNat k.bits)))
  | op => if k ≠ k' then none else match op with
    | .add => some (.int k (k.wrap (x + y)))
    | .sub => some (.int k (k.wrap (x - y)))
    | .mul => some (.int k (k.wrap (x * y)))
    | .quo => if y = 0 then none else some (.int k (k.wrap (x.tdiv y)))
    | .rem => if y = 0 then none else some (.int k (x.tmod y))
    | .eql => some (.bool (x == y))
    | .neq => some (.bool (x != y))
    | .lss => some (.bool (decide (x < y)))
    | .leq => some (.bool (decide (x ≤ y)))
    | .gtr => some (.bool (decide (x > y)))
    | .geq => some (.bool (decide (x ≥ y)))
    | op => some (.int k (bitV op k x y))

theorem binV_run {P : Program} {op : BinOp} {k k' : IntKind} {x y : Int} {v : Value} (t : TypeId) (w : World) (h : binV op k k' x y = some v) :
    (binOp op t (.int k x) (.int k' y)).run P w = .ok v w := by
  by_cases hk : k = k'
  · subst hk
    cases op <;> simp only [binV, ne_eq, not_true, if_false] at h <;>
      first
      | (simp only [Option.some.injEq] at h; subst h; simp [binOp, Op.intArith, Op.intBits, Op.intCmp, pure, bitV]; done)
      | (split at h
         · cases h
         · rename_i hy; simp only [Option.some.injEq] at h; subst h; simp [binOp, Op.shift, Op.intDiv, hy, pure])
  · cases op <;> simp only [binV, ne_eq, hk, not_false_eq_true, if_true, reduceCtorEq] at h <;>
      (split at h
       · cases h
       · rename_i hy; simp only [Option.some.injEq] at h; subst h; simp [binOp, Op.shift, hy, pure])


/-- What an operation is, its operands read. -/
inductive OS where
  | v (x : Value)
  | b (op : BinOp) (k k' : IntKind) (x y : Int)
  | s (m : Sem Value)
  | u (m : Sem Unit)
  | c (f : FuncId) (args : List Value)
  | m (t : TypeId) (x : Value) (name : String) (args : List Value)
  | n (m : Sem Next)
  | df (d : Deferred)

def semV (m : Sem Value) : Sem Next := do pure (.value (← m))
def semU (m : Sem Unit) : Sem Next := do m; pure .skip

/-- The operation's operands as they are known ('undef' elsewhere). -/
def evD (K : Fr) (x : Operand) : Value := (evO K x).getD undef

def allKnown (K : Fr) : List Operand → Bool
  | [] => true
  | x :: r => match evO K x with
    | some _ => allKnown K r
    | none => false

def noSel (o : Oper) : Bool := match o.op with | .select .. => false | _ => true

def opS (K : Fr) (o : Oper) : Option OS :=
  match o.op with
  | .move x | .assign x => match evO K x with
    | some v => some (.v v)
    | none => none
  | .pick c a b => match evO K c, evO K a, evO K b with
    | some (.bool t), some va, some vb => some (.v (bif t then va else vb))
    | _, _, _ => none
  | .nilCheck x => match evO K x with
    | some (.pointer (some a)) => some (.v (.pointer (some a)))
    | some v => some (.n (execOp (fun _ => v) o))
    | none => none
  | .alloc elem => some (.s (Instr.alloc elem true (.tuple #[])))
  | .box elem x => match evO K x with
    | some v => some (.s (Instr.box elem v))
    | none => none
  | .build t parts => match evL K (parts.toList.map (·.2)) with
    | some vs => some (.s (Instr.build t ((parts.toList.map (·.1)).zip vs).toArray))
    | none => none
  | .buildSlice t len parts => match evL K (parts.toList.map (·.2)) with
    | some vs => some (.s (Instr.buildSlice t len ((parts.toList.map (·.1)).zip vs).toArray))
    | none => none
  | .load t x => match evO K x with
    | some v => some (.s (Instr.loadAt t v))
    | none => none
  | .store t x y => match evO K x, evO K y with
    | some v, some u => some (.u (Instr.storeAt t v u))
    | _, _ => none
  | .binOp op t x y _ => match evO K x, evO K y with
    | some (.int k a), some (.int k' b) => some (.b op k k' a b)
    | some u, some v => some (.s (do eqGuard op t x y u v; binOp op t u v))
    | _, _ => none
  | .unOp op _ x => match evO K x with
    | some (.bool b) => match op with
      | .not => some (.v (.bool (!b)))
      | op => some (.s (Op.unary op (.bool b)))
    | some v => some (.s (Op.unary op v))
    | none => none
  | .convert src dst x => match evO K x with
    | some v => some (.s (convert src dst v))
    | none => none
  | .makeInterface t x => match evO K x with
    | some v => some (.s (Instr.makeInterface t v))
    | none => none
  | .makeFunc fn first captured => match evL K first.toList, evL K captured.toList with
    | some us, some vs => some (.v (.func fn us.toArray vs.toArray))
    | _, _ => none
  | .makeSlice t l c => match evO K l, evO K c with
    | some u, some v => some (.s (Instr.makeSlice t u v))
    | _, _ => none
  | .slice t x lo hi none => match evO K x with
    | some v => match lo, hi with
      | none, none => some (.s (Instr.sliceAt t v none none none))
      | some l, none => match evO K l with
        | some l => some (.s (Instr.sliceAt t v (some l) none none))
        | none => none
      | none, some h => match evO K h with
        | some h => some (.s (Instr.sliceAt t v none (some h) none))
        | none => none
      | some l, some h => match evO K l, evO K h with
        | some l, some h => some (.s (Instr.sliceAt t v (some l) (some h) none))
        | _, _ => none
    | none => none
  | .fieldAddr s x f => match evO K x with
    | some v => some (.s (Instr.fieldAt s v f))
    | none => none
  | .field s x f => match evO K x with
    | some v => some (.s (Instr.field s v f))
    | none => none
  | .indexAddr t x i => match evO K x, evO K i with
    | some v, some i => some (.s (Instr.indexAt t v i))
    | _, _ => none
  | .index t x i => match evO K x, evO K i with
    | some v, some i => some (.s (Instr.index t v i))
    | _, _ => none
  | .typeAssert x t u ok => match evO K x with
    | some v => some (.s (Instr.typeAssert v t u ok))
    | none => none
  | .extract x i => match evO K x with
    | some (.tuple vs) => match vs[i]? with
      | some v => some (.v v)
      | none => none
    | _ => none
  | .call ⟨.value f, args, _⟩ => match evO K f, evL K args.toList with
    | some (.func (.func g) first captured), some vs => some (.c g (first.toList ++ (vs ++ captured.toList)))
    | some (.func (.method name) first _), some vs => match first.toList ++ vs with
      | .iface t x :: r => some (.m t x name r)
      | _ => none
    | _, _ => none
  | .call ⟨.invoke r name, args, _⟩ => match evO K r, evL K args.toList with
    | some (.iface t x), some vs => some (.m t x name vs)
    | _, _ => none
  | .call ⟨.builtin b, args, tys⟩ => match evL K args.toList with
    | some vs => some (.n (builtin b tys o.type (args.map fun | .const _ => true | _ => false) vs.toArray))
    | none => none
  | .defer ⟨.value f, args, _⟩ => match evO K f, evL K args.toList with
    | some (.func fn first captured), some vs => some (.df { target := .fn fn captured, args := first ++ vs.toArray })
    | _, _ => none
  | .panic x => match evO K x with
    | some v => some (.s (Instr.panic v))
    | none => none
  | op => bif noSel o && allKnown K op.operands.toList then some (.n (execOp (evD K) o)) else none

def OS.sem : OS → Sem Next
  | .v x => pure (.value x)
  | .b op k k' x y => semV (binOp op 0 (.int k x) (.int k' y))
  | .s q => semV q
  | .u q => semU q
  | .c f args => callFunc f args.toArray
  | .m t x name args => callMethod (.iface t x) name args.toArray
  | .n q => q
  | .df d => pure (.defer d)

theorem binOp_int (op : BinOp) (t u : TypeId) (k k' : IntKind) (x y : Int) : binOp op t (.int k x) (.int k' y) = binOp op u (.int k x) (.int k' y) := by
  cases op <;> rfl

theorem eqGuard_int (op : BinOp) (t : TypeId) (x y : Operand) (k k' : IntKind) (a b : Int) : eqGuard op t x y (.int k a) (.int k' b) = pure () := by
  cases op <;> rfl

theorem bind_pure_unit {α : Type} (m : Sem α) : ((pure () : Sem Unit) >>= fun _ => m) = m := rfl

theorem parts_map {ρ : Operand → Value} : ∀ (l : List (Nat × Operand)) (vs : List Value), (l.map (·.2)).map ρ = vs → l.map (fun p => (p.1, ρ p.2)) = (l.map (·.1)).zip vs
  | [], vs, h => by simp
  | p :: r, vs, h => by
    cases vs with
    | nil => simp at h
    | cons v vs => simp at h; simp [h.1]; have := parts_map r vs (by simpa using h.2); simpa using this

theorem allKnown_spec {K : Fr} : ∀ {l : List Operand}, allKnown K l = true → ∀ x ∈ l, ∃ v, evO K x = some v
  | [], _, x, hx => by cases hx
  | y :: r, h, x, hx => by
    simp only [allKnown] at h
    cases hy : evO K y with
    | none => simp [hy] at h
    | some v =>
      simp only [hy] at h
      rcases List.mem_cons.1 hx with rfl | hx
      · exact ⟨v, hy⟩
      · exact allKnown_spec h x hx

theorem opS_sound {K : Fr} {ρ : Operand → Value} (hρ : ∀ x v, evO K x = some v → ρ x = v) (o : Oper) (os : OS) (h : opS K o = some os) : execOp ρ o = os.sem := by
  obtain ⟨dst, op, type, pos, after, guard⟩ := o
  cases op with
  | move x =>
    simp only [opS] at h; split at h <;> simp at h; subst h; rename_i v hv; simp [execOp, OS.sem, hρ x v hv]
  | assign x =>
    simp only [opS] at h; split at h <;> simp at h; subst h; rename_i v hv; simp [execOp, OS.sem, hρ x v hv]
  | pick c a b =>
    simp only [opS] at h; split at h <;> simp at h; subst h; rename_i t va vb h1 h2 h3
    simp only [execOp, OS.sem, hρ _ _ h1, hρ _ _ h2, hρ _ _ h3]
    cases t <;> rfl
  | nilCheck x =>
    simp only [opS] at h; split at h <;> simp at h <;> subst h
    · rename_i a h1; simp [execOp, OS.sem, hρ _ _ h1]
    · rename_i v _ h1; simp only [execOp, OS.sem, hρ _ _ h1]
  | alloc e => simp only [opS] at h; simp at h; subst h; rfl
  | box e x => simp only [opS] at h; split at h <;> simp at h; subst h; rename_i v hv; simp only [execOp, OS.sem, hρ x v hv]; rfl
  | build t parts =>
    simp only [opS] at h; split at h <;> simp at h; subst h; rename_i vs hv
    have h2 := evL_map hρ _ _ hv
    have h3 := parts_map parts.toList vs h2
    simp only [execOp, OS.sem]
    have h4 : (parts.map fun x => (x.fst, ρ x.snd)) = ((parts.toList.map (·.1)).zip vs).toArray := by rw [← h3]; exact Array.toList_inj.1 (by simp)
    rw [h4]; rfl
  | buildSlice t n parts =>
    simp only [opS] at h; split at h <;> simp at h; subst h; rename_i vs hv
    have h2 := evL_map hρ _ _ hv
    have h3 := parts_map parts.toList vs h2
    simp only [execOp, OS.sem]
    have h4 : (parts.map fun x => (x.fst, ρ x.snd)) = ((parts.toList.map (·.1)).zip vs).toArray := by rw [← h3]; exact Array.toList_inj.1 (by simp)
    rw [h4]; rfl
  | load t x => simp only [opS] at h; split at h <;> simp at h; subst h; rename_i v hv; simp only [execOp, OS.sem, hρ x v hv]; rfl
  | store t x y =>
    simp only [opS] at h; split at h <;> simp at h; subst h; rename_i v u h1 h2; simp only [execOp, OS.sem, hρ _ _ h1, hρ _ _ h2]; rfl
  | binOp op t x y t' =>
    simp only [opS] at h; split at h <;> simp at h <;> subst h
    · rename_i k a k' b h1 h2
      simp only [execOp, OS.sem, hρ _ _ h1, hρ _ _ h2, eqGuard_int, binOp_int op t 0]; rfl
    · rename_i u v _ h1 h2
      simp only [execOp, OS.sem, hρ _ _ h1, hρ _ _ h2]; rfl
  | unOp op t x =>
    simp only [opS] at h; split at h
    · rename_i b h1
      split at h <;> simp at h <;> subst h
      · simp only [execOp, OS.sem, hρ _ _ h1]; rfl
      · simp only [execOp, OS.sem, hρ _ _ h1]; rfl
    · rename_i v _ h1; simp at h; subst h; simp only [execOp, OS.sem, hρ _ _ h1]; rfl
    · simp at h
  | convert s d x => simp only [opS] at h; split at h <;> simp at h; subst h; rename_i v hv; simp only [execOp, OS.sem, hρ x v hv]; rfl
  | makeInterface t x => simp only [opS] at h; split at h <;> simp at h; subst h; rename_i v hv; simp only [execOp, OS.sem, hρ x v hv]; rfl
  | makeFunc fn first captured =>
    simp only [opS] at h; split at h <;> simp at h; subst h; rename_i us vs h1 h2
    simp only [execOp, OS.sem, evA_map hρ _ _ h1, evA_map hρ _ _ h2]; rfl
  | makeSlice t l c =>
    simp only [opS] at h; split at h <;> simp at h; subst h; rename_i v u h1 h2; simp only [execOp, OS.sem, hρ _ _ h1, hρ _ _ h2]; rfl
  | slice t x lo hi mx =>
    cases mx with
    | none =>
      cases lo with
      | none =>
        cases hi with
        | none => simp only [opS] at h; split at h <;> simp at h; subst h; rename_i v h1; simp only [execOp, OS.sem, hρ _ _ h1]; rfl
        | some q =>
          simp only [opS] at h; split at h <;> try simp at h
          split at h <;> simp at h; subst h; rename_i h1 _ u h2; simp only [execOp, OS.sem, hρ _ _ h1, hρ _ _ h2, Option.map]; rfl
      | some p =>
        cases hi with
        | none =>
          simp only [opS] at h; split at h <;> try simp at h
          split at h <;> simp at h; subst h; rename_i h1 _ u h2; simp only [execOp, OS.sem, hρ _ _ h1, hρ _ _ h2, Option.map]; rfl
        | some q =>
          simp only [opS] at h; split at h <;> try simp at h
          split at h <;> simp at h; subst h; rename_i h1 _ _ u r h2 h3; simp only [execOp, OS.sem, hρ _ _ h1, hρ _ _ h2, hρ _ _ h3, Option.map]; rfl
    | some m =>
      simp only [opS] at h
      cases hb : (noSel ⟨dst, .slice t x lo hi (some m), type, pos, after, guard⟩ && allKnown K (Op.slice t x lo hi (some m)).operands.toList) with
      | false => simp [hb] at h
      | true =>
        simp only [hb, cond_true, Option.some.injEq] at h; subst h
        simp only [Bool.and_eq_true] at hb
        refine execOp_congr (ρ' := evD K) _ (fun cs b => by simp) fun x hx => ?_
        obtain ⟨v, hv⟩ := allKnown_spec hb.2 x (by simpa using hx)
        simp [evD, hv, hρ x v hv]
  | fieldAddr s x f => simp only [opS] at h; split at h <;> simp at h; subst h; rename_i v hv; simp only [execOp, OS.sem, hρ x v hv]; rfl
  | field s x f => simp only [opS] at h; split at h <;> simp at h; subst h; rename_i v hv; simp only [execOp, OS.sem, hρ x v hv]; rfl
  | indexAddr t x i =>
    simp only [opS] at h; split at h <;> simp at h; subst h; rename_i v u h1 h2; simp only [execOp, OS.sem, hρ _ _ h1, hρ _ _ h2]; rfl
  | index t x i =>
    simp only [opS] at h; split at h <;> simp at h; subst h; rename_i v u h1 h2; simp only [execOp, OS.sem, hρ _ _ h1, hρ _ _ h2]; rfl
  | typeAssert x t u ok => simp only [opS] at h; split at h <;> simp at h; subst h; rename_i v hv; simp only [execOp, OS.sem, hρ x v hv]; rfl
  | extract x i =>
    simp only [opS] at h; split at h <;> try simp at h
    split at h <;> simp at h; subst h; rename_i vs h1 _ v h2
    simp only [execOp, OS.sem, hρ _ _ h1, Instr.extract, h2]; rfl
  | call c =>
    obtain ⟨callee, args, tys⟩ := c
    cases callee with
    | value f =>
      simp only [opS] at h; split at h
      · simp only [Option.some.injEq] at h; subst h; rename_i g first captured vs h1 h2
        simp only [execOp, OS.sem, resolve, hρ _ _ h1, evA_map hρ _ _ h2, Deferred.ofValue]
        have h4 : (first.toList ++ (vs ++ captured.toList)).toArray = (first ++ vs.toArray) ++ captured := Array.toList_inj.1 (by simp)
        rw [h4]
        rfl
      · rename_i name first cap vs h1 h2
        split at h <;> simp only [Option.some.injEq, reduceCtorEq] at h; subst h; rename_i t x r h3
        simp only [execOp, OS.sem, resolve, hρ _ _ h1, evA_map hρ _ _ h2, Deferred.ofValue]
        have h4 : first ++ vs.toArray = (Value.iface t x :: r).toArray := by rw [← h3]; exact Array.toList_inj.1 (by simp)
        rw [h4]
        have h5 : ((Value.iface t x :: r).toArray).extract 1 ((Value.iface t x :: r).toArray).size = r.toArray := Array.toList_inj.1 (by simp)
        show callMethod (.iface t x) name (((Value.iface t x :: r).toArray).extract 1 ((Value.iface t x :: r).toArray).size) = _
        rw [h5]
      · simp at h
    | invoke r name =>
      simp only [opS] at h; split at h <;> simp only [Option.some.injEq, reduceCtorEq] at h; subst h; rename_i t x vs h1 h2
      simp only [execOp, OS.sem, resolve, hρ _ _ h1, evA_map hρ _ _ h2]
      have h5 : (#[Value.iface t x] ++ vs.toArray).extract 1 (#[Value.iface t x] ++ vs.toArray).size = vs.toArray := Array.toList_inj.1 (by simp)
      have h6 : (#[Value.iface t x] ++ vs.toArray)[0]? = some (Value.iface t x) := by simp
      show (match (#[Value.iface t x] ++ vs.toArray)[0]? with | some recv => callMethod recv name ((#[Value.iface t x] ++ vs.toArray).extract 1 (#[Value.iface t x] ++ vs.toArray).size) | _ => stuck "call: a method without a receiver") = _
      rw [h5, h6]
    | builtin b =>
      simp only [opS] at h; split at h <;> simp only [Option.some.injEq, reduceCtorEq] at h; subst h; rename_i vs h2
      simp only [execOp, OS.sem, resolve, evA_map hρ _ _ h2]
      rfl
  | defer c =>
    obtain ⟨callee, args, tys⟩ := c
    cases callee with
    | value f =>
      simp only [opS] at h; split at h <;> simp only [Option.some.injEq, reduceCtorEq] at h; subst h; rename_i fn first captured vs h1 h2
      simp only [execOp, OS.sem, resolve, hρ _ _ h1, evA_map hρ _ _ h2, Deferred.ofValue]
      rfl
    | _ =>
      simp only [opS] at h
      rw [Bool.cond_eq_ite] at h
      split at h
      · rename_i hb
        simp only [Option.some.injEq] at h; subst h
        simp only [Bool.and_eq_true] at hb
        refine execOp_congr (ρ' := evD K) _ (fun cs b => by simp) fun x hx => ?_
        obtain ⟨v, hv⟩ := allKnown_spec hb.2 x (by simpa using hx)
        simp [evD, hv, hρ x v hv]
      · simp at h
  | panic x => simp only [opS] at h; split at h <;> simp at h; subst h; rename_i v hv; simp only [execOp, OS.sem, hρ x v hv]; rfl
  | select cs b => simp [opS, noSel] at h
  | _ =>
    simp only [opS] at h
    rw [Bool.cond_eq_ite] at h
    split at h
    · rename_i hb
      simp only [Option.some.injEq] at h; subst h
      simp only [Bool.and_eq_true] at hb
      refine execOp_congr (ρ' := evD K) _ (fun cs b => by simp) fun x hx => ?_
      obtain ⟨v, hv⟩ := allKnown_spec hb.2 x (by simpa using hx)
      simp [evD, hv, hρ x v hv]
    · simp at h


/-! ### What an operation leaves to be shown -/

/-- A call of a Go function: of one with a body, or of one whose answer the model has at hand. -/
def CallX (P : Program) (f : FuncId) (args : Array Value) (w : World) (next : Value → World → Prop) : Prop :=
  (∃ fn c, P.funcs[f]? = some fn ∧ fn.body = some c ∧ (fn.name == "runtime.NumGoroutine") = false ∧
    Calls P f args w fun e w' => ∃ v, e = .returned v ∧ next v w') ∨
  ∃ v w', (callFunc f args).run P w = .ok (.value v) w' ∧ next v w'

theorem CallX.mono {P : Program} {f : FuncId} {args : Array Value} {w : World} {A B : Value → World → Prop} (h : CallX P f args w A)
    (hab : ∀ v w', A v w' → B v w') : CallX P f args w B := by
  rcases h with ⟨fn, c, h1, h2, h3, h4⟩ | ⟨v, w', h1, h2⟩
  · exact .inl ⟨fn, c, h1, h2, h3, h4.mono fun e w' ⟨v, he, hn⟩ => ⟨v, he, hab v w' hn⟩⟩
  · exact .inr ⟨v, w', h1, hab v w' h2⟩

def hasBody (P : Program) (f : FuncId) : Bool :=
  match P.funcs[f]? with
  | some fn => fn.body.isSome && !(fn.name == "runtime.NumGoroutine")
  | none => false

theorem CallX.of_calls {P : Program} {f : FuncId} {args : Array Value} {w : World} {A : Value → World → Prop} (hb : hasBody P f = true)
    (h : Calls P f args w fun e w' => ∃ v, e = .returned v ∧ A v w') : CallX P f args w A := by
  unfold hasBody at hb
  split at hb
  · rename_i fn hf
    simp only [Bool.and_eq_true, Bool.not_eq_true'] at hb
    obtain ⟨c, hc⟩ := Option.isSome_iff_exists.1 hb.1
    exact .inl ⟨fn, c, hf, hc, hb.2, h⟩
  · cases hb

def vop (P : Program) (K : Fr) (dst : Option Tmp) (w : World) (next : Fr → World → Prop) : OS → Prop
  | .v x => next (K.put dst x) w
  | .b op k k' x y => ∃ v, binV op k k' x y = some v ∧ next (K.put dst v) w
  | .s q => ∃ v w', q.run P w = .ok v w' ∧ next (K.put dst v) w'
  | .u q => ∃ w', q.run P w = .ok () w' ∧ next (K.put dst undef) w'
  | .c f args => CallX P f args.toArray w fun v w' => next (K.put dst v) w'
  | .m t x name args => ∃ f r, (method (P.types.size + Made.depth) t x name).run P w = .ok (f, r) w ∧
      CallX P f (r :: args).toArray w fun v w' => next (K.put dst v) w'
  | .n q => ∃ v w', q.run P w = .ok (.value v) w' ∧ next (K.put dst v) w'
  | .df d => next ⟨(K.put dst undef).s, d :: K.d⟩ w

theorem upon_callX {P : Program} {n : Nat} {o : Oper} {a : Act} {K : Fr} {w : World} {f : FuncId} {args : Array Value} {next : Fr → World → Prop}
    {KK : Act → World → Prop} {Q : Exit → Act → World → Prop} (hr : Rep n a K) (hd : ∀ d, o.dst = some d → d < n)
    (hk : ∀ a' K' w', Rep n a' K' → next K' w' → KK a' w') (h : CallX P f args w fun v w' => next (K.put o.dst v) w') :
    o.upon P a KK Q ((callFunc f args).run P w) := by
  rcases h with ⟨fn, c, h1, h2, h3, h4⟩ | ⟨v, w', h1, h2⟩
  · have : (callFunc f args).run P w = .ok (.enter f args) w := by
      simp only [callFunc, Sem.run_bind, program, Sem.run, Result.andThen_ok, h1, h3, h2, Option.isNone_some, Bool.false_eq_true, if_false]
      rfl
    rw [this]
    simp only [Oper.upon]
    refine h4.mono fun e w' ⟨v, he, hn⟩ => ?_
    subst he
    exact hk _ _ _ (hr.put o.dst hd v) hn
  · rw [h1]
    exact hk _ _ _ (hr.put o.dst hd v) h2

theorem vop_sound {P : Program} {n : Nat} {o : Oper} {os : OS} {a : Act} {K : Fr} {w : World} {next : Fr → World → Prop}
    {KK : Act → World → Prop} {Q : Exit → Act → World → Prop} (ho : opS K o = some os) (hr : Rep n a K) (hd : ∀ d, o.dst = some d → d < n)
    (hk : ∀ a' K' w', Rep n a' K' → next K' w' → KK a' w') (h : vop P K o.dst w next os) : o.wp P a w KK Q := by
  unfold Oper.wp
  rw [opS_sound hr.known o os ho]
  cases os with
  | v x => exact hk _ _ _ (hr.put o.dst hd x) h
  | b op k k' x y =>
    obtain ⟨v, hv, hn⟩ := h
    have : (OS.sem (.b op k k' x y)).run P w = .ok (.value v) w := by
      simp only [OS.sem, semV, Sem.run_bind, binV_run 0 w hv, Result.andThen_ok]; rfl
    rw [this]
    exact hk _ _ _ (hr.put o.dst hd v) hn
  | s q =>
    obtain ⟨v, w', hv, hn⟩ := h
    have : (OS.sem (.s q)).run P w = .ok (.value v) w' := by simp only [OS.sem, semV, Sem.run_bind, hv, Result.andThen_ok]; rfl
    rw [this]
    exact hk _ _ _ (hr.put o.dst hd v) hn
  | u q =>
    obtain ⟨w', hv, hn⟩ := h
    have : (OS.sem (.u q)).run P w = .ok .skip w' := by simp only [OS.sem, semU, Sem.run_bind, hv, Result.andThen_ok]; rfl
    rw [this]
    exact hk _ _ _ (hr.put o.dst hd undef) hn
  | c f args => exact upon_callX hr hd hk h
  | m t x name args =>
    obtain ⟨f, r, hm, hc⟩ := h
    have : (OS.sem (.m t x name args)).run P w = (callFunc f (r :: args).toArray).run P w := by
      have h4 : (r :: args).toArray = #[r] ++ args.toArray := Array.toList_inj.1 (by simp)
      rw [h4]
      simp only [OS.sem, callMethod, Sem.run_bind, program, Sem.run, Result.andThen_ok, hm]
    rw [this]
    exact upon_callX hr hd hk hc
  | n q =>
    obtain ⟨v, w', hv, hn⟩ := h
    have : (OS.sem (.n q)).run P w = .ok (.value v) w' := hv
    rw [this]
    exact hk _ _ _ (hr.put o.dst hd v) hn
  | df d =>
    have hp := hr.put o.dst hd undef
    show KK ({ a with defers := d :: a.defers }.put o.dst undef) w
    refine hk _ ⟨(K.put o.dst undef).s, d :: K.d⟩ _ ⟨?_, ?_, ?_⟩ h
    · cases hdst : o.dst <;> simp [Act.put, hr.defers]
    · cases hdst : o.dst <;> simp [Act.put, hr.size]
    · intro i u hi
      have := hp.get i u hi
      cases hdst : o.dst <;> simp only [Act.put, hdst] at this ⊢ <;> exact this

/-- A guard, where its Bool is known. -/
def grd (K : Fr) (ops : Array Oper) (o : Oper) (yes no : Prop) : Prop :=
  match o.guard with
  | none => yes
  | some (g, want) => match ops[g]? with
    | none => False
    | some og => match og.dst with
      | none => False
      | some t => match look K.s t with
        | some (.bool b) => bif (b == want) then yes else no
        | some (.tuple _) => no
        | _ => False

theorem grd_sound {n : Nat} {a : Act} {K : Fr} {ops : Array Oper} {o : Oper} {yes no : Prop} (hr : Rep n a K) (h : grd K ops o yes no) :
    (Region.wanted o (yielded ops a.tmps) = true ∧ yes) ∨ (Region.wanted o (yielded ops a.tmps) = false ∧ no) := by
  unfold grd at h
  unfold Region.wanted
  split at h
  · rename_i hg; simp only [hg]; exact .inl ⟨trivial, h⟩
  · rename_i g want hg
    simp only [hg]
    split at h
    · exact h.elim
    · rename_i og hog
      split at h
      · exact h.elim
      · rename_i t ht
        split at h
        · rename_i b hb
          have := hr.get t _ hb
          have hy : yielded ops a.tmps g = some b := by simp [yielded, hog, ht, this]
          rw [hy]
          cases hbw : b == want
          · right; rw [hbw] at h; refine ⟨?_, h⟩; cases b <;> cases want <;> simp_all
          · left; rw [hbw] at h; refine ⟨?_, h⟩; cases b <;> cases want <;> simp_all
        · rename_i b hb
          have := hr.get t _ hb
          have hy : yielded ops a.tmps g = none := by simp [yielded, hog, ht, this]
          rw [hy]
          exact .inr ⟨by simp, h⟩
        · exact h.elim

/-- The operations of a region, in the order of the text. -/
def vcl (P : Program) (ops : Array Oper) (Q : Fr → World → Prop) : List Oper → Fr → World → Prop
  | [], K, w => Q K w
  | o :: l, K, w => grd K ops o (match opS K o with
      | none => False
      | some os => vop P K o.dst w (fun K' w' => vcl P ops Q l K' w') os) (vcl P ops Q l (K.put o.dst undef) w)

def dstOk (n : Nat) (o : Oper) : Bool := match o.dst with | some d => decide (d < n) | none => true

theorem dstOk_spec {n : Nat} {o : Oper} (h : dstOk n o = true) : ∀ d, o.dst = some d → d < n := by
  intro d hd; simpa [dstOk, hd] using h

theorem vcl_sound {P : Program} {n : Nat} {ops : Array Oper} {Q : Exit → Act → World → Prop} {q : Fr → World → Prop}
    (hq : ∀ a K w, Rep n a K → q K w → Q .normal a w) : ∀ (l : List Oper), l.all (dstOk n) = true → ∀ (K : Fr) (w : World) (a : Act), Rep n a K → vcl P ops q l K w → wpList P ops Q l a w
  | [], _, K, w, a, hr, h => hq a K w hr h
  | o :: l, hl, K, w, a, hr, h => by
    simp only [List.all_cons, Bool.and_eq_true] at hl
    have hd := dstOk_spec hl.1
    simp only [vcl] at h
    unfold wpList
    rcases grd_sound hr h with ⟨hw, h⟩ | ⟨hw, h⟩
    · rw [if_pos hw]
      split at h
      · exact h.elim
      · rename_i os hos
        exact .inl (vop_sound hos hr hd (fun a' K' w' hr' hn => vcl_sound hq l hl.2 K' w' a' hr' hn) h)
    · rw [if_neg (by simp [hw])]
      exact vcl_sound hq l hl.2 _ w _ (hr.put o.dst hd undef) h


/-! ### A region that draws its order: one order, checked by the kernel, serves all -/

section
variable (P : Program) (ops : Array Oper) (Q : Exit → Act → World → Prop)

/-- Whatever order is picked; 'S' holds behind each operation that is carried out. -/
def wpG (S : Array Bool → World → Prop) : Nat → Array Bool → Act → World → Prop
  | 0, L, a, w => Region.ready .any ops L = [] ∧ Q .normal a w
  | fuel + 1, L, a, w =>
    (Region.ready .any ops L = [] → Q .normal a w) ∧
    ∀ i ∈ Region.ready .any ops L, wpOp P ops Q i (fun a' w' => S (L.setIfInBounds i true) w' ∧ wpG S fuel (L.setIfInBounds i true) a' w') a w

variable {P} {ops} {Q}

theorem wpAny_of_G {S : Array Bool → World → Prop} : ∀ (fuel : Nat) (L : Array Bool) (a : Act) (w : World), wpG P ops Q S fuel L a w → wpAny P .any ops Q fuel L a w
  | 0, _, _, _, h => h
  | fuel + 1, _, _, _, h => ⟨h.1, fun i hi => wpOp_mono (fun a' w' h' => wpAny_of_G fuel _ a' w' h'.2) (h.2 i hi)⟩

theorem wpG_mono {S S' : Array Bool → World → Prop} (hS : ∀ L w, S L w → S' L w) : ∀ (fuel : Nat) (L : Array Bool) (a : Act) (w : World), wpG P ops Q S fuel L a w → wpG P ops Q S' fuel L a w
  | 0, _, _, _, h => h
  | fuel + 1, _, _, _, h => ⟨h.1, fun i hi => wpOp_mono (fun a' w' h' => ⟨hS _ _ h'.1, wpG_mono hS fuel _ a' w' h'.2⟩) (h.2 i hi)⟩

/-- What has been carried out is shut downwards. -/
def Down (ops : Array Oper) (L : Array Bool) : Prop :=
  ∀ j oj, ops[j]? = some oj → L.getD j false = true → ∀ e ∈ oj.after, Region.binds .any e = true → L.getD e.on false = true

theorem getD_ft {L : Array Bool} {j : Nat} (h : L.getD j true = false) : L.getD j false = false := by
  rcases Nat.lt_or_ge j L.size with h' | h'
  · simp [h'] at h ⊢; exact h
  · simp [Array.getElem?_eq_none h']

theorem Down.set {L : Array Bool} {i : Nat} (hD : Down ops L) (hi : i ∈ Region.ready .any ops L) : Down ops (L.setIfInBounds i true) := by
  obtain ⟨h0, oi, hoi, hall⟩ := mem_ready.1 hi
  intro j oj hj hl e he hb
  by_cases hij : i = j
  · subst hij
    rw [hoi] at hj; cases hj
    exact getD_set_true (hall e he hb)
  · rw [getD_set_ne false hij] at hl
    exact getD_set_true (hD j oj hj hl e he hb)

/-- An operation that writes, makes memory or calls. -/
def runOp (o : Oper) : Bool := match o.op with
  | .move _ | .assign _ | .pick .. | .nilCheck _ | .binOp .. | .unOp .. | .convert .. | .fieldAddr .. | .field .. | .indexAddr .. | .index .. | .extract ..
  | .makeInterface .. | .makeFunc .. | .slice .. | .load .. | .build .. | .typeAssert .. => false
  | .call ⟨.builtin .len, _, _⟩ | .call ⟨.builtin .cap, _, _⟩ => false
  | _ => true

def runAt (ops : Array Oper) (i : Nat) : Bool := match ops[i]? with | some o => runOp o | none => false

/-- The operations that must wait for number i, directly or through others. -/
def descStep (i : Nat) (acc : Array Bool) (o : Oper) : Array Bool :=
  acc.push (o.after.any fun e => Region.binds .any e && (e.on == i || acc.getD e.on false))

def descArr (ops : Array Oper) (i : Nat) : Array Bool := ops.toList.foldl (descStep i) #[]

theorem foldl_desc (i : Nat) : ∀ (l : List Oper) (acc : Array Bool), (∀ j, j < acc.size → (l.foldl (descStep i) acc).getD j false = acc.getD j false) ∧
    (l.foldl (descStep i) acc).size = acc.size + l.length
  | [], acc => by simp
  | o :: l, acc => by
    obtain ⟨h1, h2⟩ := foldl_desc i l (descStep i acc o)
    refine ⟨fun j hj => ?_, ?_⟩
    · rw [List.foldl_cons, h1 j (by simp [descStep]; omega)]
      simp only [descStep]
      simp [Array.getElem?_push, Nat.ne_of_lt hj]
    · rw [List.foldl_cons, h2]; simp [descStep]; omega

theorem desc_spec (i : Nat) : ∀ (l : List Oper) (acc : Array Bool) (j : Nat) (o : Oper), l[j]? = some o → (l.foldl (descStep i) acc).getD (acc.size + j) false = true →
    ∃ e ∈ o.after, Region.binds .any e = true ∧ (e.on = i ∨ (e.on < acc.size + j ∧ (l.foldl (descStep i) acc).getD e.on false = true))
  | [], acc, j, o, hj, _ => by simp at hj
  | x :: l, acc, 0, o, hj, h => by
    simp at hj; subst hj
    rw [List.foldl_cons, (foldl_desc i l (descStep i acc x)).1 _ (by simp [descStep])] at h
    simp only [descStep, Nat.add_zero] at h
    have h' : (x.after.any fun e => Region.binds .any e && (e.on == i || acc.getD e.on false)) = true := by simpa using h
    obtain ⟨e, he, hb⟩ := Array.any_eq_true'.1 h'
    simp only [Bool.and_eq_true, Bool.or_eq_true, beq_iff_eq] at hb
    refine ⟨e, he, hb.1, hb.2.imp id fun hg => ?_⟩
    have hlt : e.on < acc.size := by
      rcases Nat.lt_or_ge e.on acc.size with h | h
      · exact h
      · simp [Array.getElem?_eq_none h] at hg
    refine ⟨by omega, ?_⟩
    rw [List.foldl_cons, (foldl_desc i l (descStep i acc x)).1 _ (by simp [descStep]; omega)]
    simp only [descStep]
    simpa [Array.getElem?_push, Nat.ne_of_lt hlt] using hg
  | x :: l, acc, j + 1, o, hj, h => by
    have hs : (descStep i acc x).size = acc.size + 1 := by simp [descStep]
    have := desc_spec i l (descStep i acc x) j o (by simpa using hj) (by rw [hs]; rw [List.foldl_cons] at h; rw [show acc.size + 1 + j = acc.size + (j + 1) by omega]; exact h)
    obtain ⟨e, he, hb, hc⟩ := this
    refine ⟨e, he, hb, hc.imp id fun ⟨h1, h2⟩ => ⟨by omega, by rw [List.foldl_cons]; exact h2⟩⟩

def descB (ops : Array Oper) (i j : Nat) : Bool := (descArr ops i).getD j false

theorem descB_spec {i j : Nat} (h : descB ops i j = true) : ∃ oj, ops[j]? = some oj ∧ ∃ e ∈ oj.after, Region.binds .any e = true ∧ (e.on = i ∨ (e.on < j ∧ descB ops i e.on = true)) := by
  have hd : (ops.toList.foldl (descStep i) #[]).getD j false = true := h
  have hs := (foldl_desc i ops.toList #[]).2
  have hj0 : j < ops.size := by
    rcases Nat.lt_or_ge j ops.size with h' | h'
    · exact h'
    · rw [Array.getD_eq_getD_getElem?, Array.getElem?_eq_none (by rw [hs]; simpa using h')] at hd
      cases hd
  obtain ⟨e, he, hb, hc⟩ := desc_spec i ops.toList #[] j ops[j] (by simp [hj0]) (by rw [show (#[] : Array Bool).size + j = j by simp]; exact hd)
  refine ⟨ops[j], by simp [hj0], e, he, hb, hc.imp id fun ⟨h1, h2⟩ => ⟨by simpa using h1, h2⟩⟩

/-- What waits for i has not been carried out while i has not. -/
theorem Down.desc {L : Array Bool} {i : Nat} (hD : Down ops L) (hi : L.getD i false = false) : ∀ (n j : Nat), j ≤ n → L.getD j false = true → descB ops i j = false := by
  intro n
  induction n with
  | zero =>
    intro j hj hl
    cases hd : descB ops i j with
    | false => rfl
    | true =>
      exfalso
      obtain ⟨oj, hoj, e, he, hb, hc⟩ := descB_spec hd
      have h1 := hD j oj hoj hl e he hb
      rcases hc with hc | ⟨hc, _⟩
      · rw [hc] at h1; rw [h1] at hi; cases hi
      · omega
  | succ n ih =>
    intro j hj hl
    cases hd : descB ops i j with
    | false => rfl
    | true =>
      exfalso
      obtain ⟨oj, hoj, e, he, hb, hc⟩ := descB_spec hd
      have h1 := hD j oj hoj hl e he hb
      rcases hc with hc | ⟨hc, hg⟩
      · rw [hc] at h1; rw [h1] at hi; cases hi
      · have := ih e.on (by omega) h1
        rw [this] at hg; cases hg

/-- No operation of the running kind that waits for i has been carried out. -/
def NE (ops : Array Oper) (L : Array Bool) (i : Nat) : Prop := ∀ e, L.getD e false = true → runAt ops e = true → descB ops i e = false

theorem wpG_first {S : Array Bool → World → Prop} {C : World → Prop} {i : Nat} {oi : Oper} {v : Value} (hi : ops[i]? = some oi) (hsel : Region.noSelect ops = true)
    (hQ : ∀ c a w, Q (.panic c) (a.put oi.dst v) w → Q (.panic c) a w) (hSS : ∀ L w, S (L.setIfInBounds i true) w ↔ S L w) (hrun : runAt ops i = false) :
    ∀ (fuel : Nat) (L : Array Bool) (a : Act) (w : World),
      (∀ j oj, ops[j]? = some oj → j ≠ i → L.getD j true = false → (∀ e ∈ oj.after, Region.binds .any e = true → e.on ≠ i) → oi.apart ops oj = true) →
      i ∈ Region.ready .any ops L → YieldsIf P ops C oi v a → C w → S L w → Down ops L →
      wpG P ops Q (fun L w => S L w ∧ (NE ops L i → C w)) fuel (L.setIfInBounds i true) (a.put oi.dst v) w → wpG P ops Q S (fuel + 1) L a w := by
  intro fuel
  have weak : ∀ L w, (S L w ∧ (NE ops L i → C w)) → S L w := fun _ _ h => h.1
  induction fuel with
  | zero =>
    intro L a w _ hr hy hC hS hD H
    refine ⟨fun h => (by rw [h] at hr; cases hr), fun j hj => ?_⟩
    by_cases hji : j = i
    · subst hji; exact hy.wpOp hi hC ⟨(hSS _ _).2 hS, wpG_mono weak _ _ _ _ H⟩
    · have := ready_mono hj hji
      rw [H.1] at this
      cases this
  | succ fuel ih =>
    intro L a w hfree hr hy hC hS hD H
    refine ⟨fun h => (by rw [h] at hr; cases hr), fun j hj => ?_⟩
    by_cases hji : j = i
    · subst hji; exact hy.wpOp hi hC ⟨(hSS _ _).2 hS, wpG_mono weak _ _ _ _ H⟩
    · have h1 := H.2 j (ready_mono hj hji)
      obtain ⟨hjun, oj, hoj, hall⟩ := mem_ready.1 hj
      have h0 := (mem_ready.1 hr).1
      have hnot : ∀ e ∈ oj.after, Region.binds .any e = true → e.on ≠ i := fun e he hb heq => by
        have h1 := hall e he hb
        rw [heq, getD_ft h0] at h1
        cases h1
      have h2 := wpOp_putIf hoj (hfree j oj hoj hji hjun hnot) (fun cs b => Region.noSelect_spec hsel i oi cs b hi) (fun cs b => Region.noSelect_spec hsel j oj cs b hoj) hQ hy h1
      have hfree' : ∀ k ok, ops[k]? = some ok → k ≠ i → (L.setIfInBounds j true).getD k true = false →
          (∀ e ∈ ok.after, Region.binds .any e = true → e.on ≠ i) → oi.apart ops ok = true := fun k ok hk hki hun hno => by
        refine hfree k ok hk hki ?_ hno
        by_cases hjk : j = k
        · subst hjk; exact hjun
        · rw [getD_set_ne true hjk] at hun; exact hun
      have hD' := hD.set hj
      have hr' := ready_mono hr (Ne.symm hji)
      have hne : NE ops ((L.setIfInBounds i true).setIfInBounds j true) i := fun e he hre => by
        have hie : i ≠ e := fun h => by rw [h] at hrun; rw [hrun] at hre; cases hre
        rw [Array.setIfInBounds_comm _ _ (Ne.symm hji), getD_set_ne false hie] at he
        exact Down.desc hD' (getD_ft (mem_ready.1 hr').1) e e (Nat.le_refl _) he
      refine wpOp_mono (fun a' w' h3 => ?_) h2
      obtain ⟨hy', ⟨hS', hC'⟩, hG'⟩ := h3
      have hS'' : S (L.setIfInBounds j true) w' := by
        rw [Array.setIfInBounds_comm _ _ (Ne.symm hji)] at hS'
        exact (hSS _ _).1 hS'
      refine ⟨hS'', ih (L.setIfInBounds j true) a' w' hfree' hr' hy' (hC' hne) hS'' hD' ?_⟩
      rw [Array.setIfInBounds_comm _ _ hji]
      exact hG'

end


/-! ### The plan: the order in which a drawing region is gone through -/

inductive Plan where
  | done
  | take (i : Nat) (p : Plan)
  | one (i : Nat) (keep : List Nat) (p : Plan)
  | two (i : Nat) (keepi : List Nat) (p : Plan) (j : Nat) (keepj : List Nat) (q : Plan)

def Plan.len : Plan → Nat
  | .done => 0
  | .take _ p => p.len + 1
  | .one _ _ p => p.len + 1
  | .two _ _ p _ _ q => max p.len q.len + 1

def keptOk (ops : Array Oper) (T keep : List Nat) (i : Nat) : Bool := T.all fun t => keep.contains t || descB ops t i

def planOk (ops : Array Oper) : Plan → Array Bool → List Nat → Bool
  | .done, L, _ => (Region.ready .any ops L).isEmpty
  | .take i p, L, T => (Region.ready .any ops L).contains i && Region.free .any ops L i && !runAt ops i && planOk ops p (L.setIfInBounds i true) (i :: T)
  | .one i keep p, L, T => Region.ready .any ops L == [i] && runAt ops i && keptOk ops T keep i && planOk ops p (L.setIfInBounds i true) keep
  | .two i keepi p j keepj q, L, T => Region.ready .any ops L == [i, j] && runAt ops i && runAt ops j && keptOk ops T keepi i && keptOk ops T keepj j &&
      planOk ops p (L.setIfInBounds i true) keepi && planOk ops q (L.setIfInBounds j true) keepj

def planOkTop (ops : Array Oper) (p : Plan) : Bool :=
  Region.noSelect ops && decide (p.len ≤ ops.size) && planOk ops p (Array.replicate ops.size false) []

/-- A reading that the plan takes first: what it needs of the world. -/
inductive TkS (P : Program) (q : Sem Value) (w : World) (nx : Option (World → Prop) → Value → Prop) : Prop where
  | any (v : Value) (h : ∀ w', q.run P w' = .ok v w') (k : nx none v)
  | held (v : Value) (C : World → Prop) (hC : C w) (h : ∀ w', C w' → q.run P w' = .ok v w') (k : nx (some C) v)

def tk (P : Program) (K : Fr) (dst : Option Tmp) (w : World) (next : Option (World → Prop) → Fr → Prop) : OS → Prop
  | .v x => next none (K.put dst x)
  | .b op k k' x y => ∃ v, binV op k k' x y = some v ∧ next none (K.put dst v)
  | .s q => TkS P q w fun C v => next C (K.put dst v)
  | .n q => ∃ v, (∀ w', q.run P w' = .ok (.value v) w') ∧ next none (K.put dst v)
  | _ => False

abbrev Pend := List (Nat × (World → Prop))

def allC : Pend → World → Prop
  | [], _ => True
  | p :: r, w => p.2 w ∧ allC r w

def sift (keep : List Nat) : Pend → Pend
  | [] => []
  | p :: r => bif keep.any (Nat.beq p.1) then p :: sift keep r else sift keep r

def addP (i : Nat) (C : Option (World → Prop)) (T : Pend) : Pend := match C with | some c => (i, c) :: T | none => T

def vcp (P : Program) (ops : Array Oper) (Q : Fr → World → Prop) : Plan → Pend → Fr → World → Prop
  | .done, _, K, w => Q K w
  | .take i p, T, K, w => match ops[i]? with
    | none => False
    | some o => grd K ops o (match opS K o with
        | none => False
        | some os => tk P K o.dst w (fun C K' => vcp P ops Q p (addP i C T) K' w) os) (vcp P ops Q p T (K.put o.dst undef) w)
  | .one i keep p, T, K, w => match ops[i]? with
    | none => False
    | some o => grd K ops o (match opS K o with
        | none => False
        | some os => vop P K o.dst w (fun K' w' => allC (sift keep T) w' ∧ vcp P ops Q p (sift keep T) K' w') os) (vcp P ops Q p (sift keep T) (K.put o.dst undef) w)
  | .two i keepi p j keepj q, T, K, w =>
    (match ops[i]? with
    | none => False
    | some o => grd K ops o (match opS K o with
        | none => False
        | some os => vop P K o.dst w (fun K' w' => allC (sift keepi T) w' ∧ vcp P ops Q p (sift keepi T) K' w') os) (vcp P ops Q p (sift keepi T) (K.put o.dst undef) w)) ∧
    (match ops[j]? with
    | none => False
    | some o => grd K ops o (match opS K o with
        | none => False
        | some os => vop P K o.dst w (fun K' w' => allC (sift keepj T) w' ∧ vcp P ops Q q (sift keepj T) K' w') os) (vcp P ops Q q (sift keepj T) (K.put o.dst undef) w))

/-- What is kept of the world while readings are taken first. -/
def SP (ops : Array Oper) (T : Pend) (L : Array Bool) (w : World) : Prop := ∀ p ∈ T, NE ops L p.1 → p.2 w

theorem allC_mem : ∀ {T : Pend} {w : World}, allC T w → ∀ p ∈ T, p.2 w
  | [], _, _, p, hp => by cases hp
  | q :: r, w, h, p, hp => by
    rcases List.mem_cons.1 hp with rfl | hp
    · exact h.1
    · exact allC_mem h.2 p hp

theorem mem_sift {keep : List Nat} : ∀ {T : Pend} {p : Nat × (World → Prop)}, p ∈ sift keep T ↔ p ∈ T ∧ p.1 ∈ keep
  | [], p => by simp [sift]
  | q :: r, p => by
    simp only [sift]
    cases hk : keep.any (Nat.beq q.1) with
    | true =>
      have hq : q.1 ∈ keep := by
        obtain ⟨x, hx, he⟩ := List.any_eq_true.1 hk
        rw [Nat.eq_of_beq_eq_true he]; exact hx
      simp only [cond_true, List.mem_cons, mem_sift (T := r)]
      constructor
      · rintro (rfl | ⟨h1, h2⟩)
        · exact ⟨.inl rfl, hq⟩
        · exact ⟨.inr h1, h2⟩
      · rintro ⟨rfl | h1, h2⟩
        · exact .inl rfl
        · exact .inr ⟨h1, h2⟩
    | false =>
      simp only [cond_false, List.mem_cons, mem_sift (T := r)]
      constructor
      · rintro ⟨h1, h2⟩; exact ⟨.inr h1, h2⟩
      · rintro ⟨rfl | h1, h2⟩
        · exfalso
          have := List.any_eq_false.1 hk p.1 h2
          exact this (Nat.beq_refl _)
        · exact ⟨h1, h2⟩

theorem NE_set {ops : Array Oper} {L : Array Bool} {i k : Nat} (hrun : runAt ops i = false) : NE ops (L.setIfInBounds i true) k ↔ NE ops L k := by
  have key : ∀ e, runAt ops e = true → (L.setIfInBounds i true).getD e false = L.getD e false := fun e he => by
    refine getD_set_ne false fun h => ?_
    rw [h] at hrun; rw [hrun] at he; cases he
  constructor
  · intro h e hl hr; exact h e (by rw [key e hr]; exact hl) hr
  · intro h e hl hr; exact h e (by rw [← key e hr]; exact hl) hr

theorem NE_sub {ops : Array Oper} {L : Array Bool} {i k : Nat} (h : NE ops (L.setIfInBounds i true) k) : NE ops L k :=
  fun e hl hr => h e (getD_set_true hl) hr

theorem sp_after {ops : Array Oper} {T : Pend} {tl keep : List Nat} {i : Nat} {L : Array Bool} {w' : World} (hT : ∀ p ∈ T, p.1 ∈ tl) (hk : keptOk ops tl keep i = true)
    (hri : runAt ops i = true) (hin : i < L.size) (hc : ∀ p ∈ sift keep T, p.2 w') : SP ops T (L.setIfInBounds i true) w' := by
  intro p hp hne
  refine hc p (mem_sift.2 ⟨hp, ?_⟩)
  have h1 := List.all_eq_true.1 hk p.1 (hT p hp)
  rcases Bool.or_eq_true _ _ ▸ h1 with h1 | h1
  · simpa using h1
  · have := hne i (by simp [hin]) hri
    rw [this] at h1; cases h1


theorem wpG_mono_from {P : Program} {ops : Array Oper} {Q : Exit → Act → World → Prop} {S S' : Array Bool → World → Prop} : ∀ (fuel : Nat) (L : Array Bool) (a : Act) (w : World),
    (∀ L' w, (∀ e, L.getD e false = true → L'.getD e false = true) → S L' w → S' L' w) → wpG P ops Q S fuel L a w → wpG P ops Q S' fuel L a w
  | 0, _, _, _, _, h => h
  | fuel + 1, _, _, _, hS, h => ⟨h.1, fun i hi => wpOp_mono (fun a' w' h' => ⟨hS _ _ (fun _ he => getD_set_true he) h'.1,
      wpG_mono_from fuel _ a' w' (fun L' w hL => hS L' w fun e he => hL e (getD_set_true he)) h'.2⟩) (h.2 i hi)⟩

theorem sp_first {ops : Array Oper} {T : Pend} {i : Nat} {C : Option (World → Prop)} {L : Array Bool} {w : World} (h : SP ops (addP i C T) L w) :
    SP ops T L w ∧ (NE ops L i → (match C with | some c => c | none => fun _ => True) w) := by
  cases C with
  | none => exact ⟨h, fun _ => trivial⟩
  | some c => exact ⟨fun p hp => h p (.tail _ hp), fun hne => h (i, c) (.head _) hne⟩

theorem sp_add {ops : Array Oper} {T : Pend} {i : Nat} {C : Option (World → Prop)} {L : Array Bool} {w : World} (h : SP ops T L w)
    (hc : (match C with | some c => c | none => fun _ => True) w) : SP ops (addP i C T) L w := by
  cases C with
  | none => exact h
  | some c =>
    intro p hp hne
    rcases List.mem_cons.1 hp with rfl | hp
    · exact hc
    · exact h p hp hne

theorem take_step {P : Program} {ops : Array Oper} {Q : Exit → Act → World → Prop} (hsel : Region.noSelect ops = true)
    (hQ : ∀ c (a a' : Act) w, Q (.panic c) a w → Q (.panic c) a' w) {i : Nat} {o : Oper} {v : Value} {C : Option (World → Prop)} {T : Pend} {f : Nat} {L : Array Bool} {a : Act} {w : World}
    (ho : ops[i]? = some o) (hready : (Region.ready .any ops L).contains i = true) (hfree : Region.free .any ops L i = true) (hnr : runAt ops i = false)
    (hD : Down ops L) (hS : SP ops T L w) (hy : YieldsIf P ops (match C with | some c => c | none => fun _ => True) o v a)
    (hc : (match C with | some c => c | none => fun _ => True) w)
    (h : wpG P ops Q (SP ops (addP i C T)) f (L.setIfInBounds i true) (a.put o.dst v) w) : wpG P ops Q (SP ops T) (f + 1) L a w := by
  refine wpG_first ho hsel (fun c a w => hQ c _ _ w) (fun L w => ?_) hnr f L a w (Region.free_spec ho hfree) (by simpa using hready) hy hc hS hD (wpG_mono (fun L w h => sp_first h) _ _ _ _ h)
  exact ⟨fun h p hp hne => h p hp ((NE_set hnr).2 hne), fun h p hp hne => h p hp ((NE_set hnr).1 hne)⟩

theorem one_step {P : Program} {n : Nat} {ops : Array Oper} {Q : Exit → Act → World → Prop} {q : Fr → World → Prop} {p : Plan} {i : Nat} {keep tl : List Nat} {T : Pend} {f : Nat} {L : Array Bool} {K : Fr} {a : Act} {w : World}
    (hdst : ops.toList.all (dstOk n) = true) (hri : runAt ops i = true) (hk : keptOk ops tl keep i = true) (hT : ∀ x ∈ T, x.1 ∈ tl) (hL : L.size = ops.size)
    (hr : Rep n a K) (hS : SP ops T L w)
    (ih : ∀ (K : Fr) (w : World) (a : Act), Rep n a K → SP ops (sift keep T) (L.setIfInBounds i true) w → vcp P ops q p (sift keep T) K w →
      wpG P ops Q (SP ops (sift keep T)) f (L.setIfInBounds i true) a w)
    (h : match ops[i]? with
      | none => False
      | some o => grd K ops o (match opS K o with
        | none => False
        | some os => vop P K o.dst w (fun K' w' => allC (sift keep T) w' ∧ vcp P ops q p (sift keep T) K' w') os) (vcp P ops q p (sift keep T) (K.put o.dst undef) w)) :
    wpOp P ops Q i (fun a' w' => SP ops T (L.setIfInBounds i true) w' ∧ wpG P ops Q (SP ops T) f (L.setIfInBounds i true) a' w') a w := by
  split at h
  · exact h.elim
  · rename_i o ho
    have hin : i < ops.size := (Array.getElem?_eq_some_iff.1 ho).1
    have hd := dstOk_spec (List.all_eq_true.1 hdst o (Array.mem_toList_iff.2 (Array.mem_of_getElem? ho)))
    have conv : ∀ (a : Act) (w : World), wpG P ops Q (SP ops (sift keep T)) f (L.setIfInBounds i true) a w → wpG P ops Q (SP ops T) f (L.setIfInBounds i true) a w := fun a w h => by
      refine wpG_mono_from f _ a w (fun L' w hsub hsp p hp hne => ?_) h
      refine hsp p (mem_sift.2 ⟨hp, ?_⟩) hne
      have h1 := List.all_eq_true.1 hk p.1 (hT p hp)
      rcases Bool.or_eq_true _ _ ▸ h1 with h1 | h1
      · simpa using h1
      · have := hne i (hsub i (by simp [hL, hin])) hri
        rw [this] at h1; cases h1
    unfold wpOp
    simp only [ho]
    rcases grd_sound hr h with ⟨hw, h⟩ | ⟨hw, h⟩
    · rw [if_pos hw]
      split at h
      · exact h.elim
      · rename_i os hos
        refine .inl (vop_sound hos hr hd (fun a' K' w' hr' ⟨hc, hn⟩ => ?_) h)
        have hall := allC_mem hc
        refine ⟨sp_after hT hk hri (by omega) hall, conv _ _ (ih K' w' a' hr' (fun p hp _ => hall p hp) hn)⟩
    · rw [if_neg (by simp [hw])]
      have hs1 : SP ops T (L.setIfInBounds i true) w := fun p hp hne => hS p hp (NE_sub hne)
      exact ⟨hs1, conv _ _ (ih _ w _ (hr.put o.dst hd undef) (fun p hp hne => hs1 p (mem_sift.1 hp).1 hne) h)⟩

theorem vcp_sound {P : Program} {n : Nat} {ops : Array Oper} {Q : Exit → Act → World → Prop} {q : Fr → World → Prop}
    (hq : ∀ a K w, Rep n a K → q K w → Q .normal a w) (hsel : Region.noSelect ops = true) (hdst : ops.toList.all (dstOk n) = true)
    (hQ : ∀ c (a a' : Act) w, Q (.panic c) a w → Q (.panic c) a' w) :
    ∀ (p : Plan) (fuel : Nat) (T : Pend) (tl : List Nat) (L : Array Bool) (K : Fr) (w : World) (a : Act), p.len ≤ fuel → planOk ops p L tl = true → (∀ x ∈ T, x.1 ∈ tl) →
      L.size = ops.size → Down ops L → Rep n a K → SP ops T L w → vcp P ops q p T K w → wpG P ops Q (SP ops T) fuel L a w := by
  intro p
  induction p with
  | done =>
    intro fuel T tl L K w a _ hp _ _ _ hr _ h
    have hr0 : Region.ready .any ops L = [] := by simpa [planOk] using hp
    cases fuel with
    | zero => exact ⟨hr0, hq a K w hr h⟩
    | succ f => exact ⟨fun _ => hq a K w hr h, by rw [hr0]; simp⟩
  | take i p ih =>
    intro fuel T tl L K w a hf hp hT hL hD hr hS h
    obtain ⟨f, rfl⟩ : ∃ f, fuel = f + 1 := ⟨fuel - 1, by simp only [Plan.len] at hf; omega⟩
    simp only [planOk, Bool.and_eq_true, Bool.not_eq_true'] at hp
    obtain ⟨⟨⟨hready, hfree⟩, hnr⟩, hrest⟩ := hp
    have hf' : p.len ≤ f := by simp only [Plan.len] at hf; omega
    simp only [vcp] at h
    split at h
    · exact h.elim
    · rename_i o ho
      have hd := dstOk_spec (List.all_eq_true.1 hdst o (Array.mem_toList_iff.2 (Array.mem_of_getElem? ho)))
      have hD' := hD.set (by simpa using hready : i ∈ Region.ready .any ops L)
      have hadd : ∀ C : Option (World → Prop), ∀ x ∈ addP i C T, x.1 ∈ i :: tl := fun C x hx => by
        cases C with
        | none => exact .tail _ (hT x hx)
        | some c =>
          rcases List.mem_cons.1 hx with rfl | hx
          · exact .head _
          · exact .tail _ (hT x hx)
      have hSset : ∀ T, SP ops T L w → SP ops T (L.setIfInBounds i true) w := fun T h p hp hne => h p hp ((NE_set hnr).1 hne)
      have fin : ∀ (C : Option (World → Prop)) (v : Value), YieldsIf P ops (match C with | some c => c | none => fun _ => True) o v a →
          (match C with | some c => c | none => fun _ => True) w → vcp P ops q p (addP i C T) (K.put o.dst v) w → wpG P ops Q (SP ops T) (f + 1) L a w := fun C v hy hc hn =>
        take_step hsel hQ ho hready hfree hnr hD hS hy hc
          (ih f (addP i C T) (i :: tl) _ _ w _ hf' hrest (hadd C) (by simp [hL]) hD' (hr.put o.dst hd v) (hSset _ (sp_add hS hc)) hn)
      rcases grd_sound hr h with ⟨hw, h⟩ | ⟨hw, h⟩
      · split at h
        · exact h.elim
        · rename_i os hos
          have hex : execOp a.eval o = os.sem := opS_sound hr.known o os hos
          cases os with
          | v x => exact fin none x (.inl ⟨hw, fun w _ => by rw [hex]; rfl⟩) trivial h
          | b op k k' x y =>
            obtain ⟨v, hv, hn⟩ := h
            exact fin none v (.inl ⟨hw, fun w _ => by rw [hex]; simp only [OS.sem, semV, Sem.run_bind, binV_run 0 w hv, Result.andThen_ok]; rfl⟩) trivial hn
          | s r =>
            rcases h with ⟨v, hv, hn⟩ | ⟨v, C, hc, hv, hn⟩
            · exact fin none v (.inl ⟨hw, fun w _ => by rw [hex]; simp only [OS.sem, semV, Sem.run_bind, hv, Result.andThen_ok]; rfl⟩) trivial hn
            · exact fin (some C) v (.inl ⟨hw, fun w hw => by rw [hex]; simp only [OS.sem, semV, Sem.run_bind, hv w hw, Result.andThen_ok]; rfl⟩) hc hn
          | n r =>
            obtain ⟨v, hv, hn⟩ := h
            exact fin none v (.inl ⟨hw, fun w _ => by rw [hex]; exact hv w⟩) trivial hn
          | _ => exact h.elim
      · exact fin none undef (.inr ⟨hw, rfl⟩) trivial h
  | one i keep p ih =>
    intro fuel T tl L K w a hf hp hT hL hD hr hS h
    obtain ⟨f, rfl⟩ : ∃ f, fuel = f + 1 := ⟨fuel - 1, by simp only [Plan.len] at hf; omega⟩
    simp only [planOk, Bool.and_eq_true, beq_iff_eq] at hp
    obtain ⟨⟨⟨hready, hri⟩, hk⟩, hrest⟩ := hp
    have hf' : p.len ≤ f := by simp only [Plan.len] at hf; omega
    refine ⟨fun h0 => (by rw [hready] at h0; cases h0), fun j hj => ?_⟩
    rw [hready] at hj
    simp at hj; subst hj
    refine one_step hdst hri hk hT hL hr hS (fun K w a hr' hS' hn => ?_) h
    exact ih f _ keep _ K w a hf' hrest (fun x hx => (mem_sift.1 hx).2) (by simp [hL]) (hD.set (by rw [hready]; simp)) hr' hS' hn
  | two i keepi p j keepj q' ihp ihq =>
    intro fuel T tl L K w a hf hp hT hL hD hr hS h
    obtain ⟨f, rfl⟩ : ∃ f, fuel = f + 1 := ⟨fuel - 1, by simp only [Plan.len] at hf; omega⟩
    simp only [planOk, Bool.and_eq_true, beq_iff_eq] at hp
    obtain ⟨⟨⟨⟨⟨⟨hready, hri⟩, hrj⟩, hki⟩, hkj⟩, hresti⟩, hrestj⟩ := hp
    have hf' : p.len ≤ f ∧ q'.len ≤ f := by simp only [Plan.len] at hf; omega
    refine ⟨fun h0 => (by rw [hready] at h0; cases h0), fun k hk => ?_⟩
    rw [hready] at hk
    simp at hk
    rcases hk with rfl | rfl
    · refine one_step hdst hri hki hT hL hr hS (fun K w a hr' hS' hn => ?_) h.1
      exact ihp f _ keepi _ K w a hf'.1 hresti (fun x hx => (mem_sift.1 hx).2) (by simp [hL]) (hD.set (by rw [hready]; simp)) hr' hS' hn
    · refine one_step hdst hrj hkj hT hL hr hS (fun K w a hr' hS' hn => ?_) h.2
      exact ihq f _ keepj _ K w a hf'.2 hrestj (fun x hx => (mem_sift.1 hx).2) (by simp [hL]) (hD.set (by rw [hready]; simp)) hr' hS' hn


/-! ### Code -/

def SubL : List (Nat × Value) → List (Nat × Value) → Prop
  | [], _ => True
  | p :: r, B => look B p.1 = some p.2 ∧ SubL r B

def SubF (A B : Fr) : Prop := SubL A.s B.s ∧ A.d = B.d

theorem SubL.look : ∀ {A B : List (Nat × Value)}, SubL A B → ∀ i v, look A i = some v → look B i = some v
  | [], _, _, i, v, h => by simp [Vc.look] at h
  | p :: r, B, h, i, v, hl => by
    obtain ⟨j, u⟩ := p
    simp only [Vc.look] at hl
    cases hb : Nat.beq j i with
    | true => rw [hb] at hl; simp at hl; rw [← Nat.eq_of_beq_eq_true hb, ← hl]; exact h.1
    | false => rw [hb] at hl; exact SubL.look h.2 i v hl

theorem Rep.sub {n : Nat} {a : Act} {A B : Fr} (h : Rep n a B) (hs : SubF A B) : Rep n a A :=
  ⟨h.defers.trans hs.2.symm, h.size, fun i v hl => h.get i v (hs.1.look i v hl)⟩

def seqQ (next : Fr → World → Prop) (q : Exit → Fr → World → Prop) : Exit → Fr → World → Prop
  | .normal, K, w => next K w
  | .exit i, K, w => q (.exit i) K w
  | .goto l, K, w => q (.goto l) K w
  | .ret, K, w => q .ret K w
  | .panic c, K, w => q (.panic c) K w
  | .outgrown, K, w => q .outgrown K w

def blockQ (id : Nat) (q : Exit → Fr → World → Prop) : Exit → Fr → World → Prop
  | .exit i, K, w => bif Nat.beq i id then q .normal K w else q (.exit i) K w
  | .normal, K, w => q .normal K w
  | .goto l, K, w => q (.goto l) K w
  | .ret, K, w => q .ret K w
  | .panic c, K, w => q (.panic c) K w
  | .outgrown, K, w => q .outgrown K w

def vcc (P : Program) : Code → (Exit → Fr → World → Prop) → Fr → World → Prop
  | .skip, q, K, w => q .normal K w
  | .region _ ops draw, q, K, w => match draw with
    | true => ∃ p, planOkTop ops p = true ∧ vcp P ops (q .normal) p [] K w.drew
    | false => vcl P ops (q .normal) ops.toList K w
  | .seq a b, q, K, w => vcc P a (seqQ (fun K' w' => vcc P b q K' w') q) K w
  | .cond c a b, q, K, w => match evO K c with
    | some (.bool t) => (t = true → vcc P a q K w) ∧ (t = false → vcc P b q K w)
    | _ => False
  | .block id body, q, K, w => vcc P body (blockQ id q) K w
  | .loop body, q, K, w => ∃ (α : Type) (fr : α → Fr) (inv : α → World → Prop) (μ : α → Nat), (∃ x, SubF (fr x) K ∧ inv x w) ∧
      ∀ x w, inv x w → vcc P body (seqQ (fun K' w' => ∃ y, SubF (fr y) K' ∧ inv y w' ∧ μ y < μ x) q) (fr x) w
  | .exit id, q, K, w => q (.exit id) K w
  | .ret, q, K, w => q .ret K w
  | _, _, _, _ => False

def codeOk (n : Nat) : Code → Bool
  | .region _ ops _ => ops.toList.all (dstOk n)
  | .seq a b => codeOk n a && codeOk n b
  | .cond _ a b => codeOk n a && codeOk n b
  | .block _ b => codeOk n b
  | .loop b => codeOk n b
  | _ => true

def NoP (q : Exit → Fr → World → Prop) : Prop := ∀ c K w, ¬ q (.panic c) K w

/-- The post as the model's own. -/
def postQ (n : Nat) (q : Exit → Fr → World → Prop) (e : Exit) (a : Act) (w : World) : Prop := ∃ K, Rep n a K ∧ q e K w

theorem vcc_sound {P : Program} {n : Nat} (hm : P.follows .mixedOrders = true) : ∀ (c : Code) (q : Exit → Fr → World → Prop), NoP q → codeOk n c = true → ∀ (K : Fr) (w : World) (a : Act),
    Rep n a K → vcc P c q K w → c.wp P (postQ n q) a w := by
  intro c
  induction c with
  | skip => intro q _ _ K w a hr h; exact wp_skip ⟨K, hr, h⟩
  | exit id => intro q _ _ K w a hr h; exact wp_exit ⟨K, hr, h⟩
  | ret => intro q _ _ K w a hr h; exact wp_ret ⟨K, hr, h⟩
  | region id ops draw =>
    intro q hq hc K w a hr h
    simp only [vcc] at h
    simp only [codeOk] at hc
    cases draw with
    | true =>
      obtain ⟨p, hp, h⟩ := h
      simp only [planOkTop, Bool.and_eq_true, decide_eq_true_eq] at hp
      refine wp_region_any hm (wpAny_of_G (S := SP ops []) _ _ _ _ ?_)
      refine vcp_sound (n := n) (fun a K w hr h => ⟨K, hr, h⟩) hp.1.1 hc (fun c a a' w ⟨K, _, hk⟩ => (hq c K w hk).elim) p ops.size [] [] _ K w.drew a hp.1.2 hp.2 (by simp) (by simp) ?_ hr (by intro p hp; cases hp) h
      intro j oj hj hl
      exfalso
      have : ∀ m k : Nat, (Array.replicate m false).getD k false = false := fun m k => by
        rcases Nat.lt_or_ge k m with h | h
        · simp [h]
        · simp [Array.getElem?_eq_none (xs := Array.replicate m false) (by simpa using h)]
      rw [this] at hl; cases hl
    | false => exact wp_region_list (vcl_sound (n := n) (fun a K w hr h => ⟨K, hr, h⟩) ops.toList hc K w a hr h)
  | seq x y ihx ihy =>
    intro q hq hc K w a hr h
    simp only [codeOk, Bool.and_eq_true] at hc
    simp only [vcc] at h
    refine wp_seq (wp_mono (ihx (seqQ (fun K' w' => vcc P y q K' w') q) (fun c K w h => hq c K w h) hc.1 K w a hr h) ?_)
    intro e a' w' ⟨K', hr', h'⟩
    cases e with
    | normal => exact ihy q hq hc.2 K' w' a' hr' h'
    | _ => exact ⟨K', hr', h'⟩
  | cond c x y ihx ihy =>
    intro q hq hc K w a hr h
    simp only [codeOk, Bool.and_eq_true] at hc
    simp only [vcc] at h
    split at h
    · rename_i t ht
      exact wp_cond_split (hr.ev ht) (fun e => ihx q hq hc.1 K w a hr (h.1 e)) (fun e => ihy q hq hc.2 K w a hr (h.2 e))
    · exact h.elim
  | block id b ih =>
    intro q hq hc K w a hr h
    simp only [vcc] at h
    refine wp_block (wp_mono (ih (blockQ id q) (fun c K w h => hq c K w h) hc K w a hr h) ?_)
    intro e a' w' ⟨K', hr', h'⟩
    cases e with
    | exit i =>
      simp only [Exit.inBlock]
      simp only [blockQ] at h'
      cases hb : Nat.beq i id with
      | true =>
        rw [hb] at h'
        rw [if_pos (Nat.eq_of_beq_eq_true hb)]
        exact ⟨K', hr', h'⟩
      | false =>
        rw [hb] at h'
        rw [if_neg (fun e => by rw [e, Nat.beq_refl] at hb; cases hb)]
        exact ⟨K', hr', h'⟩
    | _ => exact ⟨K', hr', h'⟩
  | loop b ih =>
    intro q hq hc K w a hr h
    simp only [vcc] at h
    obtain ⟨α, fr, inv, μ, ⟨x, hs, hx⟩, hround⟩ := h
    refine wp_loop_ghost (fun m a w => ∃ x, μ x = m ∧ Rep n a (fr x) ∧ inv x w) (μ x) ⟨x, rfl, hr.sub hs, hx⟩ ?_
    rintro m a w ⟨x, rfl, hr, hx⟩
    refine wp_mono (ih (seqQ (fun K' w' => ∃ y, SubF (fr y) K' ∧ inv y w' ∧ μ y < μ x) q) (fun c K w h => hq c K w h) hc (fr x) w a hr (hround x w hx)) ?_
    intro e a' w' ⟨K', hr', h'⟩
    cases e with
    | normal =>
      obtain ⟨y, hsy, hy, hlt⟩ := h'
      exact ⟨μ y, hlt, y, rfl, hr'.sub hsy, hy⟩
    | _ => exact ⟨K', hr', h'⟩
  | _ => intro q _ _ K w a _ h; exact h.elim

/-! ### Functions -/

def argFr : Nat → List Value → List (Nat × Value)
  | _, [] => []
  | i, v :: r => (i, v) :: argFr (i + 1) r

theorem argFr_look : ∀ (l : List Value) (k i : Nat) (v : Value), look (argFr k l) i = some v → k ≤ i ∧ l[i - k]? = some v
  | [], k, i, v, h => by simp [argFr, look] at h
  | u :: r, k, i, v, h => by
    simp only [argFr, look] at h
    cases hb : Nat.beq k i with
    | true => rw [hb] at h; simp at h; have := Nat.eq_of_beq_eq_true hb; subst this; subst h; simp
    | false =>
      rw [hb] at h
      have hne : k ≠ i := fun e => by rw [e, Nat.beq_refl] at hb; cases hb
      obtain ⟨h1, h2⟩ := argFr_look r (k + 1) i v h
      refine ⟨by omega, ?_⟩
      rw [show i - k = (i - (k + 1)) + 1 by omega]
      simpa using h2

/-- The results, read off a frame. -/
def resL (P : Program) (K : Fr) (w : World) : List ResultVar → (List Value → Prop) → Prop
  | [], nx => nx []
  | .tmp t :: r, nx => match look K.s t with
    | some v => resL P K w r fun vs => nx (v :: vs)
    | none => False
  | .cell t ty :: r, nx => match look K.s t with
    | some (.pointer (some a)) => ∃ v, (loadVar ty a).run P w = .ok v w ∧ resL P K w r fun vs => nx (v :: vs)
    | _ => False

def tupV : List Value → Value
  | [v] => v
  | vs => .tuple vs.toArray

def resOf (tmps : Array Value) : ResultVar → Sem Value
  | .tmp t => pure (tmps.getD t undef)
  | .cell a t => do loadVar t (← asAddr (tmps.getD a undef))

theorem resL_spec {P : Program} {n : Nat} {a : Act} {K : Fr} {w : World} (hr : Rep n a K) : ∀ (l : List ResultVar) (nx : List Value → Prop), resL P K w l nx →
    ∃ vs, vs.length = l.length ∧ ((l.mapM (resOf a.tmps)).run P w = .ok vs w) ∧ nx vs
  | [], nx, h => ⟨[], rfl, rfl, h⟩
  | .tmp t :: r, nx, h => by
    simp only [resL] at h
    split at h
    · rename_i v hv
      obtain ⟨vs, h1, h2, h3⟩ := resL_spec hr r _ h
      have ht := hr.get t v hv
      refine ⟨v :: vs, by simp [h1], ?_, h3⟩
      simp only [List.mapM_cons, Sem.run_bind, resOf]
      have : (pure (a.tmps.getD t undef) : Sem Value).run P w = .ok v w := by simp [ht]
      rw [this, Result.andThen_ok, h2, Result.andThen_ok]; rfl
    · exact h.elim
  | .cell t ty :: r, nx, h => by
    simp only [resL] at h
    split at h
    · rename_i b hv
      obtain ⟨v, hl, h⟩ := h
      obtain ⟨vs, h1, h2, h3⟩ := resL_spec hr r _ h
      have ht := hr.get t _ hv
      refine ⟨v :: vs, by simp [h1], ?_, h3⟩
      simp only [List.mapM_cons, Sem.run_bind, resOf]
      have : (asAddr (a.tmps.getD t undef)).run P w = .ok b w := by simp [ht, asAddr]
      rw [this, Result.andThen_ok, hl, Result.andThen_ok, h2, Result.andThen_ok]; rfl
    · exact h.elim

theorem results_run {P : Program} {fn : Func} {tmps : Array Value} {w : World} {vs : List Value} (hl : vs.length = fn.results.size)
    (h : (fn.results.toList.mapM (resOf tmps)).run P w = .ok vs w) : (results fn tmps).run P w = .ok (tupV vs) w := by
  have e : results fn tmps = (do let us ← fn.results.mapM (resOf tmps); pure (if h : us.size = 1 then us[0] else .tuple us)) := by
    unfold results
    congr 1
  rw [e, Sem.run_bind, Array.mapM_eq_mapM_toList, Sem.run_map, h]
  simp only [Result.andThen_ok]
  match vs, hl with
  | [], _ => rfl
  | [v], _ => rfl
  | u :: v :: r, _ => simp [tupV]

def endQ (P : Program) (fn : Func) (R : Value → World → Prop) : Exit → Fr → World → Prop
  | .normal, K, w => K.d = [] ∧ resL P K w fn.results.toList fun vs => R (tupV vs) w
  | .ret, K, w => K.d = [] ∧ resL P K w fn.results.toList fun vs => R (tupV vs) w
  | _, _, _ => False

/-- A function without deferred calls: its body's condition is all that is to be shown. -/
theorem calls_vc {P : Program} {f : FuncId} {fn : Func} {c : Code} {args : List Value} {w : World} {R : Value → World → Prop} (hm : P.follows .mixedOrders = true)
    (hf : P.funcs[f]? = some fn) (hb : fn.body = some c) (hc : codeOk fn.ntmps c = true) (hn : args.length ≤ fn.ntmps) (hnm : (fn.name == "runtime.NumGoroutine") = false)
    (h : vcc P c (endQ P fn R) ⟨argFr 0 args, []⟩ w) : CallX P f args.toArray w R := by
  refine .inl ⟨fn, c, hf, hb, hnm, calls_of_wp hf hb (wp_mono (vcc_sound (n := fn.ntmps) hm c _ (fun _ _ _ h => h) hc ⟨argFr 0 args, []⟩ w _ ⟨rfl, ?_, ?_⟩ h) ?_)⟩
  · simp; omega
  · intro i v hi
    obtain ⟨_, h2⟩ := argFr_look args 0 i v hi
    have hlt : i < args.length := by
      rcases Nat.lt_or_ge i args.length with h | h
      · exact h
      · simp [List.getElem?_eq_none h] at h2
    simp only [Nat.sub_zero] at h2
    rw [Array.getElem?_append_left (by simpa using hlt)]
    simpa using h2
  · intro e a' w' ⟨K, hr, h⟩
    have fin : K.d = [] ∧ (resL P K w' fn.results.toList fun vs => R (tupV vs) w') → a'.defers = [] ∧ ∃ v, (results fn a'.tmps).run P w' = .ok v w' ∧ ∃ u, Ending.returned v = .returned u ∧ R u w' := fun ⟨hd, hres⟩ => by
      obtain ⟨vs, h1, h2, h3⟩ := resL_spec hr _ _ hres
      exact ⟨hr.defers.trans hd, tupV vs, results_run (by simpa using h1) h2, _, rfl, h3⟩
    cases e with
    | normal => exact fin h
    | ret => exact fin h
    | _ => exact h.elim

end Go.Vc
end

section
/- What is known of a frame may be forgotten; so a condition may be shown once behind several ways that meet. -/
set_option linter.unusedSimpArgs false
set_option linter.unusedVariables false
namespace Go.Vc

/-- All that A knows B knows. -/
structure Le (A B : Fr) : Prop where
  g : ∀ i v, look A.s i = some v → look B.s i = some v
  d : A.d = B.d

theorem SubF.le {A B : Fr} (h : SubF A B) : Le A B := ⟨h.1.look, h.2⟩

theorem Le.trans' {A B C : Fr} (h : Le A B) (h2 : Le B C) : Le A C := ⟨fun i v e => h2.g i v (h.g i v e), h.d.trans h2.d⟩

theorem Le.refl (A : Fr) : Le A A := ⟨fun _ _ h => h, rfl⟩

theorem Le.put {A B : Fr} (h : Le A B) (dst : Option Tmp) (v : Value) : Le (A.put dst v) (B.put dst v) := by
  cases dst with
  | none => exact h
  | some d =>
    refine ⟨fun i u hu => ?_, h.d⟩
    simp only [Fr.put, look] at hu ⊢
    cases hb : Nat.beq d i with
    | true => rw [hb] at hu; exact hu
    | false => rw [hb] at hu; exact h.g i u hu

theorem Le.ev {A B : Fr} (h : Le A B) {x : Operand} {v : Value} (hx : evO A x = some v) : evO B x = some v := by
  cases x with
  | tmp t => exact h.g t v hx
  | const u => exact hx
  | global g => exact hx
  | func f => exact hx

theorem Le.evL {A B : Fr} (h : Le A B) : ∀ {l : List Operand} {vs : List Value}, Vc.evL A l = some vs → Vc.evL B l = some vs
  | [], vs, e => e
  | x :: r, vs, e => by
    simp only [Vc.evL] at e ⊢
    cases hx : evO A x with
    | none => simp [hx] at e
    | some v =>
      cases hr : Vc.evL A r with
      | none => simp [hx, hr] at e
      | some us => simp [hx, hr] at e; subst e; simp [h.ev hx, h.evL hr]

theorem Le.all {A B : Fr} (h : Le A B) : ∀ {l : List Operand}, allKnown A l = true → allKnown B l = true
  | [], _ => rfl
  | y :: r, e => by
    simp only [allKnown] at e ⊢
    cases hy : evO A y with
    | none => simp [hy] at e
    | some v => simp only [hy] at e; simp only [h.ev hy]; exact h.all e

theorem opS_mono {A B : Fr} (hm : Le A B) (o : Oper) (os : OS) (h : opS A o = some os) : opS B o = some os := by
  obtain ⟨dst, op, type, pos, after, guard⟩ := o
  have gen : ∀ op, ((bif noSel ⟨dst, op, type, pos, after, guard⟩ && allKnown A op.operands.toList then some (OS.n (execOp (evD A) ⟨dst, op, type, pos, after, guard⟩)) else none) = some os) →
      (bif noSel ⟨dst, op, type, pos, after, guard⟩ && allKnown B op.operands.toList then some (OS.n (execOp (evD B) ⟨dst, op, type, pos, after, guard⟩)) else none) = some os := by
    intro op h
    cases hn : noSel ⟨dst, op, type, pos, after, guard⟩ with
    | false => simp [hn] at h
    | true =>
      cases ha : allKnown A op.operands.toList with
      | false => simp [hn, ha] at h
      | true =>
        have hb := hm.all ha
        simp only [hn, ha, hb, Bool.and_self, cond_true, Option.some.injEq] at h ⊢
        rw [← h]
        congr 1
        refine (execOp_congr (ρ := evD B) (ρ' := evD A) _ (fun cs b => ?_) fun x hx => ?_)
        · intro e; simp only at e; subst e; simp [noSel] at hn
        · obtain ⟨v, hv⟩ := allKnown_spec ha x (by simpa using hx)
          simp [evD, hv, hm.ev hv]
  cases op with
  | move x => simp only [opS] at h ⊢; split at h <;> simp at h; subst h; rename_i v hv; simp [hm.ev hv]
  | assign x => simp only [opS] at h ⊢; split at h <;> simp at h; subst h; rename_i v hv; simp [hm.ev hv]
  | pick c a b => simp only [opS] at h ⊢; split at h <;> simp at h; subst h; rename_i t va vb h1 h2 h3; simp only [hm.ev h1, hm.ev h2, hm.ev h3]
  | nilCheck x =>
    simp only [opS] at h ⊢; split at h
    · rename_i a h1; simp only [hm.ev h1]; exact h
    · rename_i v hne h1
      simp only [hm.ev h1]
      exact h
    · cases h
  | alloc e => exact h
  | box e x => simp only [opS] at h ⊢; split at h <;> simp at h; subst h; rename_i v hv; simp [hm.ev hv]
  | build t parts => simp only [opS] at h ⊢; split at h <;> simp at h; subst h; rename_i vs hv; simp only [hm.evL hv]
  | buildSlice t n parts => simp only [opS] at h ⊢; split at h <;> simp at h; subst h; rename_i vs hv; simp only [hm.evL hv]
  | load t x => simp only [opS] at h ⊢; split at h <;> simp at h; subst h; rename_i v hv; simp [hm.ev hv]
  | store t x y => simp only [opS] at h ⊢; split at h <;> simp at h; subst h; rename_i v u h1 h2; simp only [hm.ev h1, hm.ev h2]
  | binOp op t x y t' =>
    simp only [opS] at h ⊢; split at h
    · rename_i k a k' b h1 h2; simp only [hm.ev h1, hm.ev h2]; exact h
    · rename_i u v hne h1 h2
      simp only [hm.ev h1, hm.ev h2]
      exact h
    · cases h
  | unOp op t x =>
    simp only [opS] at h ⊢; split at h
    · rename_i b h1; simp only [hm.ev h1]; exact h
    · rename_i v hne h1
      simp only [hm.ev h1]
      exact h
    · cases h
  | convert s d x => simp only [opS] at h ⊢; split at h <;> simp at h; subst h; rename_i v hv; simp [hm.ev hv]
  | makeInterface t x => simp only [opS] at h ⊢; split at h <;> simp at h; subst h; rename_i v hv; simp [hm.ev hv]
  | makeFunc fn first captured => simp only [opS] at h ⊢; split at h <;> simp at h; subst h; rename_i us vs h1 h2; simp only [hm.evL h1, hm.evL h2]
  | makeSlice t l c => simp only [opS] at h ⊢; split at h <;> simp at h; subst h; rename_i v u h1 h2; simp only [hm.ev h1, hm.ev h2]
  | slice t x lo hi mx =>
    cases mx with
    | none =>
      cases lo with
      | none =>
        cases hi with
        | none => simp only [opS] at h ⊢; split at h <;> simp at h; subst h; rename_i v h1; simp [hm.ev h1]
        | some q =>
          simp only [opS] at h ⊢; split at h <;> try simp at h
          split at h <;> simp at h; subst h; rename_i h1 _ u h2; simp only [hm.ev h1, hm.ev h2]
      | some p =>
        cases hi with
        | none =>
          simp only [opS] at h ⊢; split at h <;> try simp at h
          split at h <;> simp at h; subst h; rename_i h1 _ u h2; simp only [hm.ev h1, hm.ev h2]
        | some q =>
          simp only [opS] at h ⊢; split at h <;> try simp at h
          split at h <;> simp at h; subst h; rename_i h1 _ _ u r h2 h3; simp only [hm.ev h1, hm.ev h2, hm.ev h3]
    | some m => exact gen _ h
  | fieldAddr s x f => simp only [opS] at h ⊢; split at h <;> simp at h; subst h; rename_i v hv; simp [hm.ev hv]
  | field s x f => simp only [opS] at h ⊢; split at h <;> simp at h; subst h; rename_i v hv; simp [hm.ev hv]
  | indexAddr t x i => simp only [opS] at h ⊢; split at h <;> simp at h; subst h; rename_i v u h1 h2; simp only [hm.ev h1, hm.ev h2]
  | index t x i => simp only [opS] at h ⊢; split at h <;> simp at h; subst h; rename_i v u h1 h2; simp only [hm.ev h1, hm.ev h2]
  | typeAssert x t u ok => simp only [opS] at h ⊢; split at h <;> simp at h; subst h; rename_i v hv; simp [hm.ev hv]
  | extract x i =>
    simp only [opS] at h ⊢; split at h
    · rename_i vs h1; simp only [hm.ev h1]; exact h
    · cases h
  | call c =>
    obtain ⟨callee, args, tys⟩ := c
    cases callee with
    | value f =>
      simp only [opS] at h ⊢; split at h
      · rename_i g first captured vs h1 h2; simp only [hm.ev h1, hm.evL h2]; exact h
      · rename_i name first cap vs h1 h2; simp only [hm.ev h1, hm.evL h2]; exact h
      · cases h
    | invoke r name =>
      simp only [opS] at h ⊢; split at h
      · rename_i t x vs h1 h2; simp only [hm.ev h1, hm.evL h2]; exact h
      · cases h
    | builtin b => simp only [opS] at h ⊢; split at h <;> simp only [Option.some.injEq, reduceCtorEq] at h; subst h; rename_i vs h2; simp only [hm.evL h2]
  | defer c =>
    obtain ⟨callee, args, tys⟩ := c
    cases callee with
    | value f =>
      simp only [opS] at h ⊢; split at h
      · rename_i fn first captured vs h1 h2; simp only [hm.ev h1, hm.evL h2]; exact h
      · cases h
    | invoke r name => exact gen _ h
    | builtin b => exact gen _ h
  | panic x => simp only [opS] at h ⊢; split at h <;> simp at h; subst h; rename_i v hv; simp [hm.ev hv]
  | ready g => exact gen (Op.ready _) h
  | waits g => exact gen (Op.waits _) h
  | select cs b => simp [opS, noSel] at h
  | _ => exact gen _ h

def MoN (Q : Fr → World → Prop) : Prop := ∀ A B w, Le A B → Q A w → Q B w
def MoQ (q : Exit → Fr → World → Prop) : Prop := ∀ e A B w, Le A B → q e A w → q e B w

theorem vop_mono {P : Program} {A B : Fr} (h : Le A B) {dst : Option Tmp} {w : World} {Q Q' : Fr → World → Prop} (hQ : ∀ A B w, Le A B → Q A w → Q' B w) :
    ∀ os, vop P A dst w Q os → vop P B dst w Q' os
  | .v x, g => hQ _ _ _ (h.put dst x) g
  | .b op k k' x y, ⟨v, e, g⟩ => ⟨v, e, hQ _ _ _ (h.put dst v) g⟩
  | .s q, ⟨v, w', e, g⟩ => ⟨v, w', e, hQ _ _ _ (h.put dst v) g⟩
  | .u q, ⟨w', e, g⟩ => ⟨w', e, hQ _ _ _ (h.put dst undef) g⟩
  | .c f args, g => CallX.mono g fun v w' g => hQ _ _ _ (h.put dst v) g
  | .m t x name args, ⟨f, r, e, g⟩ => ⟨f, r, e, CallX.mono g fun v w' g => hQ _ _ _ (h.put dst v) g⟩
  | .n q, ⟨v, w', e, g⟩ => ⟨v, w', e, hQ _ _ _ (h.put dst v) g⟩
  | .df d, g => hQ ⟨(A.put dst undef).s, d :: A.d⟩ ⟨(B.put dst undef).s, d :: B.d⟩ w ⟨(h.put dst undef).g, by show d :: A.d = d :: B.d; rw [h.d]⟩ g

theorem grd_mono {A B : Fr} (h : Le A B) {ops : Array Oper} {o : Oper} {y y' n n' : Prop} (hy : y → y') (hn : n → n') (g : grd A ops o y n) : grd B ops o y' n' := by
  unfold grd at *
  split
  · rename_i e; simp only [e] at g; exact hy g
  · rename_i a want e
    simp only [e] at g
    split
    · rename_i e2; simp only [e2] at g
    · rename_i og e2
      simp only [e2] at g
      split
      · rename_i e3; simp only [e3] at g
      · rename_i t e3
        simp only [e3] at g
        split at g
        · rename_i b e4
          rw [h.g _ _ e4]
          simp only
          cases hb : b == want with
          | true => rw [hb] at g; exact hy g
          | false => rw [hb] at g; exact hn g
        · rename_i b e4
          rw [h.g _ _ e4]
          exact hn g
        · exact g.elim

theorem vcl_mono {P : Program} {ops : Array Oper} {Q Q' : Fr → World → Prop} (hQ : ∀ A B w, Le A B → Q A w → Q' B w) : ∀ (l : List Oper) {A B : Fr} {w : World}, Le A B → vcl P ops Q l A w → vcl P ops Q' l B w
  | [], A, B, w, h, g => hQ _ _ _ h g
  | o :: l, A, B, w, h, g => by
    simp only [vcl] at g ⊢
    refine grd_mono h (fun g => ?_) (fun g => vcl_mono hQ l (h.put o.dst undef) g) g
    split at g
    · exact g.elim
    · rename_i os e
      rw [opS_mono h o os e]
      exact vop_mono (Q := fun K' w' => vcl P ops Q l K' w') (Q' := fun K' w' => vcl P ops Q' l K' w') h (fun A B w h g => vcl_mono hQ l h g) os g

theorem tk_mono {P : Program} {A B : Fr} (h : Le A B) {dst : Option Tmp} {w : World} {Q Q' : Option (World → Prop) → Fr → Prop} (hQ : ∀ C A B, Le A B → Q C A → Q' C B) :
    ∀ os, tk P A dst w Q os → tk P B dst w Q' os
  | .v x, g => hQ _ _ _ (h.put dst x) g
  | .b op k k' x y, ⟨v, e, g⟩ => ⟨v, e, hQ _ _ _ (h.put dst v) g⟩
  | .s q, g => by
    cases g with
    | any v e k => exact .any v e (hQ _ _ _ (h.put dst v) k)
    | held v C hC e k => exact .held v C hC e (hQ _ _ _ (h.put dst v) k)
  | .n q, ⟨v, e, g⟩ => ⟨v, e, hQ _ _ _ (h.put dst v) g⟩
  | .u q, g => g.elim
  | .c f args, g => g.elim
  | .m t x name args, g => g.elim
  | .df d, g => g.elim

theorem vcp_mono {P : Program} {ops : Array Oper} {Q Q' : Fr → World → Prop} (hQ : ∀ A B w, Le A B → Q A w → Q' B w) : ∀ (p : Plan) (T : Pend) {A B : Fr} {w : World}, Le A B → vcp P ops Q p T A w → vcp P ops Q' p T B w
  | .done, T, A, B, w, h, g => hQ _ _ _ h g
  | .take i p, T, A, B, w, h, g => by
    simp only [vcp] at g ⊢
    cases hi : ops[i]? with
    | none => simp only [hi] at g
    | some o =>
      simp only [hi] at g ⊢
      refine grd_mono h (fun g => ?_) (fun g => vcp_mono hQ p T (h.put o.dst undef) g) g
      split at g
      · exact g.elim
      · rename_i os e
        rw [opS_mono h o os e]
        exact tk_mono (Q := fun C K' => vcp P ops Q p (addP i C T) K' w) (Q' := fun C K' => vcp P ops Q' p (addP i C T) K' w) h (fun C A B h g => vcp_mono hQ p _ h g) os g
  | .one i keep p, T, A, B, w, h, g => by
    simp only [vcp] at g ⊢
    cases hi : ops[i]? with
    | none => simp only [hi] at g
    | some o =>
      simp only [hi] at g ⊢
      refine grd_mono h (fun g => ?_) (fun g => vcp_mono hQ p _ (h.put o.dst undef) g) g
      split at g
      · exact g.elim
      · rename_i os e
        rw [opS_mono h o os e]
        exact vop_mono (Q := fun K' w' => allC (sift keep T) w' ∧ vcp P ops Q p (sift keep T) K' w') (Q' := fun K' w' => allC (sift keep T) w' ∧ vcp P ops Q' p (sift keep T) K' w') h (fun A B w h g => ⟨g.1, vcp_mono hQ p _ h g.2⟩) os g
  | .two i keepi p j keepj q, T, A, B, w, h, g => by
    simp only [vcp] at g ⊢
    refine ⟨?_, ?_⟩
    · have g := g.1
      cases hi : ops[i]? with
      | none => simp only [hi] at g
      | some o =>
        simp only [hi] at g ⊢
        refine grd_mono h (fun g => ?_) (fun g => vcp_mono hQ p _ (h.put o.dst undef) g) g
        split at g
        · exact g.elim
        · rename_i os e
          rw [opS_mono h o os e]
          exact vop_mono (Q := fun K' w' => allC (sift keepi T) w' ∧ vcp P ops Q p (sift keepi T) K' w') (Q' := fun K' w' => allC (sift keepi T) w' ∧ vcp P ops Q' p (sift keepi T) K' w') h (fun A B w h g => ⟨g.1, vcp_mono hQ p _ h g.2⟩) os g
    · have g := g.2
      cases hi : ops[j]? with
      | none => simp only [hi] at g
      | some o =>
        simp only [hi] at g ⊢
        refine grd_mono h (fun g => ?_) (fun g => vcp_mono hQ q _ (h.put o.dst undef) g) g
        split at g
        · exact g.elim
        · rename_i os e
          rw [opS_mono h o os e]
          exact vop_mono (Q := fun K' w' => allC (sift keepj T) w' ∧ vcp P ops Q q (sift keepj T) K' w') (Q' := fun K' w' => allC (sift keepj T) w' ∧ vcp P ops Q' q (sift keepj T) K' w') h (fun A B w h g => ⟨g.1, vcp_mono hQ q _ h g.2⟩) os g

theorem vcc_mono {P : Program} : ∀ (c : Code) (q q' : Exit → Fr → World → Prop), (∀ e A B w, Le A B → q e A w → q' e B w) → ∀ {A B : Fr} {w : World}, Le A B → vcc P c q A w → vcc P c q' B w
  | .skip, q, q', hq, A, B, w, h, g => hq _ _ _ _ h g
  | .region ps ops draw, q, q', hq, A, B, w, h, g => by
    cases draw with
    | true =>
      obtain ⟨p, hp, g⟩ := g
      exact ⟨p, hp, vcp_mono (Q := q .normal) (Q' := q' .normal) (fun A B w h g => hq .normal A B w h g) p [] h g⟩
    | false => exact vcl_mono (Q := q .normal) (Q' := q' .normal) (fun A B w h g => hq .normal A B w h g) ops.toList h g
  | .seq a b, q, q', hq, A, B, w, h, g => by
    refine vcc_mono a _ _ (fun e A B w h g => ?_) h g
    cases e with
    | normal => exact vcc_mono b q q' hq h g
    | exit i => exact hq _ _ _ _ h g
    | goto l => exact hq _ _ _ _ h g
    | ret => exact hq _ _ _ _ h g
    | panic c => exact hq _ _ _ _ h g
    | outgrown => exact hq _ _ _ _ h g
  | .cond c a b, q, q', hq, A, B, w, h, g => by
    simp only [vcc] at g ⊢
    split at g
    · rename_i t e
      rw [h.ev e]
      exact ⟨fun e => vcc_mono a q q' hq h (g.1 e), fun e => vcc_mono b q q' hq h (g.2 e)⟩
    · exact g.elim
  | .block id body, q, q', hq, A, B, w, h, g => by
    refine vcc_mono body _ _ (fun e A B w h g => ?_) h g
    cases e with
    | exit i =>
      simp only [blockQ] at g ⊢
      cases hb : Nat.beq i id with
      | true => rw [hb] at g; exact hq _ _ _ _ h g
      | false => rw [hb] at g; exact hq _ _ _ _ h g
    | normal => exact hq _ _ _ _ h g
    | goto l => exact hq _ _ _ _ h g
    | ret => exact hq _ _ _ _ h g
    | panic c => exact hq _ _ _ _ h g
    | outgrown => exact hq _ _ _ _ h g
  | .loop body, q, q', hq, A, B, w, h, g => by
    obtain ⟨α, fr, inv, μ, ⟨x, hs, hi⟩, hr⟩ := g
    refine ⟨α, fr, inv, μ, ⟨x, ?_, hi⟩, fun x w hi => ?_⟩
    · have : ∀ l, SubL l A.s → SubL l B.s := by
        intro l
        induction l with
        | nil => intro _; trivial
        | cons p r ih => intro hs; exact ⟨h.g _ _ hs.1, ih hs.2⟩
      exact ⟨this _ hs.1, hs.2.trans h.d⟩
    · refine vcc_mono body _ _ (fun e A B w h g => ?_) (Le.refl _) (hr x w hi)
      cases e with
      | normal =>
        obtain ⟨y, hs, g⟩ := g
        refine ⟨y, ?_, g⟩
        have : ∀ l, SubL l A.s → SubL l B.s := by
          intro l
          induction l with
          | nil => intro _; trivial
          | cons p r ih => intro hs; exact ⟨h.g _ _ hs.1, ih hs.2⟩
        exact ⟨this _ hs.1, hs.2.trans h.d⟩
      | exit i => exact hq _ _ _ _ h g
      | goto l => exact hq _ _ _ _ h g
      | ret => exact hq _ _ _ _ h g
      | panic c => exact hq _ _ _ _ h g
      | outgrown => exact hq _ _ _ _ h g
  | .exit id, q, q', hq, A, B, w, h, g => hq _ _ _ _ h g
  | .ret, q, q', hq, A, B, w, h, g => hq _ _ _ _ h g
  | .goto _, q, q', hq, A, B, w, h, g => g.elim
  | .label _, q, q', hq, A, B, w, h, g => g.elim
  | .refuse _, q, q', hq, A, B, w, h, g => g.elim
  | .scope _, q, q', hq, A, B, w, h, g => g.elim
  | .rangeFunc _ _ _ _, q, q', hq, A, B, w, h, g => g.elim

/-! ### The cut -/

theorem SubL.le {A B : Fr} (h : Le A B) : ∀ {l : List (Nat × Value)}, SubL l A.s → SubL l B.s
  | [], _ => trivial
  | p :: r, hs => ⟨h.g _ _ hs.1, SubL.le h hs.2⟩
theorem SubF.trans {X A B : Fr} (hs : SubF X A) (h : Le A B) : SubF X B := ⟨SubL.le h hs.1, hs.2.trans h.d⟩

theorem resL_mono {P : Program} {A B : Fr} (h : Le A B) {w : World} : ∀ (l : List ResultVar) (nx : List Value → Prop), resL P A w l nx → resL P B w l nx
  | [], nx, g => g
  | .tmp t :: r, nx, g => by
    simp only [resL] at g ⊢
    split at g
    · rename_i v e; rw [h.g _ _ e]; exact resL_mono h r _ g
    · exact g.elim
  | .cell t ty :: r, nx, g => by
    simp only [resL] at g ⊢
    split at g
    · rename_i a e
      rw [h.g _ _ e]
      obtain ⟨v, h1, h2⟩ := g
      exact ⟨v, h1, resL_mono h r _ h2⟩
    · exact g.elim

theorem moE (P : Program) (fn : Func) (R : Value → World → Prop) : MoQ (endQ P fn R) := by
  intro e A B w h g
  cases e with
  | normal => exact ⟨h.d.symm.trans g.1, resL_mono h _ _ g.2⟩
  | ret => exact ⟨h.d.symm.trans g.1, resL_mono h _ _ g.2⟩
  | _ => exact g.elim

theorem moS {next : Fr → World → Prop} {q : Exit → Fr → World → Prop} (hn : ∀ A B w, Le A B → next A w → next B w) (hq : MoQ q) : MoQ (seqQ next q) := by
  intro e A B w h g
  cases e with
  | normal => exact hn _ _ _ h g
  | exit i => exact hq _ _ _ _ h g
  | goto l => exact hq _ _ _ _ h g
  | ret => exact hq _ _ _ _ h g
  | panic c => exact hq _ _ _ _ h g
  | outgrown => exact hq _ _ _ _ h g

theorem moV {P : Program} {c : Code} {q q' : Exit → Fr → World → Prop} (hq' : MoQ q') (hq : MoQ q) : MoQ (seqQ (fun K w => vcc P c q' K w) q) :=
  moS (fun A B w h g => vcc_mono c q' q' hq' h g) hq

theorem moL {α : Type} {fr : α → Fr} {R : α → World → Prop} {q : Exit → Fr → World → Prop} (hq : MoQ q) : MoQ (seqQ (fun K w => ∃ y, SubF (fr y) K ∧ R y w) q) :=
  moS (fun A B w h ⟨y, hs, hr⟩ => ⟨y, hs.trans h, hr⟩) hq

theorem moB {id : Nat} {q : Exit → Fr → World → Prop} (hq : MoQ q) : MoQ (blockQ id q) := by
  intro e A B w h g
  cases e with
  | exit i =>
    simp only [blockQ] at g ⊢
    cases hb : Nat.beq i id with
    | true => rw [hb] at g; exact hq _ _ _ _ h g
    | false => rw [hb] at g; exact hq _ _ _ _ h g
  | normal => exact hq _ _ _ _ h g
  | goto l => exact hq _ _ _ _ h g
  | ret => exact hq _ _ _ _ h g
  | panic c => exact hq _ _ _ _ h g
  | outgrown => exact hq _ _ _ _ h g

theorem vcl_v {P : Program} {ops : Array Oper} {Q : Fr → World → Prop} {o : Oper} {l : List Oper} {K : Fr} {w : World} (v : Value) (hg : o.guard = none) (ho : opS K o = some (.v v)) (h : vcl P ops Q l (K.put o.dst v) w) : vcl P ops Q (o :: l) K w := by
  simp only [vcl, grd, hg, ho, vop]; exact h
theorem vcl_end {P : Program} {ops : Array Oper} {next : Fr → World → Prop} {q : Exit → Fr → World → Prop} {K : Fr} {w : World} (h : next K w) : vcl P ops (seqQ next q .normal) [] K w := h

/-- A region by itself, entered. -/
theorem vsr {P : Program} {id : Nat} {ops : Array Oper} {b : Code} {q : Exit → Fr → World → Prop} {K : Fr} {w : World} (h : vcl P ops (seqQ (fun K w => vcc P b q K w) q .normal) ops.toList K w) : vcc P (.seq (.region id ops false) b) q K w := h

theorem sqn {next : Fr → World → Prop} {q : Exit → Fr → World → Prop} {K : Fr} {w : World} (h : next K w) : seqQ next q .normal K w := h
theorem vsb {P : Program} {id : Nat} {body rest : Code} {q : Exit → Fr → World → Prop} {K : Fr} {w : World} (h : vcc P body (blockQ id (seqQ (fun K w => vcc P rest q K w) q)) K w) : vcc P (.seq (.block id body) rest) q K w := h

/-- What comes behind the first part is shown once, from what the first part leaves. -/
theorem vcut {P : Program} {a b : Code} {q : Exit → Fr → World → Prop} {K : Fr} {w : World} (hq : MoQ q) (α : Type) (fr : α → Fr) (mid : α → World → Prop)
    (h1 : vcc P a (seqQ (fun K' w' => ∃ x, SubF (fr x) K' ∧ mid x w') q) K w) (h2 : ∀ x w', mid x w' → vcc P b q (fr x) w') : vcc P (.seq a b) q K w := by
  refine vcc_mono a _ _ (fun e A B w h g => ?_) (Le.refl K) h1
  cases e with
  | normal =>
    obtain ⟨x, hs, hm⟩ := g
    exact vcc_mono b q q hq (hs.le.trans' h) (h2 x _ hm)
  | exit i => exact hq _ _ _ _ h g
  | goto l => exact hq _ _ _ _ h g
  | ret => exact hq _ _ _ _ h g
  | panic c => exact hq _ _ _ _ h g
  | outgrown => exact hq _ _ _ _ h g

theorem vcuts {P : Program} {a : Code} {next : Fr → World → Prop} {q : Exit → Fr → World → Prop} {K : Fr} {w : World} (hn : MoQ (seqQ next q)) (α : Type) (fr : α → Fr) (mid : α → World → Prop)
    (h1 : vcc P a (seqQ (fun K' w' => ∃ x, SubF (fr x) K' ∧ mid x w') q) K w) (h2 : ∀ x w', mid x w' → next (fr x) w') : vcc P a (seqQ next q) K w := by
  refine vcc_mono a _ _ (fun e A B w h g => ?_) (Le.refl K) h1
  cases e with
  | normal =>
    obtain ⟨x, hs, hm⟩ := g
    exact hn .normal _ _ _ (hs.le.trans' h) (h2 x _ hm)
  | exit i => exact hn (.exit i) _ _ _ h g
  | goto l => exact hn (.goto l) _ _ _ h g
  | ret => exact hn .ret _ _ _ h g
  | panic c => exact hn (.panic c) _ _ _ h g
  | outgrown => exact hn .outgrown _ _ _ h g

end Go.Vc
end

section
/- Functions that defer calls. -/
set_option linter.unusedSimpArgs false
set_option linter.unusedVariables false
namespace Go.Vc

/-- A call that is made while a frame is on its way out. -/
def CallD (P : Program) (f : FuncId) (args : Array Value) (w : World) (next : World → Prop) : Prop :=
  ∀ u, CallsD P f args u w fun e u' w' => u' = u ∧ ∃ v, e = .returned v ∧ next w'

theorem CallD.mono {P : Program} {f : FuncId} {args : Array Value} {w : World} {A B : World → Prop} (h : CallD P f args w A) (hab : ∀ w', A w' → B w') : CallD P f args w B :=
  fun u => (h u).mono fun e u' w' ⟨h1, v, h2, h3⟩ => ⟨h1, v, h2, hab _ h3⟩

theorem wp_vc {P : Program} {f : FuncId} {fn : Func} {c : Code} {args : List Value} {w : World} {R : Value → World → Prop} (hm : P.follows .mixedOrders = true)
    (hc : codeOk fn.ntmps c = true) (hn : args.length ≤ fn.ntmps) (h : vcc P c (endQ P fn R) ⟨argFr 0 args, []⟩ w) :
    c.wp P (bodyPost P fn (fun e w' => ∃ v, e = .returned v ∧ R v w')) { tmps := args.toArray ++ Array.replicate (fn.ntmps - args.toArray.size) undef, defers := [] } w := by
  refine wp_mono (vcc_sound (n := fn.ntmps) hm c _ (fun _ _ _ h => h) hc ⟨argFr 0 args, []⟩ w _ ⟨rfl, ?_, ?_⟩ h) ?_
  · simp; omega
  · intro i v hi
    obtain ⟨_, h2⟩ := argFr_look args 0 i v hi
    have hlt : i < args.length := by
      rcases Nat.lt_or_ge i args.length with h | h
      · exact h
      · simp [List.getElem?_eq_none h] at h2
    simp only [Nat.sub_zero] at h2
    rw [Array.getElem?_append_left (by simpa using hlt)]
    simpa using h2
  · intro e a' w' ⟨K, hr, h⟩
    have fin : K.d = [] ∧ (resL P K w' fn.results.toList fun vs => R (tupV vs) w') → a'.defers = [] ∧ ∃ v, (results fn a'.tmps).run P w' = .ok v w' ∧ ∃ u, Ending.returned v = .returned u ∧ R u w' := fun ⟨hd, hres⟩ => by
      obtain ⟨vs, h1, h2, h3⟩ := resL_spec hr _ _ hres
      exact ⟨hr.defers.trans hd, tupV vs, results_run (by simpa using h1) h2, _, rfl, h3⟩
    cases e with
    | normal => exact fin h
    | ret => exact fin h
    | _ => exact h.elim

theorem cd_vc {P : Program} {f : FuncId} {fn : Func} {c : Code} {args : List Value} {w : World} {R : World → Prop} (hm : P.follows .mixedOrders = true)
    (hf : P.funcs[f]? = some fn) (hb : fn.body = some c) (hc : codeOk fn.ntmps c = true) (hn : args.length ≤ fn.ntmps)
    (h : vcc P c (endQ P fn (fun _ w' => R w')) ⟨argFr 0 args, []⟩ w) : CallD P f args.toArray w R := by
  intro u
  refine (callsD_of_wp (u := u) hf hb (wp_vc (f := f) hm hc hn h)).mono ?_
  rintro e u' w' ⟨h1, v, h2, h3⟩
  exact ⟨h1, v, h2, h3⟩

/-- The deferred calls, the last one first. -/
def dfr (P : Program) : List Deferred → World → (World → Prop) → Prop
  | [], w, nx => nx w
  | d :: ds, w, nx => ∃ g l, d.target = .fn (.func g) #[] ∧ d.args = l ∧ hasBody P g = true ∧ CallD P g l w fun w' => dfr P ds w' nx

def endQd (P : Program) (fn : Func) (R : Value → World → Prop) : Exit → Fr → World → Prop
  | .normal, K, w => dfr P K.d w fun w' => resL P K w' fn.results.toList fun vs => R (tupV vs) w'
  | .ret, K, w => dfr P K.d w fun w' => resL P K w' fn.results.toList fun vs => R (tupV vs) w'
  | _, _, _ => False

theorem dfr_mono {P : Program} : ∀ {ds : List Deferred} {w : World} {A B : World → Prop}, (∀ w', A w' → B w') → dfr P ds w A → dfr P ds w B
  | [], w, A, B, h, g => h _ g
  | d :: ds, w, A, B, h, ⟨g, l, h1, h2, h3, h4⟩ => ⟨g, l, h1, h2, h3, h4.mono fun w' => dfr_mono h⟩

theorem moEd (P : Program) (fn : Func) (R : Value → World → Prop) : MoQ (endQd P fn R) := by
  intro e A B w h g
  cases e with
  | normal =>
    show dfr P B.d w _
    rw [← h.d]; exact dfr_mono (fun w' => resL_mono h _ _) g
  | ret =>
    show dfr P B.d w _
    rw [← h.d]; exact dfr_mono (fun w' => resL_mono h _ _) g
  | _ => exact g.elim

theorem leaves_dfr {P : Program} {fn : Func} {tmps : Array Value} {R : Ending → World → Prop} : ∀ (ds : List Deferred) (w : World), dfr P ds w (fun w' => ∃ v, (results fn tmps).run P w' = .ok v w' ∧ R (.returned v) w') → Leaves P fn tmps R ds .returning w
  | [], w, h => h
  | ⟨t, a⟩ :: ds, w, ⟨g, l, h1, h2, h3, h4⟩ => by
    simp only at h1 h2
    subst h1; subst h2
    refine leaves_cons (f := g) (args := a) (by simp) ?_ ((h4 .returning).mono ?_)
    · unfold hasBody at h3
      split at h3
      · rename_i fn' hf
        simp only [Bool.and_eq_true, Bool.not_eq_true'] at h3
        obtain ⟨c, hc⟩ := Option.isSome_iff_exists.1 h3.1
        have h5 : a ++ (#[] : Array Value) = a := by simp
        simp only [invoke, h5, callFunc, Sem.run_bind, program, Sem.run, Result.andThen_ok, hf, h3.2, hc, Option.isNone_some, Bool.false_eq_true, if_false]
        rfl
      · cases h3
    · rintro e u' w' ⟨rfl, v, rfl, h5⟩
      exact leaves_dfr ds w' h5

/-- A function that may defer calls. -/
theorem calls_vcd {P : Program} {f : FuncId} {fn : Func} {c : Code} {args : List Value} {w : World} {R : Value → World → Prop} (hm : P.follows .mixedOrders = true)
    (hf : P.funcs[f]? = some fn) (hb : fn.body = some c) (hc : codeOk fn.ntmps c = true) (hn : args.length ≤ fn.ntmps) (hnm : (fn.name == "runtime.NumGoroutine") = false)
    (h : vcc P c (endQd P fn R) ⟨argFr 0 args, []⟩ w) : CallX P f args.toArray w R := by
  refine .inl ⟨fn, c, hf, hb, hnm, calls_of_wp_defers hf hb (wp_mono (vcc_sound (n := fn.ntmps) hm c _ (fun _ _ _ h => h) hc ⟨argFr 0 args, []⟩ w _ ⟨rfl, ?_, ?_⟩ h) ?_)⟩
  · simp; omega
  · intro i v hi
    obtain ⟨_, h2⟩ := argFr_look args 0 i v hi
    have hlt : i < args.length := by
      rcases Nat.lt_or_ge i args.length with h | h
      · exact h
      · simp [List.getElem?_eq_none h] at h2
    simp only [Nat.sub_zero] at h2
    rw [Array.getElem?_append_left (by simpa using hlt)]
    simpa using h2
  · intro e a' w' ⟨K, hr, h⟩
    have fin : (dfr P K.d w' fun w' => resL P K w' fn.results.toList fun vs => R (tupV vs) w') → Leaves P fn a'.tmps (fun e w' => ∃ v, e = .returned v ∧ R v w') a'.defers .returning w' := fun h => by
      rw [hr.defers]
      refine leaves_dfr _ _ (dfr_mono (fun w2 hres => ?_) h)
      obtain ⟨vs, h1, h2, h3⟩ := resL_spec hr _ _ hres
      exact ⟨tupV vs, results_run (by simpa using h1) h2, _, rfl, h3⟩
    cases e with
    | normal => exact fin h
    | ret => exact fin h
    | _ => exact h.elim

end Go.Vc
end
