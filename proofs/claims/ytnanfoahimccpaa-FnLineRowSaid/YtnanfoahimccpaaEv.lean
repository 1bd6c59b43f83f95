/- An evaluator for code over numbers, bools and a few cells of the call's own, and its soundness: what it comes to, the code comes to, in whatever world. Its only condition: that the tables of callees and types, and the answers of a function value that was handed in, speak true. -/
import Derived.WalkKit
import Derived.LoopN
import Derived.Recover
import Derived.Below
import Derived.OneCell
namespace Go.Proofs.Ytnanfoahimccpaa.Ev
open Go Go.RowKit

/-- Values: an int, a uint64, a bool, a pointer to a cell of the call's own, pairs and triples, a closure over such cells, the function that was handed in; any other. -/
inductive V where
  | n (x : Int)
  | u (x : Int)
  | b (x : Bool)
  | p (i : Nat)
  | t2 (x y : V)
  | t3 (x y z : V)
  | f (k : Nat) (l : List Nat)
  | orc
  | o (v : Value)

def cellAt (B i : Nat) : Value := .pointer (some ⟨B + i, 0, none⟩)

def real (B : Nat) (F : Value) : V → Value
  | .n x => .int .i64 x
  | .u x => .int .u64 x
  | .b x => .bool x
  | .p i => cellAt B i
  | .t2 x y => .tuple #[real B F x, real B F y]
  | .t3 x y z => .tuple #[real B F x, real B F y, real B F z]
  | .f k l => .func (.func k) #[] (l.map (cellAt B)).toArray
  | .orc => F
  | .o v => v

def ieq (x y : Int) : Bool := match x, y with
  | .ofNat a, .ofNat c => Nat.beq a c
  | .negSucc a, .negSucc c => Nat.beq a c
  | _, _ => false
theorem ieq_eq (x y : Int) : ieq x y = (x == y) := by
  rw [Bool.eq_iff_iff, beq_iff_eq]
  cases x <;> cases y <;> simp [ieq] <;> omega

def ilt (x y : Int) : Bool := match x, y with
  | .ofNat a, .ofNat c => Nat.ble (a + 1) c
  | .ofNat _, .negSucc _ => false
  | .negSucc _, .ofNat _ => true
  | .negSucc a, .negSucc c => Nat.ble (c + 1) a
theorem ilt_eq (x y : Int) : ilt x y = decide (x < y) := by
  rw [Bool.eq_iff_iff, decide_eq_true_iff]
  cases x <;> cases y <;> simp [ilt, Nat.ble_eq] <;> omega

/-- What a type is. -/
inductive Ky where
  | i | u | b
def Ky.desc : Ky → TypeDesc
  | .i => .int .i64
  | .u => .int .u64
  | .b => .bool
def Ky.zero : Ky → V
  | .i => .n 0
  | .u => .u 0
  | .b => .b false

structure Cfg where
  P : Program
  /-- how many slots -/
  N : Nat
  /-- the call's own cells lie from here on -/
  B : Nat
  /-- the function value that was handed in -/
  F : Value
  /-- callees -/
  T : Nat → List V → Option V
  K : TypeId → Option Ky

structure St where
  env : Nat → V
  mem : List V
  top : Bool
  ans : List V
  dfr : List (Nat × List Nat)

def real1 (C : Cfg) (v : V) : Value := real C.B C.F v
def act (C : Cfg) (s : St) : Act := { tmps := Array.ofFn (n := C.N) fun i => real1 C (s.env i.val), defers := s.dfr.map fun d => { target := .fn (.func d.1) (d.2.map (cellAt C.B)).toArray, args := #[] } }

def rho (N : Nat) (env : Nat → V) (x : Operand) : V := match x with
  | .tmp t => (match Nat.blt t N with | true => env t | false => .o undef)
  | .const v => (match v with
    | .int k n => (match k with | .i64 => .n n | .u64 => .u n | _ => .o v)
    | .bool b => .b b
    | _ => .o v)
  | .global g => .o (.pointer (some ⟨g, 0, none⟩))
  | .func f => .o (.func (.func f) #[] #[])

theorem real_rho (C : Cfg) (s : St) (x : Operand) : real1 C (rho C.N s.env x) = (act C s).eval x := by
  cases x with
  | tmp t =>
    unfold rho Act.eval act real1
    by_cases h : t < C.N
    · have : Nat.blt t C.N = true := by simpa [Nat.blt_eq] using h
      simp [this, Array.getD, h]
    · have : Nat.blt t C.N = false := by
        cases hb : Nat.blt t C.N
        · rfl
        · exact absurd (by simpa [Nat.blt_eq] using hb) h
      simp [this, Array.getD, h, real]
  | const v => cases v <;> first | rfl | (rename_i k n; cases k <;> rfl)
  | global g => rfl
  | func f => rfl

def arith (op : BinOp) (x y : Int) : Option V := match op with
  | .eql => some (.b (ieq x y))
  | .neq => some (.b (!ieq x y))
  | .lss => some (.b (ilt x y))
  | .gtr => some (.b (ilt y x))
  | .leq => some (.b (!ilt y x))
  | .geq => some (.b (!ilt x y))
  | .add => some (.n (IntKind.i64.wrap (x + y)))
  | .sub => some (.n (IntKind.i64.wrap (x - y)))
  | .or => some (.n (bits .or .i64 x y))
  | .and => some (.n (bits .and .i64 x y))
  | .andNot => some (.n (bits .andNot .i64 x y))
  | _ => none
def arithU (op : BinOp) (x y : Int) : Option V := match op with
  | .eql => some (.b (ieq x y))
  | .or => some (.u (bits .or .u64 x y))
  | _ => none

/-- What an operation that only computes comes to. -/
def fop (C : Cfg) (env : Nat → V) (op : Op) : Option V := match op with
  | .move x => some (rho C.N env x)
  | .assign x => some (rho C.N env x)
  | .pick c a b => (match rho C.N env c with | .b true => some (rho C.N env a) | .b false => some (rho C.N env b) | _ => none)
  | .binOp op _ x y _ => (match rho C.N env x, rho C.N env y with
    | .n a, .n c => arith op a c
    | .u a, .u c => (match op with
      | .shl => (match y with | .const _ => (match ieq c 32 with | true => some (.u (IntKind.u64.wrap (a * 4294967296))) | false => none) | _ => none)
      | op => arithU op a c)
    | _, _ => none)
  | .unOp op _ x => (match op with
    | .not => (match rho C.N env x with | .b b => some (.b (!b)) | _ => none)
    | _ => none)
  | .convert s d x => (match C.K s, C.K d, rho C.N env x with
    | some .i, some .u, .n a => some (.u (IntKind.u64.wrap a))
    | _, _, _ => none)
  | .extract x i => (match rho C.N env x with
    | .t2 a b => (match i with | 0 => some a | 1 => some b | _ => none)
    | .t3 a b c => (match i with | 0 => some a | 1 => some b | 2 => some c | _ => none)
    | _ => none)
  | _ => none

/-- The table of types speaks true. -/
def Cfg.TypesOk (C : Cfg) : Prop := ∀ t k, C.K t = some k → C.P.underlying t = some k.desc ∧ ∃ i, C.P.info? t = some i ∧ i.size = 1 ∧ i.zero = some (real1 C k.zero)

theorem arith_sound {C : Cfg} {op : BinOp} {x y : Int} {v : V} (h : arith op x y = some v) (t : TypeId) (w : World) : (binOp op t (.int .i64 x) (.int .i64 y)).run C.P w = .ok (real1 C v) w := by
  cases op <;> simp only [arith, reduceCtorEq, Option.some.injEq] at h <;> subst h <;> simp [go_sem, real1, real, ieq_eq, ilt_eq, bne]
  all_goals (rw [Bool.eq_iff_iff]; simp)

theorem arithU_sound {C : Cfg} {op : BinOp} {x y : Int} {v : V} (h : arithU op x y = some v) (t : TypeId) (w : World) : (binOp op t (.int .u64 x) (.int .u64 y)).run C.P w = .ok (real1 C v) w := by
  cases op <;> simp only [arithU, reduceCtorEq, Option.some.injEq] at h <;> subst h <;> simp [go_sem, real1, real, ieq_eq]

theorem fop_sound {C : Cfg} (hK : C.TypesOk) {s : St} {o : Oper} {v : V} (h : fop C s.env o.op = some v) (w : World) : (execOp (act C s).eval o).run C.P w = .ok (.value (real1 C v)) w := by
  have hr := fun x => (real_rho C s x).symm
  generalize (act C s).eval = ρ at hr
  unfold fop at h
  unfold execOp
  cases hop : o.op <;> rw [hop] at h <;> simp only [reduceCtorEq] at h
  case move x => injection h with h; subst h; simp [hr]
  case assign x => injection h with h; subst h; simp [hr]
  case pick c a b =>
    cases hc : rho C.N s.env c <;> rw [hc] at h <;> try simp only [reduceCtorEq] at h
    rename_i t
    cases t <;> simp only [Option.some.injEq] at h <;> subst h <;> simp [hr, hc, go_sem, real1, real]
  case binOp op t x y t' =>
    cases hx : rho C.N s.env x <;> rw [hx] at h <;> try simp only [reduceCtorEq] at h
    · cases hy : rho C.N s.env y <;> rw [hy] at h <;> try simp only [reduceCtorEq] at h
      have e := arith_sound (C := C) h t w
      simp only [hr, hx, hy]
      simp only [real1, real] at e ⊢
      simp [go_sem, e]
    · cases hy : rho C.N s.env y <;> rw [hy] at h <;> try simp only [reduceCtorEq] at h
      rename_i a c
      by_cases hs : op = .shl
      · subst hs
        simp only at h
        cases y <;> simp only [reduceCtorEq] at h
        cases he : ieq c 32 <;> rw [he] at h <;> simp only [reduceCtorEq, Option.some.injEq] at h
        subst h
        rw [ieq_eq, beq_iff_eq] at he
        subst he
        simp only [hr, hx, hy]
        simp [go_sem, real1, real]
      · have h' : arithU op a c = some v := by cases op <;> first | exact absurd rfl hs | exact h
        have e := arithU_sound (C := C) h' t w
        simp only [hr, hx, hy]
        simp only [real1, real] at e ⊢
        simp [go_sem, e]
  case unOp op t x =>
    cases op <;> simp only [reduceCtorEq] at h
    cases hx : rho C.N s.env x <;> rw [hx] at h <;> simp only [reduceCtorEq, Option.some.injEq] at h
    subst h
    simp [hr, hx, go_sem, real1, real]
  case convert a b x =>
    cases ha : C.K a with
    | none => rw [ha] at h; simp at h
    | some ka =>
      cases hb : C.K b with
      | none => rw [ha, hb] at h; cases ka <;> simp at h
      | some kb =>
        rw [ha, hb] at h
        cases ka <;> cases kb <;> try simp only [reduceCtorEq] at h
        cases hx : rho C.N s.env x <;> rw [hx] at h <;> simp only [reduceCtorEq, Option.some.injEq] at h
        subst h
        have e1 := (hK a _ ha).1
        have e2 := (hK b _ hb).1
        simp only [Ky.desc] at e1 e2
        simp [hr, hx, go_sem, real1, real, e1, e2]
  case extract x i =>
    cases hx : rho C.N s.env x <;> rw [hx] at h <;> try simp only [reduceCtorEq] at h
    · rename_i a b
      rcases i with _ | _ | i <;> simp only [reduceCtorEq, Option.some.injEq] at h <;> subst h <;> simp [hr, hx, go_sem, real1, real]
    · rename_i a b c
      rcases i with _ | _ | _ | i <;> simp only [reduceCtorEq, Option.some.injEq] at h <;> subst h <;> simp [hr, hx, go_sem, real1, real]

/-- f at d is v. -/
def upd (env : Nat → V) (d : Option Nat) (v : V) : Nat → V := match d with
  | some d => fun t => match Nat.beq t d with | true => v | false => env t
  | none => env

def nthV (l : List V) (i : Nat) : Option V := match l with
  | [] => none
  | v :: l => match i with | 0 => some v | i + 1 => nthV l i
def setV (l : List V) (x : V) (i : Nat) : List V := match l with
  | [] => []
  | v :: l => match i with | 0 => x :: l | i + 1 => v :: setV l x i
theorem nthV_eq (l : List V) : ∀ i, nthV l i = l[i]? := by
  induction l with
  | nil => intro i; simp [nthV]
  | cons v l ih => intro i; cases i <;> simp [nthV, ih]
theorem setV_eq (l : List V) (x : V) : ∀ i, setV l x i = l.set i x := by
  induction l with
  | nil => intro i; simp [setV]
  | cons v l ih => intro i; cases i <;> simp [setV, ih]

def ptrs (l : List V) : Option (List Nat) := match l with
  | [] => some []
  | v :: l => match v with
    | .p i => (match ptrs l with | some r => some (i :: r) | none => none)
    | _ => none

def one (v : V) : Bool := match v with
  | .n _ => true | .u _ => true | .b _ => true | _ => false

def step (C : Cfg) (s : St) (d : Option Nat) (op : Op) : Option St :=
  match fop C s.env op with
  | some v => some ⟨upd s.env d v, s.mem, s.top, s.ans, s.dfr⟩
  | none => match op with
    | .box t x => (match s.top, one (rho C.N s.env x), C.K t with
      | true, true, some _ => some ⟨upd s.env d (.p s.mem.length), s.mem ++ [rho C.N s.env x], true, s.ans, s.dfr⟩
      | _, _, _ => none)
    | .alloc t => (match s.top, C.K t with
      | true, some k => some ⟨upd s.env d (.p s.mem.length), s.mem ++ [k.zero], true, s.ans, s.dfr⟩
      | _, _ => none)
    | .load t x => (match rho C.N s.env x, C.K t with
      | .p i, some _ => (match nthV s.mem i with
        | some v => some ⟨upd s.env d v, s.mem, s.top, s.ans, s.dfr⟩
        | none => none)
      | _, _ => none)
    | .store t x y => (match rho C.N s.env x, one (rho C.N s.env y), C.K t with
      | .p i, true, some _ => (match nthV s.mem i with
        | some _ => some ⟨upd s.env d (.o undef), setV s.mem (rho C.N s.env y) i, s.top, s.ans, s.dfr⟩
        | none => none)
      | _, _, _ => none)
    | .makeFunc fn first cap => (match fn, first.toList, ptrs (cap.toList.map (rho C.N s.env)) with
      | .func k, [], some l => some ⟨upd s.env d (.f k l), s.mem, s.top, s.ans, s.dfr⟩
      | _, _, _ => none)
    | .defer c => (match c.callee, c.args.toList with
      | .value x, [] => (match rho C.N s.env x with
        | .f k l => some ⟨upd s.env d (.o undef), s.mem, s.top, s.ans, (k, l) :: s.dfr⟩
        | _ => none)
      | _, _ => none)
    | .call c => (match c.callee with
      | .value x => (match x with
        | .func f => (match C.T f (c.args.toList.map (rho C.N s.env)) with
          | some v => some ⟨upd s.env d v, s.mem, false, s.ans, s.dfr⟩
          | none => none)
        | x => (match rho C.N s.env x, c.args.toList, s.ans with
          | .orc, [], v :: ans => some ⟨upd s.env d v, s.mem, false, ans, s.dfr⟩
          | _, _, _ => none))
      | _ => none)
    | _ => none

/-- What must hold of the world: what is known of the function that was handed in, and of the call's own cells. -/
structure Rel (C : Cfg) (I : List V → World → Prop) (s : St) (w : World) : Prop where
  inv : I s.ans w
  cells : ∀ i v, s.mem[i]? = some v → w.cell? ⟨C.B + i, 0, none⟩ = some (real1 C v) ∧ w.frozen? ⟨C.B + i, 0, none⟩ = false
  size : C.B + s.mem.length ≤ w.heap.size
  top : s.top = true → w.heap.size = C.B + s.mem.length
  ones : ∀ v, v ∈ s.mem → one v = true

/-- The tables and the function that was handed in speak true. -/
structure Cfg.Ok (C : Cfg) (I : List V → World → Prop) : Prop where
  types : C.TypesOk
  callee : ∀ f args v, C.T f args = some v → (∃ fn, C.P.funcs[f]? = some fn ∧ fn.body.isNone = false ∧ (fn.name == "runtime.NumGoroutine") = false) ∧
    ∀ w, Calls C.P f (args.map (real1 C)).toArray w fun e w' => e = .returned (real1 C v) ∧ Below w.heap.size w w'
  /-- what stands below the call's own cells is all that counts -/
  stays : ∀ ans w w', I ans w → Below C.B w w' → I ans w'
  asked : ∀ v ans w, C.B ≤ w.heap.size → I (v :: ans) w → ∃ f cap, C.F = .func (.func f) #[] cap ∧ (∃ fn, C.P.funcs[f]? = some fn ∧ fn.body.isNone = false ∧ (fn.name == "runtime.NumGoroutine") = false) ∧
    Calls C.P f cap w fun e w' => e = .returned (real1 C v) ∧ I ans w' ∧ w.heap.size ≤ w'.heap.size ∧ ∀ b, C.B ≤ b → b < w.heap.size → w'.heap[b]? = w.heap[b]?

theorem act_put (C : Cfg) (s : St) (d : Option Nat) (v : V) : (act C s).put d (real1 C v) = act C { s with env := upd s.env d v } := by
  cases d with
  | none => rfl
  | some d =>
    unfold Act.put act
    dsimp only
    congr 1
    apply Array.ext
    · simp
    · intro i h1 h2
      simp only [Array.size_setIfInBounds, Array.size_ofFn] at h1
      rw [Array.getElem_setIfInBounds (by simpa using h1), Array.getElem_ofFn, Array.getElem_ofFn]
      unfold upd
      dsimp only
      by_cases e : d = i
      · subst e
        have : Nat.beq d d = true := Nat.beq_refl d
        rw [if_pos rfl, this]
      · have : Nat.beq i d = false := by
          cases hb : Nat.beq i d
          · rfl
          · exact absurd (Nat.eq_of_beq_eq_true hb).symm e
        rw [if_neg e, this]

theorem act_undef (C : Cfg) (s : St) (d : Option Nat) : (act C s).put d undef = act C { s with env := upd s.env d (.o undef) } := act_put C s d (.o undef)

theorem run_enter {P : Program} {f : FuncId} (h : ∃ fn, P.funcs[f]? = some fn ∧ fn.body.isNone = false ∧ (fn.name == "runtime.NumGoroutine") = false) (args : Array Value) (w : World) :
    (callFunc f args).run P w = .ok (.enter f args) w := by
  obtain ⟨fn, h1, h2, h3⟩ := h
  have h2' : ¬ fn.body = none := fun e => by rw [e] at h2; exact absurd h2 (by simp)
  have h3' : ¬ fn.name = "runtime.NumGoroutine" := by simpa using h3
  unfold callFunc
  simp [go_sem, h1, h2', h3']

theorem one_cell {C : Cfg} {v : V} (h : one v = true) : (real1 C v).oneCell' = true ∧ (real1 C v).cells = #[real1 C v] := by
  cases v <;> first | exact ⟨rfl, rfl⟩ | exact absurd h (by simp [one])

section
variable {C : Cfg} {I : List V → World → Prop} (hC : C.Ok I) {s : St} {w : World}

theorem Rel.env {C : Cfg} {I : List V → World → Prop} {s : St} {w : World} (h : Rel C I s w) (env : Nat → V) : Rel C I { s with env := env } w := ⟨h.inv, h.cells, h.size, h.top, h.ones⟩

theorem Rel.new {C : Cfg} {I : List V → World → Prop} (hC : C.Ok I) {s : St} {w : World} (h : Rel C I s w) (ht : s.top = true) (v : V) (hv : one v = true) (t : TypeId) (env : Nat → V) :
    Rel C I ⟨env, s.mem ++ [v], true, s.ans, s.dfr⟩ (w.alloc (.cells #[real1 C v] t)) := by
  have hz := h.top ht
  refine ⟨hC.stays _ _ _ h.inv ((Below.refl C.B w).alloc (by omega) _), ?_, by simp; omega, fun _ => by simp; omega, ?_⟩
  · intro i u hu
    rcases Nat.lt_or_ge i s.mem.length with hi | hi
    · have hu' : s.mem[i]? = some u := by rwa [List.getElem?_append_left hi] at hu
      obtain ⟨h1, h2⟩ := h.cells i u hu'
      have hlt : C.B + i < w.heap.size := by omega
      exact ⟨by rw [World.cell?_alloc_past _ _ _ hlt]; exact h1, by
        have := (Below.refl (C.B + i + 1) w).alloc (by omega) (.cells #[real1 C v] t)
        rw [this.frozen (p := ⟨C.B + i, 0, none⟩) (by show C.B + i < C.B + i + 1; omega)]; exact h2⟩
    · have hi' : i = s.mem.length := by
        have := (List.getElem?_eq_some_iff.1 hu).1
        simp at this
        omega
      subst hi'
      have : u = v := by simpa using hu.symm
      subst this
      rw [← hz]
      exact ⟨by rw [World.cell?_alloc_at _ _ _ _ rfl]; rfl, World.frozen?_alloc_at _ _ _ _ rfl⟩
  · intro u hu
    rcases List.mem_append.1 hu with h1 | h1
    · exact h.ones u h1
    · rw [List.mem_singleton.1 h1]; exact hv

theorem Rel.set {C : Cfg} {I : List V → World → Prop} (hC : C.Ok I) {s : St} {w : World} (h : Rel C I s w) (i : Nat) (u v : V) (hi : s.mem[i]? = some u) (hv : one v = true) (env : Nat → V) :
    Rel C I ⟨env, s.mem.set i v, s.top, s.ans, s.dfr⟩ (w.setCell ⟨C.B + i, 0, none⟩ (real1 C v)) := by
  have hlt : i < s.mem.length := (List.getElem?_eq_some_iff.1 hi).1
  refine ⟨hC.stays _ _ _ h.inv ((Below.refl C.B w).setCell (by simp) _), ?_, by simp; exact h.size, fun ht => by simp; exact h.top ht, ?_⟩
  · intro j x hj
    by_cases e : i = j
    · subst e
      rw [List.getElem?_set_self hlt] at hj
      injection hj with hj
      subst hj
      obtain ⟨h1, h2⟩ := h.cells i u hi
      exact ⟨World.cell?_setCell_same _ _ _ h1, by rw [World.frozen?_setCell]; exact h2⟩
    · rw [List.getElem?_set_ne e] at hj
      obtain ⟨h1, h2⟩ := h.cells j x hj
      exact ⟨(World.cell?_setCell_other w _ _ _ (fun hh => by injection hh; omega)).trans h1, by rw [World.frozen?_setCell]; exact h2⟩
  · intro x hx
    rcases List.mem_or_eq_of_mem_set hx with h1 | h1
    · exact h.ones x h1
    · rw [h1]; exact hv

theorem ptrs_map {l : List V} : ∀ {r : List Nat}, ptrs l = some r → ∀ C : Cfg, l.map (real1 C) = r.map (cellAt C.B) := by
  induction l with
  | nil => intro r h C; simp only [ptrs, Option.some.injEq] at h; subst h; rfl
  | cons v l ih =>
    intro r h C
    unfold ptrs at h
    cases v <;> simp only [reduceCtorEq] at h
    cases hl : ptrs l <;> rw [hl] at h <;> simp only [reduceCtorEq, Option.some.injEq] at h
    subst h
    simp only [List.map_cons, ih hl C]
    rfl

theorem map_eval (C : Cfg) (s : St) (l : Array Operand) : l.map (act C s).eval = ((l.toList.map (rho C.N s.env)).map (real1 C)).toArray := by
  apply Array.ext'
  simp [real_rho]

theorem step_sound {C : Cfg} {I : List V → World → Prop} (hC : C.Ok I) {s s' : St} {w : World} {o : Oper} {K : Act → World → Prop} {Q : Exit → Act → World → Prop} (hs : step C s o.dst o.op = some s') (hw : Rel C I s w)
    (hK : ∀ w', Rel C I s' w' → K (act C s') w') : o.wp C.P (act C s) w K Q := by
  unfold step at hs
  cases hf : fop C s.env o.op with
  | some v =>
    rw [hf] at hs
    injection hs with hs
    subst hs
    unfold Oper.wp
    rw [fop_sound hC.types hf w, Oper.upon_value, act_put]
    exact hK w (hw.env _)
  | none =>
    rw [hf] at hs
    clear hf
    unfold Oper.wp execOp
    cases hop : o.op <;> rw [hop] at hs <;> try simp only [reduceCtorEq] at hs
    case box t x =>
      cases ht : s.top <;> rw [ht] at hs <;> try simp only [reduceCtorEq] at hs
      cases h1 : one (rho C.N s.env x) <;> rw [h1] at hs <;> try simp only [reduceCtorEq] at hs
      cases hk : C.K t <;> rw [hk] at hs <;> try simp only [reduceCtorEq, Option.some.injEq] at hs
      subst hs
      have hrun : (Instr.box t ((act C s).eval x)).run C.P w = .ok (real1 C (.p s.mem.length)) (w.alloc (.cells #[real1 C (rho C.N s.env x)] t)) := by
        rw [← real_rho]
        have hc := (one_cell (C := C) h1).2
        have hz := hw.top ht
        generalize real1 C (rho C.N s.env x) = y at hc ⊢
        unfold Instr.box newVar newRow
        rw [hc]
        simp [go_sem, real1, real, cellAt, hz]
      dsimp only
      simp only [Sem.run_bind, hrun, Result.andThen_ok, Sem.run_pure, Oper.upon_value, act_put]
      exact hK _ (Rel.new hC hw ht _ h1 t _)
    case alloc t =>
      cases ht : s.top <;> rw [ht] at hs <;> try simp only [reduceCtorEq] at hs
      cases hk : C.K t <;> rw [hk] at hs <;> try simp only [reduceCtorEq, Option.some.injEq] at hs
      rename_i k
      subst hs
      have h1 : one k.zero = true := by cases k <;> rfl
      have hrun : (Instr.alloc t true (.tuple #[])).run C.P w = .ok (real1 C (.p s.mem.length)) (w.alloc (.cells #[real1 C k.zero] t)) := by
        obtain ⟨_, i, hi, _, hz0⟩ := hC.types t k hk
        have hz := hw.top ht
        unfold Instr.alloc newVar newRow zeroValue typeInfo
        cases k <;> simp only [Ky.zero, real1, real] at hz0 ⊢ <;> simp [go_sem, hi, hz0, cellAt, hz]
      dsimp only
      simp only [Sem.run_bind, hrun, Result.andThen_ok, Sem.run_pure, Oper.upon_value, act_put]
      exact hK _ (Rel.new hC hw ht _ h1 t _)
    case load t x =>
      cases hx : rho C.N s.env x <;> rw [hx] at hs <;> try simp only [reduceCtorEq] at hs
      rename_i i
      cases hk : C.K t <;> rw [hk] at hs <;> try simp only [reduceCtorEq] at hs
      rename_i k
      cases hm : nthV s.mem i <;> rw [hm] at hs <;> try simp only [reduceCtorEq, Option.some.injEq] at hs
      rename_i v
      subst hs
      rw [nthV_eq] at hm
      obtain ⟨hcell, _⟩ := hw.cells i v hm
      have hrun : (Instr.loadAt t ((act C s).eval x)).run C.P w = .ok (real1 C v) w := by
        rw [← real_rho, hx]
        have hd := (hC.types t k hk).1
        unfold Instr.loadAt loadVar isAgg
        unfold real1 at hcell
        cases k <;> simp only [Ky.desc] at hd <;> simp [go_sem, real1, real, cellAt, run_underlying hd, hcell]
      dsimp only
      simp only [Sem.run_bind, hrun, Result.andThen_ok, Sem.run_pure, Oper.upon_value, act_put]
      exact hK w (hw.env _)
    case store t x y =>
      cases hx : rho C.N s.env x <;> rw [hx] at hs <;> try simp only [reduceCtorEq] at hs
      rename_i i
      cases h1 : one (rho C.N s.env y) <;> rw [h1] at hs <;> try simp only [reduceCtorEq] at hs
      cases hk : C.K t <;> rw [hk] at hs <;> try simp only [reduceCtorEq] at hs
      rename_i k
      cases hm : nthV s.mem i <;> rw [hm] at hs <;> try simp only [reduceCtorEq, Option.some.injEq] at hs
      rename_i v
      subst hs
      rw [setV_eq] at hK
      rw [nthV_eq] at hm
      obtain ⟨hcell, hfro⟩ := hw.cells i v hm
      have hrun : (Instr.storeAt t ((act C s).eval x) ((act C s).eval y)).run C.P w = .ok () (w.setCell ⟨C.B + i, 0, none⟩ (real1 C (rho C.N s.env y))) := by
        rw [← real_rho, hx, ← real_rho]
        obtain ⟨_, i0, hi, hz1, _⟩ := hC.types t k hk
        unfold real1 at hcell
        unfold Instr.storeAt storeVar sizeOf typeInfo
        cases hy : rho C.N s.env y <;> rw [hy] at h1 <;> first | (simp [go_sem, real1, real, cellAt, hi, hz1, hcell, hfro]; done) | exact absurd h1 (by simp [one])
      dsimp only
      simp only [Sem.run_bind, hrun, Result.andThen_ok, Sem.run_pure, Oper.upon_skip, act_undef]
      exact hK _ (Rel.set hC hw i v _ hm h1 _)
    case makeFunc fn first cap =>
      cases fn <;> try simp only [reduceCtorEq] at hs
      rename_i k
      cases hl : first.toList <;> rw [hl] at hs <;> try simp only [reduceCtorEq] at hs
      cases hp : ptrs (cap.toList.map (rho C.N s.env)) <;> rw [hp] at hs <;> try simp only [reduceCtorEq, Option.some.injEq] at hs
      rename_i l
      subst hs
      have hf : first = #[] := by
        apply Array.ext'
        simpa using hl
      have hrun : (Instr.makeFunc (.func k) (first.map (act C s).eval) (cap.map (act C s).eval)).run C.P w = .ok (real1 C (.f k l)) w := by
        rw [map_eval, map_eval, ptrs_map hp, hf]
        rfl
      dsimp only
      simp only [Sem.run_bind, hrun, Result.andThen_ok, Sem.run_pure, Oper.upon_value, act_put]
      exact hK w (hw.env _)
    case defer c =>
      cases hc : c.callee <;> rw [hc] at hs <;> try simp only [reduceCtorEq] at hs
      rename_i x
      cases hl : c.args.toList <;> rw [hl] at hs <;> try simp only [reduceCtorEq] at hs
      cases hx : rho C.N s.env x <;> rw [hx] at hs <;> try simp only [reduceCtorEq, Option.some.injEq] at hs
      rename_i k l
      subst hs
      have ha : c.args = #[] := by
        apply Array.ext'
        simpa using hl
      have hrun : (resolve (act C s).eval c o.type).run C.P w = .ok { target := .fn (.func k) (l.map (cellAt C.B)).toArray, args := #[] } w := by
        unfold resolve
        rw [hc]
        dsimp only
        rw [← real_rho, hx, ha]
        simp [Deferred.ofValue, go_sem, real1, real]
      dsimp only
      simp only [Sem.run_bind, hrun, Result.andThen_ok, Sem.run_pure, Oper.upon_defer]
      have e : ({ act C s with defers := { target := .fn (.func k) (l.map (cellAt C.B)).toArray, args := #[] } :: (act C s).defers } : Act).put o.dst undef = act C ⟨upd s.env o.dst (.o undef), s.mem, s.top, s.ans, (k, l) :: s.dfr⟩ := by
        have := act_undef C ⟨s.env, s.mem, s.top, s.ans, (k, l) :: s.dfr⟩ o.dst
        rw [← this]
        rfl
      rw [e]
      exact hK w ⟨hw.inv, hw.cells, hw.size, hw.top, hw.ones⟩
    case call c =>
      cases hc : c.callee <;> rw [hc] at hs <;> try simp only [reduceCtorEq] at hs
      rename_i x
      by_cases hfx : ∃ f, x = .func f
      · obtain ⟨f, rfl⟩ := hfx
        dsimp only at hs
        cases hT : C.T f (c.args.toList.map (rho C.N s.env)) <;> rw [hT] at hs <;> try simp only [reduceCtorEq, Option.some.injEq] at hs
        rename_i v
        subst hs
        obtain ⟨hfn, hcall⟩ := hC.callee _ _ _ hT
        have hrun : (resolve (act C s).eval c o.type).run C.P w = .ok { target := .fn (.func f) #[], args := ((c.args.toList.map (rho C.N s.env)).map (real1 C)).toArray } w := by
          unfold resolve
          rw [hc]
          dsimp only
          rw [map_eval]
          simp [Deferred.ofValue, go_sem, Act.eval]
        dsimp only
        simp only [Sem.run_bind, hrun, Result.andThen_ok, invoke, Array.append_empty, run_enter hfn, Oper.upon_enter]
        refine (hcall w).mono ?_
        rintro e w' ⟨rfl, hb⟩
        dsimp only
        rw [act_put]
        refine hK _ ⟨hC.stays _ _ _ hw.inv (hb.mono (by have := hw.size; omega)), ?_, by have := hw.size; have := hb.size; show C.B + s.mem.length ≤ _; omega, fun h => absurd h (by simp), hw.ones⟩
        intro i u hu
        obtain ⟨h1, h2⟩ := hw.cells i u hu
        have hlt : i < s.mem.length := (List.getElem?_eq_some_iff.1 hu).1
        have hsz : C.B + i < w.heap.size := by have := hw.size; omega
        exact ⟨(hb.cell (p := ⟨C.B + i, 0, none⟩) hsz).trans h1, (hb.frozen (p := ⟨C.B + i, 0, none⟩) hsz).trans h2⟩
      · have hs' : (match rho C.N s.env x, c.args.toList, s.ans with
          | .orc, [], v :: ans => some (⟨upd s.env o.dst v, s.mem, false, ans, s.dfr⟩ : St)
          | _, _, _ => none) = some s' := by
          cases x <;> first | exact hs | exact absurd ⟨_, rfl⟩ hfx
        cases hx : rho C.N s.env x <;> rw [hx] at hs' <;> try simp only [reduceCtorEq] at hs'
        cases hl : c.args.toList <;> rw [hl] at hs' <;> try simp only [reduceCtorEq] at hs'
        cases han : s.ans <;> rw [han] at hs' <;> try simp only [reduceCtorEq, Option.some.injEq] at hs'
        rename_i v ans
        subst hs'
        obtain ⟨f, cap, hF, hfn, hcall⟩ := hC.asked v ans w (by have := hw.size; omega) (by rw [← han]; exact hw.inv)
        have ha : c.args = #[] := by
          apply Array.ext'
          simpa using hl
        have hrun : (resolve (act C s).eval c o.type).run C.P w = .ok { target := .fn (.func f) cap, args := #[] } w := by
          unfold resolve
          rw [hc]
          dsimp only
          rw [← real_rho, hx, ha]
          simp [Deferred.ofValue, go_sem, real1, real, hF]
        dsimp only
        simp only [Sem.run_bind, hrun, Result.andThen_ok, invoke, Array.empty_append, run_enter hfn, Oper.upon_enter]
        refine hcall.mono ?_
        rintro e w' ⟨rfl, hI, hsz, hb⟩
        dsimp only
        rw [act_put]
        refine hK _ ⟨hI, ?_, by have := hw.size; show C.B + s.mem.length ≤ _; omega, fun h => absurd h (by simp), hw.ones⟩
        intro i u hu
        obtain ⟨h1, h2⟩ := hw.cells i u hu
        have hlt : i < s.mem.length := (List.getElem?_eq_some_iff.1 hu).1
        have hblk := hb (C.B + i) (by omega) (by have := hw.size; omega)
        exact ⟨by simpa [World.cell?, hblk] using h1, by simpa [World.frozen?, hblk] using h2⟩
end

def nthO (l : List Oper) (i : Nat) : Option Oper := match l with
  | [] => none
  | v :: l => match i with | 0 => some v | i + 1 => nthO l i
theorem nthO_eq (l : List Oper) : ∀ i, nthO l i = l[i]? := by
  induction l with
  | nil => intro i; simp [nthO]
  | cons v l ih => intro i; cases i <;> simp [nthO, ih]

/-- Is the operation wanted? -/
def want (N : Nat) (ops : List Oper) (env : Nat → V) (g : Option (Nat × Bool)) : Option Bool := match g with
  | none => some true
  | some jb => (match nthO ops jb.1 with
    | some o => (match o.dst with
      | some d => (match Nat.blt d N, env d with
        | true, .b c => some (match c, jb.2 with | true, true => true | false, false => true | _, _ => false)
        | true, .o v => (match v with | .tuple _ => some false | _ => none)
        | _, _ => none)
      | none => none)
    | none => none)

theorem want_sound {C : Cfg} {ops : Array Oper} {s : St} {o : Oper} {b : Bool} (h : want C.N ops.toList s.env o.guard = some b) : Region.wanted o (yielded ops (act C s).tmps) = b := by
  unfold want at h
  unfold Region.wanted
  cases hg : o.guard with
  | none => rw [hg] at h; simpa using h
  | some jb =>
    obtain ⟨j, t⟩ := jb
    rw [hg] at h
    dsimp only at h ⊢
    rw [nthO_eq, Array.getElem?_toList] at h
    cases ho : ops[j]? <;> rw [ho] at h <;> try simp only [reduceCtorEq] at h
    rename_i o'
    cases hd : o'.dst <;> rw [hd] at h <;> try simp only [reduceCtorEq] at h
    rename_i d
    cases hb : Nat.blt d C.N <;> rw [hb] at h <;> try simp only [reduceCtorEq] at h
    have hlt : d < C.N := by simpa [Nat.blt_eq] using hb
    have ht : (act C s).tmps[d]? = some (real1 C (s.env d)) := by
      unfold act
      simp [hlt]
    unfold yielded
    rw [ho]
    simp only [Option.bind_some, hd, ht]
    cases he : s.env d <;> rw [he] at h <;> try simp only [reduceCtorEq] at h
    · rename_i c
      cases c <;> cases t <;> simp only [Option.some.injEq] at h <;> subst h <;> simp [real1, real]
    · rename_i v
      cases v <;> simp only [reduceCtorEq, Option.some.injEq] at h
      subst h
      simp [real1, real]

def evalOps (C : Cfg) (ops : List Oper) (l : List Oper) : St → Option St := match l with
  | [] => fun s => some s
  | o :: l => fun s => match want C.N ops s.env o.guard with
    | some true => (match step C s o.dst o.op with | some s' => evalOps C ops l s' | none => none)
    | some false => evalOps C ops l ⟨upd s.env o.dst (.o undef), s.mem, s.top, s.ans, s.dfr⟩
    | none => none

theorem evalOps_sound {C : Cfg} {I : List V → World → Prop} (hC : C.Ok I) {ops : Array Oper} {Q : Exit → Act → World → Prop} (l : List Oper) :
    ∀ {s s' : St} {w : World}, evalOps C ops.toList l s = some s' → Rel C I s w → (∀ w', Rel C I s' w' → Q .normal (act C s') w') → wpList C.P ops Q l (act C s) w := by
  induction l with
  | nil =>
    intro s s' w h hw hQ
    simp only [evalOps, Option.some.injEq] at h
    subst h
    exact hQ w hw
  | cons o l ih =>
    intro s s' w h hw hQ
    simp only [evalOps] at h
    unfold wpList
    cases hg : want C.N ops.toList s.env o.guard with
    | none => rw [hg] at h; exact absurd h (by simp)
    | some b =>
      rw [hg] at h
      rw [want_sound hg]
      cases b with
      | false =>
        simp only [Bool.false_eq_true, if_false]
        rw [act_undef]
        exact ih h (hw.env _) hQ
      | true =>
        simp only [if_true]
        dsimp only at h
        cases hs : step C s o.dst o.op with
        | none => rw [hs] at h; exact absurd h (by simp)
        | some s1 =>
          rw [hs] at h
          exact .inl (step_sound hC hs hw fun w' hw' => ih h hw' hQ)

/-- How code is left. -/
inductive X where
  | normal
  | ret
  | exit (n : Nat)
def X.real : X → Exit
  | .normal => .normal
  | .ret => .ret
  | .exit n => .exit n

def evalCode (C : Cfg) (c : Code) : St → Option (X × St) := match c with
  | .skip => fun s => some (.normal, s)
  | .region _ ops d => fun s => (match d with
    | false => (match evalOps C ops.toList ops.toList s with | some s' => some (.normal, s') | none => none)
    | true => none)
  | .seq x y => fun s => (match evalCode C x s with
    | some r => (match r.1 with | .normal => evalCode C y r.2 | _ => some r)
    | none => none)
  | .cond c x y => fun s => (match rho C.N s.env c with
    | .b b => (match b with | true => evalCode C x s | false => evalCode C y s)
    | _ => none)
  | .block id c => fun s => (match evalCode C c s with
    | some r => (match r.1 with | .exit i => (match Nat.beq i id with | true => some (.normal, r.2) | false => some r) | _ => some r)
    | none => none)
  | .exit id => fun s => some (.exit id, s)
  | .label _ => fun s => some (.normal, s)
  | .ret => fun s => some (.ret, s)
  | _ => fun _ => none

theorem evalCode_sound {C : Cfg} {I : List V → World → Prop} (hC : C.Ok I) (c : Code) :
    ∀ (Q : Exit → Act → World → Prop) {s s' : St} {e : X} {w : World}, evalCode C c s = some (e, s') → Rel C I s w → (∀ w', Rel C I s' w' → Q e.real (act C s') w') → c.wp C.P Q (act C s) w := by
  induction c with
  | skip =>
    intro Q s s' e w h hw hQ
    simp only [evalCode, Option.some.injEq, Prod.mk.injEq] at h
    obtain ⟨rfl, rfl⟩ := h
    exact wp_skip (hQ w hw)
  | region id ops d =>
    intro Q s s' e w h hw hQ
    simp only [evalCode] at h
    cases d with
    | true => exact absurd h (by simp)
    | false =>
      dsimp only at h
      cases ho : evalOps C ops.toList ops.toList s with
      | none => rw [ho] at h; exact absurd h (by simp)
      | some s1 =>
        rw [ho] at h
        simp only [Option.some.injEq, Prod.mk.injEq] at h
        obtain ⟨rfl, rfl⟩ := h
        exact wp_region_list (evalOps_sound hC _ ho hw hQ)
  | seq x y ihx ihy =>
    intro Q s s' e w h hw hQ
    simp only [evalCode] at h
    cases hx : evalCode C x s with
    | none => rw [hx] at h; exact absurd h (by simp)
    | some r =>
      obtain ⟨e1, s1⟩ := r
      rw [hx] at h
      refine wp_seq (ihx _ hx hw fun w' hw' => ?_)
      cases e1
      case normal => exact ihy _ h hw' hQ
      all_goals
        simp only [Option.some.injEq, Prod.mk.injEq] at h
        obtain ⟨rfl, rfl⟩ := h
        exact hQ w' hw'
  | cond c x y ihx ihy =>
    intro Q s s' e w h hw hQ
    simp only [evalCode] at h
    cases hc : rho C.N s.env c <;> rw [hc] at h <;> try simp only [reduceCtorEq] at h
    rename_i b
    have he : (act C s).eval c = .bool b := by rw [← real_rho, hc]; rfl
    cases b
    · exact wp_cond_false he (ihy _ h hw hQ)
    · exact wp_cond_true he (ihx _ h hw hQ)
  | block id c ih =>
    intro Q s s' e w h hw hQ
    simp only [evalCode] at h
    cases hx : evalCode C c s with
    | none => rw [hx] at h; exact absurd h (by simp)
    | some r =>
      obtain ⟨e1, s1⟩ := r
      rw [hx] at h
      refine wp_block (ih _ hx hw fun w' hw' => ?_)
      cases e1
      case exit i =>
        dsimp only at h
        cases hb : Nat.beq i id with
        | true =>
          rw [hb] at h
          simp only [Option.some.injEq, Prod.mk.injEq] at h
          obtain ⟨rfl, rfl⟩ := h
          simp only [X.real, Exit.inBlock, Nat.eq_of_beq_eq_true hb, if_true]
          exact hQ w' hw'
        | false =>
          rw [hb] at h
          simp only [Option.some.injEq, Prod.mk.injEq] at h
          obtain ⟨rfl, rfl⟩ := h
          simp only [X.real, Exit.inBlock, Nat.ne_of_beq_eq_false hb, if_false]
          exact hQ w' hw'
      all_goals
        simp only [Option.some.injEq, Prod.mk.injEq] at h
        obtain ⟨rfl, rfl⟩ := h
        exact hQ w' hw'
  | exit id =>
    intro Q s s' e w h hw hQ
    simp only [evalCode, Option.some.injEq, Prod.mk.injEq] at h
    obtain ⟨rfl, rfl⟩ := h
    exact wp_exit (hQ w hw)
  | label l =>
    intro Q s s' e w h hw hQ
    simp only [evalCode, Option.some.injEq, Prod.mk.injEq] at h
    obtain ⟨rfl, rfl⟩ := h
    exact wp_label (hQ w hw)
  | ret =>
    intro Q s s' e w h hw hQ
    simp only [evalCode, Option.some.injEq, Prod.mk.injEq] at h
    obtain ⟨rfl, rfl⟩ := h
    exact wp_ret (hQ w hw)
  | loop => intro Q s s' e w h; exact absurd h (by simp [evalCode])
  | rangeFunc => intro Q s s' e w h; exact absurd h (by simp [evalCode])
  | scope => intro Q s s' e w h; exact absurd h (by simp [evalCode])
  | goto => intro Q s s' e w h; exact absurd h (by simp [evalCode])
  | refuse => intro Q s s' e w h; exact absurd h (by simp [evalCode])

/-- The first n statements of a row, and the rest. -/
def cutAt (n : Nat) (c : Code) : Code × Code := match n with
  | 0 => (.skip, c)
  | n + 1 => match c with
    | .seq x y => (.seq x (cutAt n y).1, (cutAt n y).2)
    | c => (.skip, c)

theorem eval_cut {C : Cfg} {I : List V → World → Prop} (hC : C.Ok I) (n : Nat) :
    ∀ (c : Code) (Q : Exit → Act → World → Prop) {s s' : St} {e : X} {w : World}, evalCode C (cutAt n c).1 s = some (e, s') → Rel C I s w →
      (∀ w', Rel C I s' w' → match e with | .normal => (cutAt n c).2.wp C.P Q (act C s') w' | e => Q e.real (act C s') w') → c.wp C.P Q (act C s) w := by
  induction n with
  | zero =>
    intro c Q s s' e w h hw hQ
    simp only [cutAt, evalCode, Option.some.injEq, Prod.mk.injEq] at h
    obtain ⟨rfl, rfl⟩ := h
    exact hQ w hw
  | succ n ih =>
    intro c Q s s' e w h hw hQ
    cases c
    case seq x y =>
      simp only [cutAt, evalCode] at h hQ
      cases hx : evalCode C x s with
      | none => rw [hx] at h; exact absurd h (by simp)
      | some r =>
        obtain ⟨e1, s1⟩ := r
        rw [hx] at h
        refine wp_seq (evalCode_sound hC x _ hx hw fun w' hw' => ?_)
        cases e1
        case normal => exact ih y Q h hw' hQ
        all_goals
          simp only [Option.some.injEq, Prod.mk.injEq] at h
          obtain ⟨rfl, rfl⟩ := h
          exact hQ w' hw'
    all_goals
      simp only [cutAt, evalCode, Option.some.injEq, Prod.mk.injEq] at h
      obtain ⟨rfl, rfl⟩ := h
      exact hQ w hw

def argEnv (l : List V) (t : Nat) : V := match l with
  | [] => .o undef
  | v :: l => match t with | 0 => v | t + 1 => argEnv l t
theorem argEnv_eq (l : List V) : ∀ t, argEnv l t = (l[t]?).getD (.o undef) := by
  induction l with
  | nil => intro t; simp [argEnv]
  | cons v l ih => intro t; cases t <;> simp [argEnv, ih]

def enter (l : List V) (ans : List V) : St := ⟨argEnv l, [], true, ans, []⟩

theorem act_enter (C : Cfg) (l ans : List V) (h : l.length ≤ C.N) :
    ({ tmps := (l.map (real1 C)).toArray ++ Array.replicate (C.N - (l.map (real1 C)).toArray.size) undef, defers := [] } : Act) = act C (enter l ans) := by
  unfold act enter
  simp only [List.map_nil]
  congr 1
  apply Array.ext
  · simp; omega
  · intro i h1 h2
    simp only [Array.size_ofFn] at h2
    rw [Array.getElem_ofFn]
    dsimp only
    rw [argEnv_eq]
    by_cases hi : i < l.length
    · rw [Array.getElem_append_left (by simpa using hi)]
      simp [hi, real1]
    · rw [Array.getElem_append_right (by simpa using hi)]
      have : l[i]? = none := List.getElem?_eq_none (by omega)
      simp [this, real1, real]

def body (fn : Func) : Code := fn.body.getD .skip

/-- A call, with its whole code still to be walked. -/
theorem calls_of_body {C : Cfg} {f : Nat} {fn : Func} (hf : C.P.funcs[f]? = some fn) (hb : fn.body.isNone = false) (hN : C.N = fn.ntmps) {l ans : List V} (hl : l.length ≤ C.N) {w : World} {R : Ending → World → Prop}
    (h : (body fn).wp C.P (bodyPost C.P fn R) (act C (enter l ans)) w) : Calls C.P f (l.map (real1 C)).toArray w R := by
  cases hc : fn.body with
  | none => rw [hc] at hb; exact absurd hb (by simp)
  | some c =>
    refine calls_of_wp hf hc ?_
    have e := act_enter C l ans hl
    rw [hN] at e
    rw [e]
    have : body fn = c := by unfold body; rw [hc]; rfl
    rw [← this]
    exact h

theorem act_getD (C : Cfg) (s : St) {t : Nat} (h : t < C.N) : (act C s).tmps.getD t undef = real1 C (s.env t) := by
  unfold act
  simp [Array.getD, h]

theorem results_tmp3 {fn : Func} {t u v : Tmp} (h : fn.results = #[.tmp t, .tmp u, .tmp v]) (tmps : Array Value) (P : Program) (w : World) :
    (results fn tmps).run P w = .ok (.tuple #[tmps.getD t undef, tmps.getD u undef, tmps.getD v undef]) w := by
  simp [results, h]

/-- Two results, both numbers or bools. -/
def out2 (i j : Nat) (r : Option (X × St)) : Option (V × V) := match r with
  | some (.ret, s) => (match s.dfr with | [] => some (s.env i, s.env j) | _ => none)
  | _ => none
def out3 (i j k : Nat) (r : Option (X × St)) : Option (V × V × V) := match r with
  | some (.ret, s) => (match s.dfr with | [] => some (s.env i, s.env j, s.env k) | _ => none)
  | _ => none

theorem out3_eq {i j k : Nat} {r : Option (X × St)} {x y z : V} (h : out3 i j k r = some (x, y, z)) : ∃ s, r = some (.ret, s) ∧ s.dfr = [] ∧ s.env i = x ∧ s.env j = y ∧ s.env k = z := by
  unfold out3 at h
  cases r with
  | none => simp at h
  | some r =>
    obtain ⟨e, s⟩ := r
    cases e <;> simp only [reduceCtorEq] at h
    cases hd : s.dfr <;> rw [hd] at h <;> simp only [reduceCtorEq, Option.some.injEq, Prod.mk.injEq] at h
    exact ⟨s, rfl, hd, h.1, h.2.1, h.2.2⟩

theorem post3 {C : Cfg} {s : St} {fn : Func} {i j k : Nat} (hr : fn.results = #[.tmp i, .tmp j, .tmp k]) (hi : i < C.N) (hj : j < C.N) (hk : k < C.N) (hd : s.dfr = []) {w : World} {R : Ending → World → Prop}
    (h : R (.returned (.tuple #[real1 C (s.env i), real1 C (s.env j), real1 C (s.env k)])) w) : bodyPost C.P fn R .ret (act C s) w := by
  refine ⟨by unfold act; rw [hd]; rfl, _, results_tmp3 hr _ _ _, ?_⟩
  rw [act_getD C s hi, act_getD C s hj, act_getD C s hk]
  exact h

theorem Rel.enter {C : Cfg} {I : List V → World → Prop} {l ans : List V} {w : World} (h : I ans w) (hB : C.B = w.heap.size) : Rel C I (enter l ans) w :=
  ⟨h, fun i v hv => by simp [Ev.enter] at hv, by simp [Ev.enter, hB], fun _ => by simp [Ev.enter, hB], fun v hv => by simp [Ev.enter] at hv⟩

/-- What stood when the call began stands. -/
def Kept (w0 : World) : List V → World → Prop := fun ans w => ans = [] ∧ Below w0.heap.size w0 w

/-- Some slots of it, its cells, the answers that are left, what is deferred. -/
def view (l : List Nat) (r : Option (X × St)) : Option (X × List V × List V × List V × List (Nat × List Nat)) := match r with
  | some q => some (q.1, l.map q.2.env, q.2.mem, q.2.ans, q.2.dfr)
  | none => none
theorem view_eq {l : List Nat} {r : Option (X × St)} {e : X} {vs m a : List V} {d : List (Nat × List Nat)} (h : view l r = some (e, vs, m, a, d)) :
    ∃ env top, r = some (e, ⟨env, m, top, a, d⟩) ∧ l.map env = vs := by
  cases r with
  | none => exact absurd h (by simp [view])
  | some q =>
    obtain ⟨e1, env, m1, top, a1, d1⟩ := q
    simp only [view, Option.some.injEq, Prod.mk.injEq] at h
    obtain ⟨rfl, rfl, rfl, rfl, rfl⟩ := h
    exact ⟨env, top, rfl, rfl⟩

/-- What is known of a state's slots, laid over it. -/
def ov (l : List Nat) (vs : List V) (env : Nat → V) : Nat → V := match l with
  | [] => env
  | t :: l => match vs with
    | [] => env
    | v :: vs => fun x => match Nat.beq x t with | true => v | false => ov l vs env x
theorem ov_self (env : Nat → V) (l : List Nat) : ov l (l.map env) env = env := by
  induction l with
  | nil => rfl
  | cons t l ih =>
    funext x
    simp only [List.map_cons, ov]
    cases hb : Nat.beq x t with
    | true => rw [Nat.eq_of_beq_eq_true hb]
    | false => rw [ih]

def fstOf (c : Code) : Code := match c with | .seq x _ => x | _ => .skip
def sndOf (c : Code) : Code := match c with | .seq _ y => y | _ => .skip
def thenOf (c : Code) : Code := match c with | .cond _ x _ => x | _ => .skip
theorem map_at {α β : Type} {f g : α → β} {l : List α} (h : l.map f = l.map g) {x : α} (hx : x ∈ l) : f x = g x := List.map_inj_left.1 h x hx

theorem eval_bool {C : Cfg} {s : St} {t : Nat} {b : Bool} (h : t < C.N) (e : s.env t = .b b) : (act C s).eval (.tmp t) = .bool b := by
  show (act C s).tmps.getD t undef = _
  rw [act_getD C s h, e]
  rfl
end Go.Proofs.Ytnanfoahimccpaa.Ev
