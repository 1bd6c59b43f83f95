/- The evaluator at regions that draw their order, and at calls that have deferred a closure over cells of their own. Its only condition: as in Ev. -/
import Derived.Test.YtnanfoahimccpaaEv
import Derived.Defers
import Derived.Orders
namespace Go.Proofs.Ytnanfoahimccpaa.Ev
open Go Go.RowKit

/-! ### Which operations may come next -/
def isIn (l : List Bool) (i : Nat) (d : Bool) : Bool := match l with
  | [] => d
  | b :: l => match i with | 0 => b | i + 1 => isIn l i d
theorem isIn_eq (l : List Bool) : ∀ i d, isIn l i d = (l[i]?).getD d := by
  induction l with
  | nil => intro i d; simp [isIn]
  | cons b l ih => intro i d; cases i <;> simp [isIn, ih]
def setB (l : List Bool) (i : Nat) : List Bool := match l with
  | [] => []
  | b :: l => match i with | 0 => true :: l | i + 1 => b :: setB l i
theorem setB_eq (l : List Bool) : ∀ i, setB l i = l.set i true := by
  induction l with
  | nil => intro i; simp [setB]
  | cons b l ih => intro i; cases i <;> simp [setB, ih]
def allE (f : Edge → Bool) (l : List Edge) : Bool := match l with
  | [] => true
  | e :: l => match f e with | true => allE f l | false => false
theorem allE_eq (f : Edge → Bool) (l : List Edge) : allE f l = l.all f := by
  induction l with
  | nil => rfl
  | cons e l ih => simp only [allE, List.all_cons]; cases f e <;> simp [ih]
/-- From the operation k on: those that aren't listed and wait for none. -/
def rdy (listed : List Bool) (l : List Oper) (k : Nat) : List Nat := match l with
  | [] => []
  | o :: l => match isIn listed k true with
    | true => rdy listed l (k + 1)
    | false => match allE (fun e => !Region.binds .any e || isIn listed e.on false) o.after.toList with
      | true => k :: rdy listed l (k + 1)
      | false => rdy listed l (k + 1)

theorem rdy_eq (listed : List Bool) (ops : List Oper) : ∀ (l : List Oper) (k : Nat), ops.drop k = l →
    rdy listed l k = (List.range' k l.length).filter fun i => !listed.toArray.getD i true && ((ops.toArray[i]?).map (·.after.all fun e => !Region.binds .any e || listed.toArray.getD e.on false)).getD false := by
  intro l
  induction l with
  | nil => intro k _; rfl
  | cons o l ih =>
    intro k hk
    have hlt : k < ops.length := by
      rcases Nat.lt_or_ge k ops.length with h | h
      · exact h
      · rw [List.drop_eq_nil_of_le h] at hk; exact absurd hk (by simp)
    have ho : ops[k]? = some o := by
      rw [List.drop_eq_getElem_cons hlt] at hk
      injection hk with h1 h2
      rw [List.getElem?_eq_getElem hlt, h1]
    have hd : ops.drop (k + 1) = l := by
      rw [List.drop_eq_getElem_cons hlt] at hk
      injection hk with h1 h2
    have e1 : ∀ i d, listed.toArray.getD i d = isIn listed i d := by
      intro i d
      rw [isIn_eq]
      simp [Array.getD_eq_getD_getElem?]
    rw [List.length_cons, List.range'_succ, List.filter_cons, ← ih (k + 1) hd]
    simp only [rdy, e1, allE_eq, List.getElem?_toArray, ho, Option.map_some, Option.getD_some]
    have e2 : (o.after.all fun e => !Region.binds .any e || isIn listed e.on false) = o.after.toList.all fun e => !Region.binds .any e || isIn listed e.on false := by
      rw [Array.all_toList]
    rw [e2]
    cases isIn listed k true <;> cases (o.after.toList.all fun e => !Region.binds .any e || isIn listed e.on false) <;> first | rfl | simp

theorem ready_eq (listed : List Bool) (ops : List Oper) : Region.ready .any ops.toArray listed.toArray = rdy listed ops 0 := by
  rw [rdy_eq listed ops ops 0 (by simp)]
  unfold Region.ready
  rw [List.range_eq_range']
  simp

/-! ### One operation of a region -/
def evalOne (C : Cfg) (ops : List Oper) (i : Nat) (s : St) : Option St := match nthO ops i with
  | some o => (match want C.N ops s.env o.guard with
    | some true => step C s o.dst o.op
    | some false => some ⟨upd s.env o.dst (.o undef), s.mem, s.top, s.ans, s.dfr⟩
    | none => none)
  | none => none

theorem evalOne_sound {C : Cfg} {I : List V → World → Prop} (hC : C.Ok I) {ops : Array Oper} {Q : Exit → Act → World → Prop} {K : Act → World → Prop} {i : Nat} {s s' : St} {w : World}
    (h : evalOne C ops.toList i s = some s') (hw : Rel C I s w) (hK : ∀ w', Rel C I s' w' → K (act C s') w') : wpOp C.P ops Q i K (act C s) w := by
  unfold evalOne at h
  rw [nthO_eq, Array.getElem?_toList] at h
  unfold wpOp
  cases ho : ops[i]? with
  | none => rw [ho] at h; exact absurd h (by simp)
  | some o =>
    rw [ho] at h
    dsimp only at h ⊢
    cases hg : want C.N ops.toList s.env o.guard with
    | none => rw [hg] at h; exact absurd h (by simp)
    | some b =>
      rw [hg] at h
      rw [want_sound hg]
      cases b with
      | false =>
        simp only [Option.some.injEq] at h
        subst h
        simp only [Bool.false_eq_true, if_false]
        rw [act_undef]
        exact hK w (hw.env _)
      | true =>
        simp only [if_true]
        exact .inl (step_sound hC h hw hK)

/-! ### All orders -/
def joinO (x y : Option (List St)) : Option (List St) := match x with
  | some l => (match y with | some r => some (l ++ r) | none => none)
  | none => none
def each (f : Nat → Option (List St)) (l : List Nat) : Option (List St) := match l with
  | [] => some []
  | i :: l => joinO (f i) (each f l)
def evalDraw (C : Cfg) (ops : List Oper) (n : Nat) (listed : List Bool) (s : St) : Option (List St) := match n with
  | 0 => (match rdy listed ops 0 with | [] => some [s] | _ => none)
  | n + 1 => (match rdy listed ops 0 with
    | [] => some [s]
    | i :: l => each (fun i => match evalOne C ops i s with | some s' => evalDraw C ops n (setB listed i) s' | none => none) (i :: l))

theorem each_mem {f : Nat → Option (List St)} {l : List Nat} {L : List St} (h : each f l = some L) {i : Nat} (hi : i ∈ l) : ∃ L', f i = some L' ∧ ∀ s ∈ L', s ∈ L := by
  induction l generalizing L with
  | nil => exact absurd hi (by simp)
  | cons j l ih =>
    unfold each joinO at h
    cases hj : f j with
    | none => rw [hj] at h; exact absurd h (by simp)
    | some a =>
      rw [hj] at h
      cases hl : each f l with
      | none => rw [hl] at h; exact absurd h (by simp)
      | some b =>
        rw [hl] at h
        simp only [Option.some.injEq] at h
        subst h
        rcases List.mem_cons.1 hi with rfl | hi
        · exact ⟨a, hj, fun s hs => List.mem_append_left _ hs⟩
        · obtain ⟨L', h1, h2⟩ := ih hl hi
          exact ⟨L', h1, fun s hs => List.mem_append_right _ (h2 s hs)⟩

theorem evalDraw_sound {C : Cfg} {I : List V → World → Prop} (hC : C.Ok I) {ops : Array Oper} {Q : Exit → Act → World → Prop} (n : Nat) :
    ∀ (listed : List Bool) {s : St} {L : List St} {w : World}, evalDraw C ops.toList n listed s = some L → Rel C I s w → (∀ s' ∈ L, ∀ w', Rel C I s' w' → Q .normal (act C s') w') →
      wpAny C.P .any ops Q n listed.toArray (act C s) w := by
  have hr : ∀ listed : List Bool, Region.ready .any ops listed.toArray = rdy listed ops.toList 0 := fun listed => by
    have := ready_eq listed ops.toList
    rwa [Array.toArray_toList] at this
  induction n with
  | zero =>
    intro listed s L w h hw hQ
    unfold evalDraw at h
    unfold wpAny
    rw [hr]
    cases hd : rdy listed ops.toList 0 with
    | nil =>
      rw [hd] at h
      simp only [Option.some.injEq] at h
      subst h
      exact ⟨rfl, hQ s (by simp) w hw⟩
    | cons i l => rw [hd] at h; exact absurd h (by simp)
  | succ n ih =>
    intro listed s L w h hw hQ
    unfold evalDraw at h
    unfold wpAny
    rw [hr]
    cases hd : rdy listed ops.toList 0 with
    | nil =>
      rw [hd] at h
      simp only [Option.some.injEq] at h
      subst h
      exact ⟨fun _ => hQ s (by simp) w hw, fun i hi => absurd hi (by simp)⟩
    | cons i l =>
      rw [hd] at h
      refine ⟨fun h0 => absurd h0 (by simp), fun j hj => ?_⟩
      obtain ⟨L', h1, h2⟩ := each_mem h hj
      cases he : evalOne C ops.toList j s with
      | none => rw [he] at h1; exact absurd h1 (by simp)
      | some s1 =>
        rw [he] at h1
        dsimp only at h1
        refine evalOne_sound hC he hw fun w' hw' => ?_
        have := ih (setB listed j) h1 hw' (fun s' hs' w'' hw'' => hQ s' (h2 s' hs') w'' hw'')
        rw [setB_eq] at this
        simpa using this

theorem Rel.drew {C : Cfg} {I : List V → World → Prop} (hC : C.Ok I) {s : St} {w : World} (h : Rel C I s w) : Rel C I s { w with drawn := w.drawn + 1 } :=
  ⟨hC.stays _ _ _ h.inv ((Below.refl C.B w).drew), h.cells, h.size, h.top, h.ones⟩

theorem region_draw {C : Cfg} {I : List V → World → Prop} (hC : C.Ok I) (hm : C.P.follows .mixedOrders = true) {id : Nat} {ops : Array Oper} {Q : Exit → Act → World → Prop} {s : St} {L : List St} {w : World}
    (h : evalDraw C ops.toList ops.toList.length (ops.toList.map fun _ => false) s = some L) (hw : Rel C I s w) (hQ : ∀ s' ∈ L, ∀ w', Rel C I s' w' → Q .normal (act C s') w') : (Code.region id ops true).wp C.P Q (act C s) w := by
  refine wp_region_any hm ?_
  have := evalDraw_sound hC (Q := Q) _ _ h (hw.drew hC) hQ
  have e : (ops.toList.map fun _ => false).toArray = Array.replicate ops.size false := by
    apply Array.ext <;> simp
  rw [e, Array.length_toList] at this
  exact this

/-! ### A call that has deferred a closure -/
theorem calls_of_body_defers {C : Cfg} {f : Nat} {fn : Func} (hf : C.P.funcs[f]? = some fn) (hb : fn.body.isNone = false) (hN : C.N = fn.ntmps) {l ans : List V} (hl : l.length ≤ C.N) {w : World} {R : Ending → World → Prop}
    (h : (body fn).wp C.P (bodyPostD C.P fn R) (act C (enter l ans)) w) : Calls C.P f (l.map (real1 C)).toArray w R := by
  cases hc : fn.body with
  | none => rw [hc] at hb; exact absurd hb (by simp)
  | some c =>
    refine calls_of_wp_defers hf hc ?_
    have e := act_enter C l ans hl
    rw [hN] at e
    rw [e]
    have : body fn = c := by unfold body; rw [hc]; rfl
    rw [← this]
    exact h

/-- The same tables, for a frame of n slots. -/
def Cfg.slots (C : Cfg) (n : Nat) : Cfg := { C with N := n }
theorem Cfg.slots_ok {C : Cfg} {I : List V → World → Prop} (hC : C.Ok I) (n : Nat) : (C.slots n).Ok I := ⟨hC.types, hC.callee, hC.stays, hC.asked⟩

theorem map_ptr (C : Cfg) (l : List Nat) : (l.map V.p).map (real1 C) = l.map (cellAt C.B) := by
  rw [List.map_map]
  rfl

theorem leaves_one {C : Cfg} {I : List V → World → Prop} (hC : C.Ok I) {fn : Func} {R : Ending → World → Prop} {s : St} {w : World} (hw : Rel C I s w) {f : Nat} {l : List Nat} (hd : s.dfr = [(f, l)])
    {fd : Func} (hf : C.P.funcs[f]? = some fd) (hb : fd.body.isNone = false) (hg : (fd.name == "runtime.NumGoroutine") = false) (hl : l.length ≤ fd.ntmps) (hres : fd.results = #[])
    {e : X} {s2 : St} (hev : evalCode (C.slots fd.ntmps) (body fd) ⟨argEnv (l.map .p), s.mem, false, s.ans, []⟩ = some (e, s2)) (he : (match e with | .exit _ => false | _ => true) = true) (hd2 : s2.dfr = [])
    (hR : ∀ w', Rel (C.slots fd.ntmps) I s2 w' → ∃ v, (results fn (act C s).tmps).run C.P w' = .ok v w' ∧ R (.returned v) w') :
    Leaves C.P fn (act C s).tmps R (act C s).defers .returning w := by
  cases hc : fd.body with
  | none => rw [hc] at hb; exact absurd hb (by simp)
  | some c =>
    have hbody : body fd = c := by unfold body; rw [hc]; rfl
    have hdf : (act C s).defers = [{ target := .fn (.func f) (l.map (cellAt C.B)).toArray, args := #[] }] := by
      show s.dfr.map _ = _
      rw [hd]; rfl
    rw [hdf]
    refine ⟨by simp, .func f, (l.map (cellAt C.B)).toArray, f, (l.map (cellAt C.B)).toArray, rfl, ?_, ?_⟩
    · simp only [invoke, Array.empty_append, run_enter ⟨fd, hf, hb, hg⟩]
    · refine CallsD.mono (R := fun e u' w' => u' = .returning ∧ (match e with | .returned _ => ∃ v, (results fn (act C s).tmps).run C.P w' = .ok v w' ∧ R (.returned v) w' | .panicked _ => False | .outgrown => False)) ?_ ?_
      · refine callsD_of_wp hf hc ?_
        have ea := act_enter (C.slots fd.ntmps) (l.map .p) s.ans (by show (l.map V.p).length ≤ fd.ntmps; simpa using hl)
        rw [map_ptr] at ea
        have ea' : ({ tmps := (l.map (cellAt C.B)).toArray ++ Array.replicate (fd.ntmps - (l.map (cellAt C.B)).toArray.size) undef, defers := [] } : Act) = act (C.slots fd.ntmps) ⟨argEnv (l.map .p), s.mem, false, s.ans, []⟩ := ea
        rw [ea', ← hbody]
        have hrel : Rel (C.slots fd.ntmps) I ⟨argEnv (l.map .p), s.mem, false, s.ans, []⟩ w := ⟨hw.inv, hw.cells, hw.size, fun h => absurd h (by simp), hw.ones⟩
        refine evalCode_sound (C := C.slots fd.ntmps) (Cfg.slots_ok hC _) (body fd) _ hev hrel fun w' hw' => ?_
        have hrun : (results fd (act (C.slots fd.ntmps) s2).tmps).run C.P w' = .ok (.tuple #[]) w' := by
          unfold results
          simp [hres]
        have hdd : (act (C.slots fd.ntmps) s2).defers = [] := by
          show s2.dfr.map _ = _
          rw [hd2]; rfl
        cases e with
        | normal => exact ⟨hdd, _, hrun, hR w' hw'⟩
        | ret => exact ⟨hdd, _, hrun, hR w' hw'⟩
        | exit n => exact absurd he (by simp)
      · rintro e u' w' ⟨rfl, h⟩
        cases e with
        | returned v => exact h
        | panicked c => exact h.elim
        | outgrown => exact h.elim

theorem results_cells {C : Cfg} {I : List V → World → Prop} (hC : C.Ok I) {fn : Func} {i j : Tmp} {t u : TypeId} (h : fn.results = #[.cell i t, .cell j u]) {s s2 : St} {w : World} {a b : Nat} {x y : V} {n : Nat}
    (hi : i < C.N) (hj : j < C.N) (ei : s.env i = .p a) (ej : s.env j = .p b) {kt ku : Ky} (ht : C.K t = some kt) (hu : C.K u = some ku) (hw : Rel (C.slots n) I s2 w) (hx : s2.mem[a]? = some x) (hy : s2.mem[b]? = some y) :
    (results fn (act C s).tmps).run C.P w = .ok (.tuple #[real1 C x, real1 C y]) w := by
  have e1 : (act C s).tmps.getD i undef = cellAt C.B a := by rw [act_getD C s hi, ei]; rfl
  have e2 : (act C s).tmps.getD j undef = cellAt C.B b := by rw [act_getD C s hj, ej]; rfl
  have c1 := (hw.cells a x hx).1
  have c2 := (hw.cells b y hy).1
  have d1 := (hC.types t kt ht).1
  have d2 := (hC.types u ku hu).1
  have c1' : w.cell? ⟨C.B + a, 0, none⟩ = some (real1 C x) := c1
  have c2' : w.cell? ⟨C.B + b, 0, none⟩ = some (real1 C y) := c2
  have l1 : (loadVar t ⟨C.B + a, 0, none⟩).run C.P w = .ok (real1 C x) w := by
    unfold loadVar isAgg
    cases kt <;> simp only [Ky.desc] at d1 <;> simp [go_sem, run_underlying d1, c1']
  have l2 : (loadVar u ⟨C.B + b, 0, none⟩).run C.P w = .ok (real1 C y) w := by
    unfold loadVar isAgg
    cases ku <;> simp only [Ky.desc] at d2 <;> simp [go_sem, run_underlying d2, c2']
  have e1' : (act C s).tmps[i]?.getD undef = cellAt C.B a := by rw [← e1]; simp [Array.getD_eq_getD_getElem?]
  have e2' : (act C s).tmps[j]?.getD undef = cellAt C.B b := by rw [← e2]; simp [Array.getD_eq_getD_getElem?]
  unfold results
  simp [h, e1', e2', cellAt, asAddr, l1, l2]
end Go.Proofs.Ytnanfoahimccpaa.Ev
