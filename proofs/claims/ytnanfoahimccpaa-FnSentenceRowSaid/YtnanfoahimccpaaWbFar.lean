/- The walk of 'uniseg.transitionWordBreakProperty' where it asks for the properties behind the one at hand. -/
import Derived.Test.YtnanfoahimccpaaWbStep
namespace Go.Proofs.Ytnanfoahimccpaa.Wb
open Go Go.RowKit Ev

/-- The answers of what tells the properties: one call behind the other, then that there is none. -/
def ansOf (l : List Int) : List V := l.map (fun p => V.t2 (.n p) (.b true)) ++ [.t2 (.n 0) (.b false)]

/-- What must hold of the function that was handed in. -/
structure Asks (F : Value) (B : Nat) (I : List V → World → Prop) : Prop where
  stays : ∀ ans w w', I ans w → Below B w w' → I ans w'
  asked : ∀ (p : Int) (b : Bool) ans w, B ≤ w.heap.size → I (V.t2 (.n p) (.b b) :: ans) w → ∃ f cap, F = .func (.func f) #[] cap ∧ (∃ fn, Try.prog.funcs[f]? = some fn ∧ fn.body.isNone = false ∧ (fn.name == "runtime.NumGoroutine") = false) ∧
    Calls Try.prog f cap w fun e w' => e = .returned (.tuple #[.int .i64 p, .bool b]) ∧ I ans w' ∧ w.heap.size ≤ w'.heap.size ∧ ∀ k, B ≤ k → k < w.heap.size → w'.heap[k]? = w.heap[k]?
  shape : ∀ v ans w, I (v :: ans) w → ∃ p b, v = V.t2 (.n p) (.b b)

def slots : List Nat := [0, 1, 2, 6, 7, 8, 15]
noncomputable def pre : Code := (cutAt 7 (body Try.f53)).1
noncomputable def c7 : Code := (cutAt 7 (body Try.f53)).2
noncomputable def r34 : Code := fstOf (fstOf c7)
noncomputable def LB : Code := loopOf (blockOf (thenOf (sndOf (fstOf c7))))
noncomputable def rest : Code := sndOf c7
theorem c7_eq : c7 = .seq (.seq r34 (.cond (.tmp 152) (.block 0 (.loop LB)) .skip)) rest := by kernel_rfl

def pairs : List (Int × Int) := (states.flatMap fun s => props.map fun p => (s, p)).filter fun x => needs x.1 x.2
def kept (x : Int × Int) : List V := [.n (bare x.1), .n x.2, .orc, .n (mix (bare x.1) x.2).1, .b (mix (bare x.1) x.2).2.1, .n (mix (bare x.1) x.2).2.2]

theorem pre_chk (B : Nat) (F : Value) (ans : List V) :
    pairs.map (fun x => view slots (evalCode (C53 B F) pre (enter [.n x.1, .n x.2, .orc] ans))) = pairs.map (fun x => some (.normal, kept x ++ [.n (-1)], [], ans, [])) := by kernel_rfl
theorem r34_chk (B : Nat) (F : Value) (ans : List V) (env : Nat → V) (top : Bool) :
    pairs.map (fun x => view (slots ++ [152]) (evalCode (C53 B F) r34 ⟨ov slots (kept x ++ [.n (-1)]) env, [], top, ans, []⟩)) = pairs.map (fun x => some (.normal, kept x ++ [.n (-1), .b true], [], ans, [])) := by kernel_rfl
theorem lb_ign (B : Nat) (F : Value) (ans : List V) (env : Nat → V) (top : Bool) :
    ([6, 26, 14] : List Int).map (fun p => view slots (evalCode (C53 B F) LB ⟨ov [2] [.orc] env, [], top, .t2 (.n p) (.b true) :: ans, []⟩)) = ([6, 26, 14] : List Int).map (fun _ => some (.normal, [env 0, env 1, .orc, env 6, env 7, env 8, env 15], [], ans, [])) := by kernel_rfl
theorem lb_hit (B : Nat) (F : Value) (ans : List V) (env : Nat → V) (top : Bool) :
    (props.filter (fun p => !ign p)).map (fun p => view slots (evalCode (C53 B F) LB ⟨ov [2] [.orc] env, [], top, .t2 (.n p) (.b true) :: ans, []⟩)) = (props.filter (fun p => !ign p)).map (fun p => some (.exit 0, [env 0, env 1, .orc, env 6, env 7, env 8, .n p], [], ans, [])) := by kernel_rfl
theorem lb_end (B : Nat) (F : Value) (ans : List V) (env : Nat → V) (top : Bool) :
    view slots (evalCode (C53 B F) LB ⟨ov [2] [.orc] env, [], top, .t2 (.n 0) (.b false) :: ans, []⟩) = some (.exit 0, [env 0, env 1, .orc, env 6, env 7, env 8, env 15], [], ans, []) := by kernel_rfl
def triples : List ((Int × Int) × Int) := pairs.flatMap fun x => (-1 :: props).map fun f => (x, f)
theorem rest_chk (B : Nat) (F : Value) (ans : List V) (env : Nat → V) (top : Bool) :
    triples.map (fun x => view [6, 7] (evalCode (C53 B F) rest ⟨ov slots (kept x.1 ++ [.n x.2]) env, [], top, ans, []⟩)) = triples.map (fun x => some (.ret, [.n (next x.1.1 x.1.2 x.2).1, .b (next x.1.1 x.1.2 x.2).2], [], ans, [])) := by kernel_rfl

theorem C53_ok {w : World} {F : Value} {I : List V → World → Prop} (hI : Asks F w.heap.size I) : (C53 w.heap.size F).Ok I := by
  refine ⟨typesOk rfl rfl, ?_, hI.stays, ?_⟩
  · intro f l v h
    have h' : T53 f l = some v := h
    unfold T53 at h'
    split at h' <;> try exact absurd h' (by simp)
    rename_i s p
    cases hb : (bares.any (ieq s) && props.any (ieq p)) <;> rw [hb] at h' <;> simp only [reduceCtorEq, Option.some.injEq] at h'
    subst h'
    simp only [Bool.and_eq_true, List.any_eq_true] at hb
    obtain ⟨⟨s', hs1, hs2⟩, ⟨p', hp1, hp2⟩⟩ := hb
    rw [ieq_eq, beq_iff_eq] at hs2 hp2
    subst hs2
    subst hp2
    exact ⟨⟨Try.f79, Try.func79, by kernel_rfl, by kernel_rfl⟩, fun w => tr_calls _ _ hs1 hp1 w⟩
  · intro v ans w' hB h
    obtain ⟨p, b, rfl⟩ := hI.shape _ _ _ h
    exact hI.asked p b ans w' hB h

theorem far_mem {l : List Int} (hl : ∀ p ∈ l, p ∈ props) : far l ∈ -1 :: props := by
  induction l with
  | nil => exact List.mem_cons_self
  | cons p l ih =>
    unfold far
    split
    · exact ih fun q hq => hl q (List.mem_cons_of_mem _ hq)
    · exact List.mem_cons_of_mem _ (hl p List.mem_cons_self)

theorem no_far : (states.all fun s => props.all fun p => needs s p || (-1 :: props).all fun f => decide (next s p f = next s p (-1))) = true := by decide +kernel

theorem ov_env {env : Nat → V} {l : List Nat} {vs : List V} (h : l.map env = vs) : env = ov l vs env := by rw [← h, ov_self]

section
variable {w : World} {F : Value} {I : List V → World → Prop} (hI : Asks F w.heap.size I)
include hI

/-- The loop that asks. -/
theorem loop_rounds {Q : Exit → Act → World → Prop} (l : List Int) (hl : ∀ p ∈ l, p ∈ props) :
    ∀ (env : Nat → V) (top : Bool) (w' : World), env 2 = .orc → env 15 = .n (-1) → Rel (C53 w.heap.size F) I ⟨env, [], top, ansOf l, []⟩ w' →
      (∀ env' top' ans' w'', env' 2 = .orc → env' 0 = env 0 → env' 1 = env 1 → env' 6 = env 6 → env' 7 = env 7 → env' 8 = env 8 → env' 15 = .n (far l) → Rel (C53 w.heap.size F) I ⟨env', [], top', ans', []⟩ w'' →
        Q (.exit 0) (act (C53 w.heap.size F) ⟨env', [], top', ans', []⟩) w'') →
      Code.rounds Try.prog LB Q (l.length + 1) (act (C53 w.heap.size F) ⟨env, [], top, ansOf l, []⟩) w' := by
  have hC := C53_ok hI
  induction l with
  | nil =>
    intro env top w' h2 h15 hw hQ
    rw [rounds_succ]
    have e : env = ov [2] [.orc] env := ov_env (by simp [h2])
    have hv := lb_end w.heap.size F [] env top
    rw [← e] at hv
    obtain ⟨env', top', hr, hm⟩ := view_eq hv
    simp only [slots, List.map_cons, List.map_nil, List.cons.injEq, and_true] at hm
    obtain ⟨m0, m1, m2, m6, m7, m8, m15⟩ := hm
    exact evalCode_sound hC LB _ hr hw fun w'' hw'' => hQ env' top' [] w'' m2 m0 m1 m6 m7 m8 (m15.trans h15) hw''
  | cons p l ih =>
    intro env top w' h2 h15 hw hQ
    rw [rounds_succ]
    have e : env = ov [2] [.orc] env := ov_env (by simp [h2])
    have hp := hl p List.mem_cons_self
    cases hi : ign p with
    | true =>
      have hp' : p ∈ ([6, 26, 14] : List Int) := by
        simp only [ign, Bool.or_eq_true, beq_iff_eq] at hi
        simp only [List.mem_cons, List.not_mem_nil, or_false]
        rcases hi with (h | h) | h <;> simp [h]
      have hv := map_at (lb_ign w.heap.size F (ansOf l) env top) hp'
      rw [← e] at hv
      obtain ⟨env', top', hr, hm⟩ := view_eq hv
      simp only [slots, List.map_cons, List.map_nil, List.cons.injEq, and_true] at hm
      obtain ⟨m0, m1, m2, m6, m7, m8, m15⟩ := hm
      refine evalCode_sound hC LB _ hr hw fun w'' hw'' => ?_
      refine ih (fun q hq => hl q (List.mem_cons_of_mem _ hq)) env' top' w'' m2 (m15.trans h15) hw'' ?_
      intro env2 top2 ans2 w2 n2 n0 n1 n6 n7 n8 n15 hw2
      exact hQ env2 top2 ans2 w2 n2 (n0.trans m0) (n1.trans m1) (n6.trans m6) (n7.trans m7) (n8.trans m8) (by rw [n15, far, hi, if_pos rfl]) hw2
    | false =>
      have hp' : p ∈ props.filter (fun p => !ign p) := List.mem_filter.2 ⟨hp, by rw [hi]; rfl⟩
      have hv := map_at (lb_hit w.heap.size F (ansOf l) env top) hp'
      rw [← e] at hv
      obtain ⟨env', top', hr, hm⟩ := view_eq hv
      simp only [slots, List.map_cons, List.map_nil, List.cons.injEq, and_true] at hm
      obtain ⟨m0, m1, m2, m6, m7, m8, m15⟩ := hm
      refine evalCode_sound hC LB _ hr hw fun w'' hw'' => ?_
      exact hQ env' top' (ansOf l) w'' m2 m0 m1 m6 m7 m8 (by rw [m15, far, hi, if_neg (by simp)]) hw''

set_option maxRecDepth 100000 in
/-- One step of words: whatever the function that was handed in tells, one call behind the other. -/
theorem step_calls (s p : Int) (hs : s ∈ states) (hp : p ∈ props) (l : List Int) (hl : ∀ q ∈ l, q ∈ props) (h : I (ansOf l) w) :
    Calls Try.prog 53 #[.int .i64 s, .int .i64 p, F] w fun e w' => e = .returned (.tuple #[.int .i64 (next s p (far l)).1, .bool (next s p (far l)).2]) ∧ ∃ ans, I ans w' := by
  have hC := C53_ok hI
  refine calls_of_body (C := C53 w.heap.size F) (l := [.n s, .n p, .orc]) (ans := ansOf l) Try.func53 (by kernel_rfl) rfl (by show 3 ≤ 251; decide) ?_
  have hrel : Rel (C53 w.heap.size F) I (enter [.n s, .n p, .orc] (ansOf l)) w := Rel.enter h rfl
  cases hn : needs s p with
  | false =>
    have hx : (s, p) ∈ ones := List.mem_filter.2 ⟨List.mem_flatMap.2 ⟨s, hs, List.mem_map.2 ⟨p, hp, rfl⟩⟩, by rw [hn]; rfl⟩
    obtain ⟨env, top, hr, hm⟩ := view_eq (map_at (one_chk w.heap.size F (ansOf l)) hx)
    simp only [List.map_cons, List.map_nil, List.cons.injEq, and_true] at hm
    have hf : next s p (far l) = next s p (-1) := by
      have h1 := List.all_eq_true.1 (List.all_eq_true.1 no_far s hs) p hp
      rw [hn, Bool.false_or] at h1
      exact of_decide_eq_true (List.all_eq_true.1 h1 _ (far_mem hl))
    rw [hf]
    refine evalCode_sound hC _ _ hr hrel fun w4 hw4 => ?_
    refine post2 (C := C53 w.heap.size F) (i := 6) (j := 7) rfl (by show 6 < 251; decide) (by show 7 < 251; decide) rfl ?_
    dsimp only
    rw [hm.1, hm.2]
    exact ⟨rfl, _, hw4.inv⟩
  | true =>
    have hx : (s, p) ∈ pairs := List.mem_filter.2 ⟨List.mem_flatMap.2 ⟨s, hs, List.mem_map.2 ⟨p, hp, rfl⟩⟩, hn⟩
    obtain ⟨env, top, hr, hm⟩ := view_eq (map_at (pre_chk w.heap.size F (ansOf l)) hx)
    refine eval_cut hC 7 _ _ hr hrel fun w1 hw1 => ?_
    show c7.wp _ _ _ _
    rw [c7_eq]
    refine wp_seq (wp_seq ?_)
    have hv := map_at (r34_chk w.heap.size F (ansOf l) env top) hx
    rw [← ov_env hm] at hv
    obtain ⟨env2, top2, hr2, hm2⟩ := view_eq hv
    refine evalCode_sound hC r34 _ hr2 hw1 fun w2 hw2 => ?_
    simp only [slots, kept, List.cons_append, List.nil_append, List.map_cons, List.map_nil, List.cons.injEq, and_true] at hm2
    obtain ⟨m0, m1, m2, m6, m7, m8, m15, m152⟩ := hm2
    have hc : (act (C53 w.heap.size F) ⟨env2, [], top2, ansOf l, []⟩).eval (.tmp 152) = .bool true := eval_bool (by show 152 < 251; decide) m152
    refine wp_cond_true hc (wp_block (wp_loop_rounds (l.length + 1) (loop_rounds hI l hl env2 top2 w2 m2 m15 hw2 ?_)))
    intro env3 top3 ans3 w3 n2 n0 n1 n6 n7 n8 n15 hw3
    simp only [Exit.inBlock, Exit.then, if_true]
    have ht : ((s, p), far l) ∈ triples := List.mem_flatMap.2 ⟨(s, p), hx, List.mem_map.2 ⟨far l, far_mem hl, rfl⟩⟩
    have hv3 := map_at (rest_chk w.heap.size F ans3 env3 top3) ht
    rw [← ov_env (by simp only [slots, kept, List.cons_append, List.nil_append, List.map_cons, List.map_nil, n0.trans m0, n1.trans m1, n2, n6.trans m6, n7.trans m7, n8.trans m8, n15])] at hv3
    obtain ⟨env4, top4, hr4, hm4⟩ := view_eq hv3
    simp only [List.map_cons, List.map_nil, List.cons.injEq, and_true] at hm4
    refine evalCode_sound hC rest _ hr4 hw3 fun w4 hw4 => ?_
    refine post2 (C := C53 w.heap.size F) (i := 6) (j := 7) rfl (by show 6 < 251; decide) (by show 7 < 251; decide) rfl ?_
    dsimp only
    rw [hm4.1, hm4.2]
    exact ⟨rfl, _, hw4.inv⟩
end
end Go.Proofs.Ytnanfoahimccpaa.Wb
