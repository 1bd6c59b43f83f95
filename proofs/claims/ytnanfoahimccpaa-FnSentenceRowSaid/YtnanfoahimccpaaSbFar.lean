/- The walk of 'uniseg.transitionSentenceBreakProperty' where it asks for the properties behind the one at hand. -/
import Derived.Test.YtnanfoahimccpaaSbStep
import Derived.Test.YtnanfoahimccpaaWbFar
namespace Go.Proofs.Ytnanfoahimccpaa.Sb
open Go Go.RowKit Ev
open Wb (KT typesOk Asks ansOf ov_env)

theorem C60_ok {w : World} {F : Value} {I : List V → World → Prop} (hI : Asks F w.heap.size I) : (C60 w.heap.size F).Ok I := by
  refine ⟨typesOk rfl rfl, ?_, hI.stays, ?_⟩
  · intro f l v h
    have h' : T60 f l = some v := h
    unfold T60 at h'
    split at h' <;> try exact absurd h' (by simp)
    rename_i s p
    cases hb : (states.any (ieq s) && props.any (ieq p)) <;> rw [hb] at h' <;> simp only [reduceCtorEq, Option.some.injEq] at h'
    subst h'
    simp only [Bool.and_eq_true, List.any_eq_true] at hb
    obtain ⟨⟨s', hs1, hs2⟩, ⟨p', hp1, hp2⟩⟩ := hb
    rw [ieq_eq, beq_iff_eq] at hs2 hp2
    subst hs2
    subst hp2
    exact ⟨⟨Try.f80, Try.func80, by kernel_rfl, by kernel_rfl⟩, fun w => tr_calls _ _ hs1 hp1 w⟩
  · intro v ans w' hB h
    obtain ⟨p, b, rfl⟩ := hI.shape _ _ _ h
    exact hI.asked p b ans w' hB h

theorem fin_mem : ∀ {l : List Int} {p : Int}, p ∈ props → (∀ q ∈ l, q ∈ props) → fin p l ∈ props
  | [], _, hp, _ => hp
  | q :: l, p, hp, hl => by
    unfold fin
    split
    · exact hp
    · exact fin_mem (hl q List.mem_cons_self) fun r hr => hl r (List.mem_cons_of_mem _ hr)

theorem no_fin : (states.all fun s => props.all fun p => needs s p || props.all fun f => decide (next s p f = next s p 1)) = true := by decide +kernel

section
variable {w : World} {F : Value} {I : List V → World → Prop} (hI : Asks F w.heap.size I)
include hI

/-- The loop that asks. -/
theorem loop_rounds {Q : Exit → Act → World → Prop} (l : List Int) (hl : ∀ p ∈ l, p ∈ props) :
    ∀ (p : Int) (env : Nat → V) (top : Bool) (w' : World), p ∈ props → env 1 = .n p → env 2 = .orc → Rel (C60 w.heap.size F) I ⟨env, [], top, ansOf l, []⟩ w' →
      (∀ env' top' ans' w'', env' 2 = .orc → env' 0 = env 0 → env' 1 = .n (fin p l) → env' 6 = env 6 → env' 7 = env 7 → Rel (C60 w.heap.size F) I ⟨env', [], top', ans', []⟩ w'' →
        Q (.exit 0) (act (C60 w.heap.size F) ⟨env', [], top', ans', []⟩) w'') →
      Code.rounds Try.prog LB Q (l.length + 1) (act (C60 w.heap.size F) ⟨env, [], top, ansOf l, []⟩) w' := by
  have hC := C60_ok hI
  induction l with
  | nil =>
    intro p env top w' hp h1 h2 hw hQ
    rw [rounds_succ]
    have e : env = ov [1, 2] [.n p, .orc] env := ov_env (by simp [h1, h2])
    cases hs : stops p with
    | true =>
      have hv := map_at (lb_stop w.heap.size F (ansOf []) env top) (List.mem_filter.2 ⟨hp, hs⟩)
      rw [← e] at hv
      obtain ⟨env', top', hr, hm⟩ := view_eq hv
      simp only [slots, List.map_cons, List.map_nil, List.cons.injEq, and_true] at hm
      obtain ⟨m0, m1, m2, m6, m7⟩ := hm
      exact evalCode_sound hC LB _ hr hw fun w'' hw'' => hQ env' top' _ w'' m2 m0 m1 m6 m7 hw''
    | false =>
      have hv := map_at (lb_end w.heap.size F [] env top) (List.mem_filter.2 ⟨hp, show (!stops p) = true by rw [hs]; rfl⟩)
      rw [← e] at hv
      obtain ⟨env', top', hr, hm⟩ := view_eq hv
      simp only [slots, List.map_cons, List.map_nil, List.cons.injEq, and_true] at hm
      obtain ⟨m0, m1, m2, m6, m7⟩ := hm
      exact evalCode_sound hC LB _ hr hw fun w'' hw'' => hQ env' top' _ w'' m2 m0 m1 m6 m7 hw''
  | cons q l ih =>
    intro p env top w' hp h1 h2 hw hQ
    rw [rounds_succ]
    have e : env = ov [1, 2] [.n p, .orc] env := ov_env (by simp [h1, h2])
    have hq := hl q List.mem_cons_self
    cases hs : stops p with
    | true =>
      have hv := map_at (lb_stop w.heap.size F (ansOf (q :: l)) env top) (List.mem_filter.2 ⟨hp, hs⟩)
      rw [← e] at hv
      obtain ⟨env', top', hr, hm⟩ := view_eq hv
      simp only [slots, List.map_cons, List.map_nil, List.cons.injEq, and_true] at hm
      obtain ⟨m0, m1, m2, m6, m7⟩ := hm
      exact evalCode_sound hC LB _ hr hw fun w'' hw'' => hQ env' top' _ w'' m2 m0 (by rw [m1, fin, hs, if_pos rfl]) m6 m7 hw''
    | false =>
      have hv := map_at (lb_next w.heap.size F q (ansOf l) env top) (List.mem_filter.2 ⟨hp, show (!stops p) = true by rw [hs]; rfl⟩)
      rw [← e] at hv
      obtain ⟨env', top', hr, hm⟩ := view_eq hv
      simp only [slots, List.map_cons, List.map_nil, List.cons.injEq, and_true] at hm
      obtain ⟨m0, m1, m2, m6, m7⟩ := hm
      refine evalCode_sound hC LB _ hr hw fun w'' hw'' => ?_
      refine ih (fun r hr => hl r (List.mem_cons_of_mem _ hr)) q env' top' w'' hq m1 m2 hw'' ?_
      intro env2 top2 ans2 w2 n2 n0 n1 n6 n7 hw2
      exact hQ env2 top2 ans2 w2 n2 (n0.trans m0) (by rw [n1, fin, hs, if_neg (by simp)]) (n6.trans m6) (n7.trans m7) hw2

set_option maxRecDepth 100000 in
/-- One step of sentences: whatever the function that was handed in tells, one call behind the other. -/
theorem step_calls (s p : Int) (hs : s ∈ states) (hp : p ∈ props) (l : List Int) (hl : ∀ q ∈ l, q ∈ props) (h : I (ansOf l) w) :
    Calls Try.prog 60 #[.int .i64 s, .int .i64 p, F] w fun e w' => e = .returned (.tuple #[.int .i64 (next s p (fin p l)).1, .bool (next s p (fin p l)).2]) ∧ ∃ ans, I ans w' := by
  have hC := C60_ok hI
  refine calls_of_body (C := C60 w.heap.size F) (l := [.n s, .n p, .orc]) (ans := ansOf l) Try.func60 (by kernel_rfl) rfl (by show 3 ≤ 135; decide) ?_
  have hrel : Rel (C60 w.heap.size F) I (enter [.n s, .n p, .orc] (ansOf l)) w := Rel.enter h rfl
  cases hn : needs s p with
  | false =>
    have hx : (s, p) ∈ ones := List.mem_filter.2 ⟨List.mem_flatMap.2 ⟨s, hs, List.mem_map.2 ⟨p, hp, rfl⟩⟩, by rw [hn]; rfl⟩
    obtain ⟨env, top, hr, hm⟩ := view_eq (map_at (one_chk w.heap.size F (ansOf l)) hx)
    simp only [List.map_cons, List.map_nil, List.cons.injEq, and_true] at hm
    have hf : next s p (fin p l) = next s p 1 := by
      have h1 := List.all_eq_true.1 (List.all_eq_true.1 no_fin s hs) p hp
      rw [hn, Bool.false_or] at h1
      exact of_decide_eq_true (List.all_eq_true.1 h1 _ (fin_mem hp hl))
    rw [hf]
    refine evalCode_sound hC _ _ hr hrel fun w4 hw4 => ?_
    refine post2 (C := C60 w.heap.size F) (i := 6) (j := 7) rfl (by show 6 < 135; decide) (by show 7 < 135; decide) rfl ?_
    dsimp only
    rw [hm.1, hm.2]
    exact ⟨rfl, _, hw4.inv⟩
  | true =>
    have hx : (s, p) ∈ pairs := List.mem_filter.2 ⟨List.mem_flatMap.2 ⟨s, hs, List.mem_map.2 ⟨p, hp, rfl⟩⟩, hn⟩
    obtain ⟨env, top, hr, hm⟩ := view_eq (map_at (pre_chk w.heap.size F (ansOf l)) hx)
    refine eval_cut hC 5 _ _ hr hrel fun w1 hw1 => ?_
    show c5.wp _ _ _ _
    rw [c5_eq]
    refine wp_seq (wp_seq ?_)
    have hv := map_at (r21_chk w.heap.size F (ansOf l) env top) hx
    rw [← ov_env hm] at hv
    obtain ⟨env2, top2, hr2, hm2⟩ := view_eq hv
    refine evalCode_sound hC r21 _ hr2 hw1 fun w2 hw2 => ?_
    simp only [slots, kept, List.cons_append, List.nil_append, List.map_cons, List.map_nil, List.cons.injEq, and_true] at hm2
    obtain ⟨m0, m1, m2, m6, m7, m94⟩ := hm2
    have hc : (act (C60 w.heap.size F) ⟨env2, [], top2, ansOf l, []⟩).eval (.tmp 94) = .bool true := eval_bool (by show 94 < 135; decide) m94
    refine wp_cond_true hc (wp_seq (wp_block (wp_loop_rounds (l.length + 1) (loop_rounds hI l hl p env2 top2 w2 hp m1 m2 hw2 ?_))))
    intro env3 top3 ans3 w3 n2 n0 n1 n6 n7 hw3
    simp only [Exit.inBlock, Exit.then, if_true]
    have ht : ((s, p), fin p l) ∈ triples := List.mem_flatMap.2 ⟨(s, p), hx, List.mem_map.2 ⟨fin p l, fin_mem hp hl, rfl⟩⟩
    have hv3 := map_at (rest_chk w.heap.size F ans3 env3 top3) ht
    rw [← ov_env (by simp only [slots, kept, List.cons_append, List.nil_append, List.map_cons, List.map_nil, n0.trans m0, n1, n2, n6.trans m6, n7.trans m7])] at hv3
    obtain ⟨env4, top4, hr4, hm4⟩ := view_eq hv3
    simp only [List.map_cons, List.map_nil, List.cons.injEq, and_true] at hm4
    have hfinal : ∀ (w4 : World) (fn : Func), fn.results = #[.tmp 6, .tmp 7] → Rel (C60 w.heap.size F) I ⟨env4, [], top4, ans3, []⟩ w4 → bodyPost Try.prog fn (fun e w' => e = .returned (.tuple #[.int .i64 (next s p (fin p l)).1, .bool (next s p (fin p l)).2]) ∧ ∃ ans, I ans w') .ret (act (C60 w.heap.size F) ⟨env4, [], top4, ans3, []⟩) w4 := by
      intro w4 fn hfn hw4
      refine post2 (C := C60 w.heap.size F) (i := 6) (j := 7) hfn (by show 6 < 135; decide) (by show 7 < 135; decide) rfl ?_
      dsimp only
      rw [hm4.1, hm4.2]
      exact ⟨rfl, _, hw4.inv⟩
    refine evalCode_sound hC r26 _ hr4 hw3 fun w4 hw4 => ?_
    cases hx : endX (fin p l) with
    | ret => exact hfinal w4 _ rfl hw4
    | normal => exact wp_ret (hfinal w4 _ rfl hw4)
    | exit i =>
      unfold endX at hx
      split at hx <;> exact absurd hx (by simp)
end

end Go.Proofs.Ytnanfoahimccpaa.Sb
