/- The walk of 'uniseg.transitionLineBreakProperty': one step of lines. -/
import Derived.Test.YtnanfoahimccpaaLbChV
import Derived.Test.YtnanfoahimccpaaLbChA
import Derived.Test.YtnanfoahimccpaaLbChD
import Derived.Test.YtnanfoahimccpaaLbChE
import Derived.Test.YtnanfoahimccpaaLbChR
import Derived.Test.YtnanfoahimccpaaLbChS
import Derived.Test.YtnanfoahimccpaaLbChF
import Derived.Test.YtnanfoahimccpaaLbChP
import Derived.Test.YtnanfoahimccpaaLbChQ
import Derived.Test.YtnanfoahimccpaaWbFar
namespace Go.Proofs.Ytnanfoahimccpaa.Lb
open Go Go.RowKit Ev
open Wb (KT typesOk Asks ansOf ov_env)

theorem C77_ok {w : World} {F : Value} {I : List V → World → Prop} (hI : Asks F w.heap.size I) : (C77 w.heap.size F).Ok I := by
  refine ⟨typesOk rfl rfl, ?_, hI.stays, ?_⟩
  · intro f l v h
    have h' : T77 f l = some v := h
    unfold T77 at h'
    split at h' <;> try exact absurd h' (by simp)
    rename_i s p
    cases hb : (cores.any (ieq s) && all.any (ieq p)) <;> rw [hb] at h' <;> simp only [reduceCtorEq, Option.some.injEq] at h'
    subst h'
    simp only [Bool.and_eq_true, List.any_eq_true] at hb
    obtain ⟨⟨s', hs1, hs2⟩, ⟨p', hp1, hp2⟩⟩ := hb
    rw [ieq_eq, beq_iff_eq] at hs2 hp2
    subst hs2
    subst hp2
    exact ⟨⟨Try.f93, Try.func93, by kernel_rfl, by kernel_rfl⟩, fun w => tr_calls _ _ hs1 hp1 w⟩
  · intro v ans w' hB h
    obtain ⟨p, b, rfl⟩ := hI.shape _ _ _ h
    exact hI.asked p b ans w' hB h

/-! ### what the checks say at one place -/
theorem lb1_kind : (props.all fun p => [true, false].all fun b => ([14, 38] : List Int).contains (lb1 p b) || plain.contains (lb1 p b)) = true := by decide +kernel
theorem lb1_mark : ((props.filter (fun p => !(p == 59))).all fun p => [true, false].all fun b => lb1 p b == lb1 p false) = true := by decide +kernel
theorem core_mem : (states.all fun s => cores.contains (core s) && (!cpOf s || core s == 12 || core s == 36)) = true := by decide +kernel
theorem marked_mem : (cores.all fun s => states.contains (marked s 14).1 && states.contains (marked s 38).1) = true := by decide +kernel
theorem late_mem : (pairs.all fun x => [true, false].all fun u => states.contains (late x.1 x.2 (mix x.1 x.2) u).1) = true := by decide +kernel
theorem ri_mix : (cores.all fun s => (mix s 75).1 == 0) = true := by decide +kernel
theorem early_mem {s p : Int} {m : Int × Int × Int} {wide cp num : Bool} {r : Int × Int} (h : early s p m wide cp num = some r) : r.1 ∈ states := by
  unfold early at h
  repeat' split at h
  all_goals first | (injection h with h; subst h; decide) | (cases h)
theorem early_num {s p : Int} {m : Int × Int × Int} {wide cp num : Bool} (h : asks s p m.2.2 = false) : early s p m wide cp num = early s p m wide cp false := by
  unfold early
  rw [h]
  simp
theorem early_wide {s p : Int} {m : Int × Int × Int} {wide cp num : Bool} (h : asksE s p m.2.2 = false) : early s p m wide cp num = early s p m false cp num := by
  unfold early
  unfold asksE at h
  rw [h]
  simp

/-! ### the part E -/
theorem find_chunk {Q : Int → Prop} {s : Int} (hs : s ∈ cores) (h0 : s ∈ c0 → Q s) (h1 : s ∈ c1 → Q s) (h2 : s ∈ c2 → Q s) (h3 : s ∈ c3 → Q s) (h4 : s ∈ c4 → Q s) (h5 : s ∈ c5 → Q s) (h6 : s ∈ c6 → Q s) (h7 : s ∈ c7 → Q s) : Q s := by
  rw [cores_eq] at hs
  simp only [List.mem_append] at hs
  rcases hs with ((((((h | h) | h) | h) | h) | h) | h) | h
  · exact h0 h
  · exact h1 h
  · exact h2 h
  · exact h3 h
  · exact h4 h
  · exact h5 h
  · exact h6 h
  · exact h7 h

/-- A check in parts, at one place. -/
theorem chunked {γ β : Type} {f g : γ → β} (A : List Int → List γ) {s : Int} {y : γ} (hs : s ∈ cores) (hA : ∀ l, s ∈ l → y ∈ A l) (h0 : (A c0).map f = (A c0).map g) (h1 : (A c1).map f = (A c1).map g) (h2 : (A c2).map f = (A c2).map g) (h3 : (A c3).map f = (A c3).map g)
    (h4 : (A c4).map f = (A c4).map g) (h5 : (A c5).map f = (A c5).map g) (h6 : (A c6).map f = (A c6).map g) (h7 : (A c7).map f = (A c7).map g) : f y = g y :=
  find_chunk (Q := fun s' => s' = s → f y = g y) hs (fun h e => map_at h0 (hA _ (e ▸ h))) (fun h e => map_at h1 (hA _ (e ▸ h))) (fun h e => map_at h2 (hA _ (e ▸ h))) (fun h e => map_at h3 (hA _ (e ▸ h))) (fun h e => map_at h4 (hA _ (e ▸ h))) (fun h e => map_at h5 (hA _ (e ▸ h))) (fun h e => map_at h6 (hA _ (e ▸ h))) (fun h e => map_at h7 (hA _ (e ▸ h))) rfl

theorem mem_pairs {l : List Int} {s p : Int} (hs : s ∈ l) (hp : p ∈ plain) : (s, p) ∈ l.flatMap fun s => plain.map fun p => (s, p) := List.mem_flatMap.2 ⟨s, hs, List.mem_map.2 ⟨p, hp, rfl⟩⟩

/-- Is the next one a digit? -/
def numL : List Int → Bool
  | [] => false
  | q :: _ => q == 52

set_option maxHeartbeats 1000000 in
theorem e_out (B : Nat) (F : Value) {s p gc gr ea : Int} (hs : s ∈ cores) (hp : p ∈ plain) (he : ea ∈ eas) {cp : Bool} (hcp : cp = true → s = 12 ∨ s = 36) (env : Nat → V) (top : Bool) (z : V) {l : List Int} (hl : ∀ q ∈ l, q ∈ props) :
    ∃ ans', view (slots ++ [18]) (evalCode (C77 B F) pE (inE (s, p) gc gr cp env top (.n ea) z (Wb.ansOf l))) = outE (s, p) gc gr cp (.n ea) z (wideE ea) (numL l) ans' := by
  cases ha : asks s p (mix s p).2.2 with
  | true =>
    have hx : (s, p) ∈ askers := by
      refine List.mem_filter.2 ⟨List.mem_flatMap.2 ⟨s, hs, ?_⟩, ha⟩
      unfold asks at ha
      simp only [Bool.or_eq_true, Bool.and_eq_true, beq_iff_eq] at ha
      rcases ha with h | ⟨⟨h, _⟩, _⟩ <;> simp [h]
    have hw : asksE s p (mix s p).2.2 = false := by
      unfold asks at ha
      unfold asksE
      simp only [Bool.or_eq_true, Bool.and_eq_true, beq_iff_eq] at ha
      rcases ha with h | ⟨⟨h, h1⟩, _⟩
      · subst h; simp
      · rcases h1 with h1 | h1 <;> subst h1 <;> simp
    have hout : ∀ (num : Bool) (ans : List V), outE (s, p) gc gr cp (.n ea) z (wideE ea) num ans = outE (s, p) gc gr cp (.n ea) z false num ans := by
      intro num ans
      unfold outE
      rw [early_wide hw]
    cases l with
    | nil =>
      refine ⟨[], ?_⟩
      rw [hout, show Wb.ansOf [] = [.t2 (.n 0) (.b false)] from rfl, show numL [] = false from rfl]
      cases cp with
      | false =>
        have h_ := map_at (e_last B F gc gr env top (.n ea) z []) hx
        exact h_
      | true =>
        have hm_ : (s, p) ∈ askersCp := List.mem_filter.2 ⟨hx, by rcases hcp rfl with h | h <;> subst h <;> rfl⟩
        have h_ := map_at (e_lastCp B F gc gr env top (.n ea) z []) hm_
        exact h_
    | cons q l =>
      have hq := hl q List.mem_cons_self
      refine ⟨Wb.ansOf l, ?_⟩
      rw [hout, show Wb.ansOf (q :: l) = .t2 (.n q) (.b true) :: Wb.ansOf l from rfl, show numL (q :: l) = (q == 52) from rfl]
      cases cp with
      | false =>
        have hk : ∀ l' : List Int, s ∈ l' → ((s, p), q) ∈ (askersOf l').flatMap fun x => props.map fun q => (x, q) := by
          intro l' h
          refine List.mem_flatMap.2 ⟨(s, p), List.mem_filter.2 ⟨List.mem_flatMap.2 ⟨s, h, ?_⟩, ha⟩, List.mem_map.2 ⟨q, hq, rfl⟩⟩
          unfold asks at ha
          simp only [Bool.or_eq_true, Bool.and_eq_true, beq_iff_eq] at ha
          rcases ha with h | ⟨⟨h, _⟩, _⟩ <;> simp [h]
        have h_ := chunked (fun l => (askersOf l).flatMap fun x => props.map fun q => (x, q)) (y := ((s, p), q)) hs hk (e_ask0 B F gc gr env top (.n ea) z (Wb.ansOf l)) (e_ask1 B F gc gr env top (.n ea) z (Wb.ansOf l)) (e_ask2 B F gc gr env top (.n ea) z (Wb.ansOf l)) (e_ask3 B F gc gr env top (.n ea) z (Wb.ansOf l)) (e_ask4 B F gc gr env top (.n ea) z (Wb.ansOf l)) (e_ask5 B F gc gr env top (.n ea) z (Wb.ansOf l)) (e_ask6 B F gc gr env top (.n ea) z (Wb.ansOf l)) (e_ask7 B F gc gr env top (.n ea) z (Wb.ansOf l))
        exact h_
      | true =>
        have hm_ : ((s, p), q) ∈ askersCp.flatMap fun x => props.map fun q => (x, q) := List.mem_flatMap.2 ⟨(s, p), List.mem_filter.2 ⟨hx, by rcases hcp rfl with h | h <;> subst h <;> rfl⟩, List.mem_map.2 ⟨q, hq, rfl⟩⟩
        have h_ := map_at (e_askCp B F gc gr env top (.n ea) z (Wb.ansOf l)) hm_
        exact h_
  | false =>
    refine ⟨Wb.ansOf l, ?_⟩
    have hout : ∀ (wide : Bool), outE (s, p) gc gr cp (.n ea) z wide (numL l) (Wb.ansOf l) = outE (s, p) gc gr cp (.n ea) z wide false (Wb.ansOf l) := by
      intro wide
      unfold outE
      rw [early_num ha]
    rw [hout]
    cases hw : asksE s p (mix s p).2.2 with
    | true =>
      have hs4 : s = 27 ∨ s = 26 ∨ s = 28 ∨ s = 32 := by
        unfold asksE at hw
        simp only [Bool.or_eq_true, Bool.and_eq_true, beq_iff_eq] at hw
        rcases hw.1.2 with ((h | h) | h) | h <;> simp [h]
      have hp4 : p = 47 := by
        unfold asksE at hw
        simp only [Bool.and_eq_true, beq_iff_eq] at hw
        exact hw.2
      have hc : cp = false := by
        cases cp with
        | false => rfl
        | true =>
          exfalso
          rcases hcp rfl with h | h <;> omega
      subst hc
      have hm_ : ((s, p), ea) ∈ opens.flatMap fun x => eas.map fun ea => (x, ea) := List.mem_flatMap.2 ⟨(s, p), List.mem_filter.2 ⟨List.mem_map.2 ⟨s, by simp only [List.mem_cons, List.not_mem_nil, or_false]; exact hs4, by rw [hp4]⟩, hw⟩, List.mem_map.2 ⟨ea, he, rfl⟩⟩
      have h_ := map_at (e_open B F gc gr env top z (Wb.ansOf l)) hm_
      exact h_
    | false =>
      have hout2 : outE (s, p) gc gr cp (.n ea) z (wideE ea) false (Wb.ansOf l) = outE (s, p) gc gr cp (.n ea) z false false (Wb.ansOf l) := by
        unfold outE
        rw [early_wide hw]
      rw [hout2]
      have hq : ∀ l : List Int, s ∈ l → (s, p) ∈ quiet l := fun l h => List.mem_filter.2 ⟨mem_pairs h hp, by dsimp only; rw [ha, hw]; rfl⟩
      cases cp with
      | true =>
        have hm_ : (s, p) ∈ quiet [12, 36] := hq _ (by rcases hcp rfl with h | h <;> simp [h])
        have h_ := map_at (e_cp B F gc gr env top (.n ea) z (Wb.ansOf l)) hm_
        exact h_
      | false =>
        have h_ := chunked (quiet) (y := (s, p)) hs hq (e_quiet0 B F gc gr env top (.n ea) z (Wb.ansOf l)) (e_quiet1 B F gc gr env top (.n ea) z (Wb.ansOf l)) (e_quiet2 B F gc gr env top (.n ea) z (Wb.ansOf l)) (e_quiet3 B F gc gr env top (.n ea) z (Wb.ansOf l)) (e_quiet4 B F gc gr env top (.n ea) z (Wb.ansOf l)) (e_quiet5 B F gc gr env top (.n ea) z (Wb.ansOf l)) (e_quiet6 B F gc gr env top (.n ea) z (Wb.ansOf l)) (e_quiet7 B F gc gr env top (.n ea) z (Wb.ansOf l))
        exact h_

/-! ### LB30a, where two regions draw their order -/
def opsOf (c : Code) : Array Oper := match c with | .region _ ops _ => ops | _ => #[]
def idOf (c : Code) : Nat := match c with | .region i _ _ => i | _ => 0
noncomputable def r69 : Code := fstOf (fstOf kE)
noncomputable def tF : Code := thenOf (sndOf (fstOf kE))
noncomputable def r70 : Code := fstOf (fstOf tF)
noncomputable def a71 : Code := thenOf (sndOf (fstOf tF))
noncomputable def r72 : Code := fstOf (fstOf (sndOf tF))
noncomputable def a73 : Code := thenOf (sndOf (fstOf (sndOf tF)))
noncomputable def a74 : Code := sndOf (sndOf tF)
theorem kE_eq : kE = .seq (.seq r69 (.cond (.tmp 291) (.seq (.seq r70 (.cond (.tmp 297) a71 .skip)) (.seq (.seq r72 (.cond (.tmp 300) a73 .skip)) a74)) .skip)) kF := by kernel_rfl
theorem a71_eq : a71 = .seq (.region (idOf (fstOf a71)) (opsOf (fstOf a71)) true) .ret := by kernel_rfl
theorem a74_eq : a74 = .seq (.region (idOf (fstOf a74)) (opsOf (fstOf a74)) true) .ret := by kernel_rfl
theorem r69_chk (B : Nat) (F : Value) (gc gr : Int) (cp : Bool) (env : Nat → V) (top : Bool) (e z : V) (ans : List V) :
    cores.map (fun s => view (slots ++ [291]) (evalCode (C77 B F) r69 (inE (s, 75) gc gr cp env top e z ans))) = cores.map (fun s => some (.normal, keep (.n s) (.n 75) (.n gc) (.n gr) cp ++ [.b true], [e, .n (mix s 75).1, .n (mix s 75).2.1, z], ans, dfr)) := by kernel_rfl
theorem r70_chk (B : Nat) (F : Value) (p gc gr : V) (cp : Bool) (env : Nat → V) (top : Bool) (mem ans : List V) :
    cores.map (fun s => view (slots ++ [297]) (evalCode (C77 B F) r70 ⟨ov slots (keep (.n s) p gc gr cp) env, mem, top, ans, dfr⟩)) = cores.map (fun s => some (.normal, keep (.n s) p gc gr cp ++ [.b (!(s == 43 || s == 44))], mem, ans, dfr)) := by kernel_rfl
theorem r72_chk (B : Nat) (F : Value) (p gc gr : V) (cp : Bool) (env : Nat → V) (top : Bool) (mem ans : List V) :
    cores.map (fun s => view (slots ++ [300]) (evalCode (C77 B F) r72 ⟨ov slots (keep (.n s) p gc gr cp) env, mem, top, ans, dfr⟩)) = cores.map (fun s => some (.normal, keep (.n s) p gc gr cp ++ [.b (s == 43)], mem, ans, dfr)) := by kernel_rfl
theorem a73_chk (B : Nat) (F : Value) (s p gc gr : V) (cp : Bool) (env : Nat → V) (top : Bool) (e a b z : V) (ans : List V) :
    view slots (evalCode (C77 B F) a73 ⟨ov slots (keep s p gc gr cp) env, [e, a, b, z], top, ans, dfr⟩) = some (.ret, keep s p gc gr cp, [e, .n 44, .n 0, z], ans, dfr) := by kernel_rfl
/-- What is seen of the states that all orders lead to. -/
def viewL (r : Option (List St)) : Option (List (V × V × List V × List V × List (Nat × List Nat))) := match r with
  | some l => some (l.map fun s => (s.env 12, s.env 13, s.mem, s.ans, s.dfr))
  | none => none
theorem viewL_eq {r : Option (List St)} {l : List (V × V × List V × List V × List (Nat × List Nat))} (h : viewL r = some l) : ∃ L, r = some L ∧ ∀ s ∈ L, (s.env 12, s.env 13, s.mem, s.ans, s.dfr) ∈ l := by
  cases r with
  | none => exact absurd h (by simp [viewL])
  | some L =>
    simp only [viewL, Option.some.injEq] at h
    subst h
    exact ⟨L, rfl, fun s hs => List.mem_map.2 ⟨s, hs, rfl⟩⟩
theorem d71_chk (B : Nat) (F : Value) (s p gc gr : V) (cp : Bool) (env : Nat → V) (top : Bool) (e z : V) (a b : Int) (ans : List V) :
    viewL (evalDraw (C77 B F) (opsOf (fstOf a71)).toList (opsOf (fstOf a71)).toList.length ((opsOf (fstOf a71)).toList.map fun _ => false) ⟨ov slots (keep s p gc gr cp) env, [e, .n a, .n b, z], top, ans, dfr⟩) =
      some [(.p 1, .p 2, [e, .n 43, .n b, z], ans, dfr), (.p 1, .p 2, [e, .n 43, .n b, z], ans, dfr)] := by kernel_rfl
theorem d74_chk (B : Nat) (F : Value) (s p gc gr : V) (cp : Bool) (env : Nat → V) (top : Bool) (e z : V) (a b : Int) (ans : List V) :
    viewL (evalDraw (C77 B F) (opsOf (fstOf a74)).toList (opsOf (fstOf a74)).toList.length ((opsOf (fstOf a74)).toList.map fun _ => false) ⟨ov slots (keep s p gc gr cp) env, [e, .n a, .n b, z], top, ans, dfr⟩) =
      some [(.p 1, .p 2, [e, .n 43, .n b, z], ans, dfr), (.p 1, .p 2, [e, .n 43, .n b, z], ans, dfr)] := by kernel_rfl

section
variable {w : World} {F : Value} {I : List V → World → Prop} (hI : Asks F w.heap.size I)
include hI

/-- The end of every way: what is deferred, and the results out of their cells. -/
theorem finish {env : Nat → V} {top : Bool} {ea ns lb : Int} {z : Bool} {ans : List V} {w4 : World} (hn : ns ∈ states) (he : ea ∈ eas) (h12 : env 12 = .p 1) (h13 : env 13 = .p 2)
    (hw : Rel (C77 w.heap.size F) I ⟨env, [.n ea, .n ns, .n lb, .b z], top, ans, dfr⟩ w4) :
    bodyPostD Try.prog Try.f77 (fun e w' => e = .returned (.tuple #[.int .i64 (close (ns, lb) (wideE ea) z).1, .int .i64 (close (ns, lb) (wideE ea) z).2]) ∧ ∃ ans, I ans w') .ret (act (C77 w.heap.size F) ⟨env, [.n ea, .n ns, .n lb, .b z], top, ans, dfr⟩) w4 := by
  have hC := C77_ok hI
  have hev : ∃ e2 t2, evalCode ((C77 w.heap.size F).slots 23) (body Try.f92) ⟨argEnv ([1, 0, 3, 2].map .p), [.n ea, .n ns, .n lb, .b z], false, ans, []⟩ =
      some (.normal, ⟨e2, [.n ea, .n (close (ns, lb) (wideE ea) z).1, .n (close (ns, lb) (wideE ea) z).2, .b z], t2, ans, []⟩) := by
    by_cases h : (ns == 12 || ns == 36) = true
    · have hx : (ns, ea, z) ∈ ([12, 36] : List Int).flatMap fun n => eas.flatMap fun ea => [(n, ea, true), (n, ea, false)] := by
        refine List.mem_flatMap.2 ⟨ns, ?_, List.mem_flatMap.2 ⟨ea, he, ?_⟩⟩
        · simpa using h
        · cases z <;> simp
      obtain ⟨e2, t2, hr, _⟩ := view_eq (map_at (h_cp w.heap.size F lb ans) hx)
      exact ⟨e2, t2, hr⟩
    · have hx : (ns, z) ∈ (states.filter fun n => !(n == 12 || n == 36)).flatMap fun n => [(n, true), (n, false)] := by
        refine List.mem_flatMap.2 ⟨ns, List.mem_filter.2 ⟨hn, by rw [Bool.not_eq_true] at h; rw [h]; rfl⟩, ?_⟩
        cases z <;> simp
      obtain ⟨e2, t2, hr, _⟩ := view_eq (map_at (h_any w.heap.size F ea lb ans) hx)
      have hcl : close (ns, lb) (wideE ea) z = close (ns, lb) false z := by
        rw [Bool.not_eq_true] at h
        unfold close
        dsimp only
        rw [h]
        rfl
      rw [hcl]
      exact ⟨e2, t2, hr⟩
  obtain ⟨e2, t2, hr⟩ := hev
  refine leaves_one (C := C77 w.heap.size F) (I := I) hC hw (f := 92) (l := [1, 0, 3, 2]) rfl Try.func92 (by kernel_rfl) (by kernel_rfl) (by show 4 ≤ 23; decide) rfl hr rfl rfl fun w' hw' => ⟨_, ?_, rfl, _, hw'.inv⟩
  exact results_cells (C := C77 w.heap.size F) hC (fn := Try.f77) (i := 12) (j := 13) (a := 1) (b := 2) (t := 3) (u := 3) rfl (by show 12 < 318; decide) (by show 13 < 318; decide) h12 h13 (kt := .i) (ku := .i) rfl rfl hw' rfl rfl

/-- The end of a way that draws. -/
theorem drawn {c : Code} (hc : c = .seq (.region (idOf (fstOf c)) (opsOf (fstOf c)) true) .ret) {ea b : Int} {z : Bool} {ans : List V} {s : St} {w4 : World} (he : ea ∈ eas)
    (hv : viewL (evalDraw (C77 w.heap.size F) (opsOf (fstOf c)).toList (opsOf (fstOf c)).toList.length ((opsOf (fstOf c)).toList.map fun _ => false) s) = some [(.p 1, .p 2, [.n ea, .n 43, .n b, .b z], ans, dfr), (.p 1, .p 2, [.n ea, .n 43, .n b, .b z], ans, dfr)])
    (hw : Rel (C77 w.heap.size F) I s w4) {Q : Exit → Act → World → Prop}
    (hQ : ∀ a w4, bodyPostD Try.prog Try.f77 (fun e w' => e = .returned (.tuple #[.int .i64 (close (43, b) (wideE ea) z).1, .int .i64 (close (43, b) (wideE ea) z).2]) ∧ ∃ ans, I ans w') .ret a w4 → Q .ret a w4) :
    c.wp Try.prog Q (act (C77 w.heap.size F) s) w4 := by
  rw [hc]
  obtain ⟨L, hL, hm⟩ := viewL_eq hv
  refine wp_seq (region_draw (C := C77 w.heap.size F) (C77_ok hI) (by kernel_rfl) hL hw fun s' hs' w' hw' => ?_)
  obtain ⟨env', mem', top', ans', dfr'⟩ := s'
  have h1 := hm _ hs'
  simp only [List.mem_cons, List.not_mem_nil, or_false, or_self, Prod.mk.injEq] at h1
  obtain ⟨h12, h13, rfl, rfl, rfl⟩ := h1
  exact wp_ret (hQ _ _ (finish hI (ns := 43) (lb := b) (by decide) he h12 h13 hw'))

set_option maxHeartbeats 1000000 in
/-- LB30a, LB30b and the end. -/
theorem walkF {s p gc gr ea : Int} (hs : s ∈ cores) (hp : p ∈ plain) (hg : gc ∈ gens) (hr : gr = 1 ∨ gr = 15) (he : ea ∈ eas) (cp : Bool) (env : Nat → V) (top z : Bool) (ans : List V) {w4 : World}
    (hw : Rel (C77 w.heap.size F) I (inE (s, p) gc gr cp env top (.n ea) (.b z) ans) w4) :
    kE.wp Try.prog (bodyPostD Try.prog Try.f77 (fun e w' => e = .returned (.tuple #[.int .i64 (close (late s p (mix s p) (gr == 15 && gc == 28)) (wideE ea) z).1, .int .i64 (close (late s p (mix s p) (gr == 15 && gc == 28)) (wideE ea) z).2]) ∧ ∃ ans, I ans w'))
      (act (C77 w.heap.size F) (inE (s, p) gc gr cp env top (.n ea) (.b z) ans)) w4 := by
  have hC := C77_ok hI
  have hlate : (late s p (mix s p) (gr == 15 && gc == 28)).1 ∈ states := by
    have h := List.all_eq_true.1 (List.all_eq_true.1 late_mem (s, p) (List.mem_flatMap.2 ⟨s, hs, List.mem_map.2 ⟨p, hp, rfl⟩⟩)) (gr == 15 && gc == 28) (by cases (gr == 15 && gc == 28) <;> simp)
    simpa using h
  by_cases hri : p = 75
  · subst hri
    have hm0 : (mix s 75).1 = 0 := by
      have := List.all_eq_true.1 ri_mix s hs
      simpa using this
    rw [kE_eq]
    refine wp_seq (wp_seq ?_)
    obtain ⟨env1, top1, hr1, hm1⟩ := view_eq (map_at (r69_chk w.heap.size F gc gr cp env top (.n ea) (.b z) ans) hs)
    refine evalCode_sound hC r69 _ hr1 hw fun w5 hw5 => ?_
    have hk1 : slots.map env1 = keep (.n s) (.n 75) (.n gc) (.n gr) cp := by
      have := congrArg (List.take 9) hm1
      simpa [slots, keep] using this
    have h291 : env1 291 = .b true := by
      have := congrArg (List.drop 9) hm1
      simpa [slots, keep] using this
    refine wp_cond_true (eval_bool (by show 291 < 318; decide) h291) (wp_seq (wp_seq ?_))
    rw [ov_env hk1] at hw5 ⊢
    obtain ⟨env2, top2, hr2, hm2⟩ := view_eq (map_at (r70_chk w.heap.size F (.n 75) (.n gc) (.n gr) cp env1 top1 [.n ea, .n (mix s 75).1, .n (mix s 75).2.1, .b z] ans) hs)
    refine evalCode_sound hC r70 _ hr2 hw5 fun w6 hw6 => ?_
    have hk2 : slots.map env2 = keep (.n s) (.n 75) (.n gc) (.n gr) cp := by
      have := congrArg (List.take 9) hm2
      simpa [slots, keep] using this
    have h297 : env2 297 = .b (!(s == 43 || s == 44)) := by
      have := congrArg (List.drop 9) hm2
      simpa [slots, keep] using this
    have hc297 := eval_bool (C := C77 w.heap.size F) (s := ⟨env2, [.n ea, .n (mix s 75).1, .n (mix s 75).2.1, .b z], top2, ans, dfr⟩) (t := 297) (by show 297 < 318; decide) h297
    cases h43 : (s == 43 || s == 44) with
    | false =>
      rw [h43] at hc297
      refine wp_cond_true hc297 ?_
      rw [ov_env hk2] at hw6 ⊢
      have hl : late s 75 (mix s 75) (gr == 15 && gc == 28) = (43, (mix s 75).2.1) := by
        rw [Bool.or_eq_false_iff] at h43
        unfold late
        rw [hm0, h43.1]
        rfl
      rw [hl]
      exact drawn hI a71_eq he (d71_chk w.heap.size F (.n s) (.n 75) (.n gc) (.n gr) cp env2 top2 (.n ea) (.b z) _ _ ans) hw6 fun _ _ h => h
    | true =>
      rw [h43] at hc297
      refine wp_cond_false hc297 (wp_skip ?_)
      refine wp_seq (wp_seq ?_)
      rw [ov_env hk2] at hw6 ⊢
      obtain ⟨env3, top3, hr3, hm3⟩ := view_eq (map_at (r72_chk w.heap.size F (.n 75) (.n gc) (.n gr) cp env2 top2 [.n ea, .n (mix s 75).1, .n (mix s 75).2.1, .b z] ans) hs)
      refine evalCode_sound hC r72 _ hr3 hw6 fun w7 hw7 => ?_
      have hk3 : slots.map env3 = keep (.n s) (.n 75) (.n gc) (.n gr) cp := by
        have := congrArg (List.take 9) hm3
        simpa [slots, keep] using this
      have h300 : env3 300 = .b (s == 43) := by
        have := congrArg (List.drop 9) hm3
        simpa [slots, keep] using this
      have hc300 := eval_bool (C := C77 w.heap.size F) (s := ⟨env3, [.n ea, .n (mix s 75).1, .n (mix s 75).2.1, .b z], top3, ans, dfr⟩) (t := 300) (by show 300 < 318; decide) h300
      cases hs43 : (s == 43) with
      | true =>
        rw [hs43] at hc300
        refine wp_cond_true hc300 ?_
        rw [ov_env hk3] at hw7 ⊢
        obtain ⟨env4, top4, hr4, hm4⟩ := view_eq (a73_chk w.heap.size F (.n s) (.n 75) (.n gc) (.n gr) cp env3 top3 (.n ea) (.n (mix s 75).1) (.n (mix s 75).2.1) (.b z) ans)
        have hl : late s 75 (mix s 75) (gr == 15 && gc == 28) = (44, 0) := by
          unfold late
          rw [hm0, hs43]
          rfl
        rw [hl]
        refine evalCode_sound hC a73 _ hr4 hw7 fun w8 hw8 => ?_
        simp only [slots, keep, List.map_cons, List.map_nil, List.cons.injEq, and_true] at hm4
        obtain ⟨_, _, _, _, _, _, h12, h13, _⟩ := hm4
        exact finish hI (ns := 44) (lb := 0) (by decide) he h12 h13 hw8
      | false =>
        rw [hs43] at hc300
        refine wp_cond_false hc300 (wp_skip ?_)
        show a74.wp _ _ _ _
        rw [ov_env hk3] at hw7 ⊢
        have hl : late s 75 (mix s 75) (gr == 15 && gc == 28) = (43, (mix s 75).2.1) := by
          unfold late
          rw [hm0, hs43]
          rfl
        rw [hl]
        exact drawn hI a74_eq he (d74_chk w.heap.size F (.n s) (.n 75) (.n gc) (.n gr) cp env3 top3 (.n ea) (.b z) _ _ ans) hw7 fun _ _ h => h
  · have hq : ∀ l : List Int, s ∈ l → (s, p) ∈ noRI l := fun l h => List.mem_filter.2 ⟨mem_pairs h hp, by simp [hri]⟩
    have hf : view (slots ++ [18]) (evalCode (C77 w.heap.size F) pF (inE (s, p) gc gr cp env top (.n ea) (.b z) ans)) = some (.normal, keep (.n s) (.n p) (.n gc) (.n gr) cp ++ [.n (mix s p).2.2], [.n ea, .n (mix s p).1, .n (mix s p).2.1, .b z], ans, dfr) := by
      have h_ := chunked (noRI) (y := (s, p)) hs hq (f_chk0 w.heap.size F gc gr cp env top (.n ea) (.b z) ans) (f_chk1 w.heap.size F gc gr cp env top (.n ea) (.b z) ans) (f_chk2 w.heap.size F gc gr cp env top (.n ea) (.b z) ans) (f_chk3 w.heap.size F gc gr cp env top (.n ea) (.b z) ans) (f_chk4 w.heap.size F gc gr cp env top (.n ea) (.b z) ans) (f_chk5 w.heap.size F gc gr cp env top (.n ea) (.b z) ans) (f_chk6 w.heap.size F gc gr cp env top (.n ea) (.b z) ans) (f_chk7 w.heap.size F gc gr cp env top (.n ea) (.b z) ans)
      exact h_
    obtain ⟨env1, top1, hr1, hm1⟩ := view_eq hf
    refine eval_cut hC 1 _ _ hr1 hw fun w5 hw5 => ?_
    show kF.wp _ _ _ _
    rw [ov_env hm1] at hw5 ⊢
    have hg2 : view slots (evalCode (C77 w.heap.size F) kF (inE (s, p) gc gr cp env1 top1 (.n ea) (.b z) ans)) = outG (s, p) gc gr cp (.n ea) (.b z) (gr == 15 && gc == 28) ans := by
      rcases hr with rfl | rfl
      · have h_ := chunked (noRI) (y := (s, p)) hs hq (g_any0 w.heap.size F gc cp env1 top1 (.n ea) (.b z) ans) (g_any1 w.heap.size F gc cp env1 top1 (.n ea) (.b z) ans) (g_any2 w.heap.size F gc cp env1 top1 (.n ea) (.b z) ans) (g_any3 w.heap.size F gc cp env1 top1 (.n ea) (.b z) ans) (g_any4 w.heap.size F gc cp env1 top1 (.n ea) (.b z) ans) (g_any5 w.heap.size F gc cp env1 top1 (.n ea) (.b z) ans) (g_any6 w.heap.size F gc cp env1 top1 (.n ea) (.b z) ans) (g_any7 w.heap.size F gc cp env1 top1 (.n ea) (.b z) ans)
        exact h_
      · have hx : ∀ l : List Int, s ∈ l → ((s, p), gc) ∈ (noRI l).flatMap fun x => gens.map fun gc => (x, gc) := fun l h => List.mem_flatMap.2 ⟨(s, p), hq l h, List.mem_map.2 ⟨gc, hg, rfl⟩⟩
        have h_ := chunked (fun l => (noRI l).flatMap fun x => gens.map fun gc => (x, gc)) (y := ((s, p), gc)) hs hx (g_pict0 w.heap.size F cp env1 top1 (.n ea) (.b z) ans) (g_pict1 w.heap.size F cp env1 top1 (.n ea) (.b z) ans) (g_pict2 w.heap.size F cp env1 top1 (.n ea) (.b z) ans) (g_pict3 w.heap.size F cp env1 top1 (.n ea) (.b z) ans) (g_pict4 w.heap.size F cp env1 top1 (.n ea) (.b z) ans) (g_pict5 w.heap.size F cp env1 top1 (.n ea) (.b z) ans) (g_pict6 w.heap.size F cp env1 top1 (.n ea) (.b z) ans) (g_pict7 w.heap.size F cp env1 top1 (.n ea) (.b z) ans)
        exact h_
    obtain ⟨env2, top2, hr2, hm2⟩ := view_eq hg2
    refine evalCode_sound hC kF _ hr2 hw5 fun w6 hw6 => ?_
    simp only [slots, keep, List.map_cons, List.map_nil, List.cons.injEq, and_true] at hm2
    obtain ⟨_, _, _, _, _, _, h12, h13, _⟩ := hm2
    exact finish hI (ns := (late s p (mix s p) (gr == 15 && gc == 28)).1) (lb := (late s p (mix s p) (gr == 15 && gc == 28)).2) hlate he h12 h13 hw6

set_option maxHeartbeats 1000000 in
set_option maxRecDepth 100000 in
/-- One step of lines: whatever the function that was handed in tells, one call behind the other. -/
theorem step_calls {s p gc ea gr : Int} (hs : s ∈ states) (hp : p ∈ props) (hg : gc ∈ gens) (he : ea ∈ eas) (hr : gr = 1 ∨ gr = 15) (l : List Int) (hl : ∀ q ∈ l, q ∈ props) (h : I (ansOf l) w) :
    Calls Try.prog 77 #[.int .i64 s, .int .i64 p, .int .i64 gc, .int .i64 ea, .int .i64 gr, F] w fun e w' =>
      e = .returned (.tuple #[.int .i64 (next s p (isMark gc) (wideE ea) (gr == 15 && gc == 28) (numL l)).1, .int .i64 (next s p (isMark gc) (wideE ea) (gr == 15 && gc == 28) (numL l)).2]) ∧ ∃ ans, I ans w' := by
  have hC := C77_ok hI
  refine calls_of_body_defers (C := C77 w.heap.size F) (l := [.n s, .n p, .n gc, .n ea, .n gr, .orc]) (ans := ansOf l) Try.func77 (by kernel_rfl) rfl (by show 6 ≤ 318; decide) ?_
  have hrel : Rel (C77 w.heap.size F) I (enter [.n s, .n p, .n gc, .n ea, .n gr, .orc] (ansOf l)) w := Rel.enter h rfl
  obtain ⟨env1, top1, hr1, hm1⟩ := view_eq (map_at (a_chk w.heap.size F p gc ea gr (ansOf l)) hs)
  refine eval_cut hC 5 _ _ hr1 hrel fun w1 hw1 => ?_
  show kA.wp _ _ _ _
  rw [ov_env hm1] at hw1 ⊢
  have hcm := List.all_eq_true.1 core_mem s hs
  rw [Bool.and_eq_true] at hcm
  have hsc : core s ∈ cores := by simpa using hcm.1
  have hcp : cpOf s = true → core s = 12 ∨ core s = 36 := by
    intro h
    have := hcm.2
    rw [h] at this
    simpa using this
  unfold next
  generalize hcs : core s = c at hw1 hsc hcp ⊢
  generalize cpOf s = cp at hw1 hcp ⊢
  generalize zwOf s = z at hw1 ⊢
  have hb : view slots (evalCode (C77 w.heap.size F) pB ⟨ov slots (keep (.n c) (.n p) (.n gc) (.n gr) cp) env1, [.n ea, .n 0, .n 0, .b z], top1, ansOf l, dfr⟩) = some (.normal, keep (.n c) (.n (lb1 p (isMark gc))) (.n gc) (.n gr) cp, [.n ea, .n 0, .n 0, .b z], ansOf l, dfr) := by
    by_cases h59 : p = 59
    · subst h59
      have h_ := map_at (b_sa w.heap.size F c gr cp env1 top1 [.n ea, .n 0, .n 0, .b z] (ansOf l)) hg
      exact h_
    · have hmem : p ∈ props.filter (fun p => !(p == 59)) := List.mem_filter.2 ⟨hp, by simp [h59]⟩
      have h1 := List.all_eq_true.1 (List.all_eq_true.1 lb1_mark p hmem) (isMark gc) (by cases isMark gc <;> simp)
      rw [beq_iff_eq] at h1
      rw [h1]
      have h_ := map_at (b_chk w.heap.size F c gc gr cp env1 top1 [.n ea, .n 0, .n 0, .b z] (ansOf l)) hmem
      exact h_
  obtain ⟨env2, top2, hr2, hm2⟩ := view_eq hb
  refine eval_cut hC 1 _ _ hr2 hw1 fun w2 hw2 => ?_
  show kB.wp _ _ _ _
  rw [ov_env hm2] at hw2 ⊢
  have hk := List.all_eq_true.1 (List.all_eq_true.1 lb1_kind p hp) (isMark gc) (by cases isMark gc <;> simp)
  generalize lb1 p (isMark gc) = q at hw2 hk ⊢
  rw [Bool.or_eq_true] at hk
  rcases hk with hk | hk
  · have hq : q = 14 ∨ q = 38 := by simpa using hk
    have hmem : (c, q) ∈ cores.flatMap fun s => [(s, (14 : Int)), (s, 38)] := List.mem_flatMap.2 ⟨c, hsc, by rcases hq with rfl | rfl <;> simp⟩
    have hin : inner c q (wideE ea) cp (gr == 15 && gc == 28) (numL l) = marked c q := by
      unfold inner
      rcases hq with rfl | rfl <;> rfl
    rw [hin]
    obtain ⟨env3, top3, hr3, hm3⟩ := view_eq (map_at (c_mark w.heap.size F gc gr cp env2 top2 (.n ea) (.b z) (ansOf l)) hmem)
    refine eval_cut hC 1 _ _ hr3 hw2 fun w3 hw3 => ?_
    simp only [slots, keep, List.map_cons, List.map_nil, List.cons.injEq, and_true] at hm3
    obtain ⟨_, _, _, _, _, _, h12, h13, _⟩ := hm3
    refine finish hI (ns := (marked c q).1) (lb := (marked c q).2) ?_ he h12 h13 hw3
    have h1 := List.all_eq_true.1 marked_mem c hsc
    simp only [Bool.and_eq_true] at h1
    rcases hq with rfl | rfl
    · exact List.contains_iff_mem.1 h1.1
    · exact List.contains_iff_mem.1 h1.2
  · have hq : q ∈ plain := by simpa using hk
    have hin : inner c q (wideE ea) cp (gr == 15 && gc == 28) (numL l) = after c q (mix c q) (wideE ea) cp (gr == 15 && gc == 28) (numL l) := by
      unfold inner
      have : (q == 14 || q == 38) = false := by
        have h1 : (plain.all fun q => !(q == 14 || q == 38)) = true := by decide +kernel
        have := List.all_eq_true.1 h1 q hq
        simpa using this
      rw [this]
      rfl
    rw [hin, after_eq]
    obtain ⟨env3, top3, hr3, hm3⟩ := view_eq (map_at (c_plain w.heap.size F c gc gr cp env2 top2 [.n ea, .n 0, .n 0, .b z] (ansOf l)) hq)
    refine eval_cut hC 1 _ _ hr3 hw2 fun w3 hw3 => ?_
    show kC.wp _ _ _ _
    rw [ov_env hm3] at hw3 ⊢
    have hd : view (slots ++ [18]) (evalCode (C77 w.heap.size F) pD ⟨ov slots (keep (.n c) (.n q) (.n gc) (.n gr) cp) env3, [.n ea, .n 0, .n 0, .b z], top3, ansOf l, dfr⟩) = some (.normal, keep (.n c) (.n q) (.n gc) (.n gr) cp ++ [.n (mix c q).2.2], [.n ea, .n (mix c q).1, .n (mix c q).2.1, .b z], ansOf l, dfr) := by
      have h_ := chunked (fun l => l.flatMap fun s => plain.map fun p => (s, p)) (y := (c, q)) hsc (fun l h => mem_pairs h hq) (d_chk0 w.heap.size F gc gr cp env3 top3 (.n ea) (.b z) (ansOf l)) (d_chk1 w.heap.size F gc gr cp env3 top3 (.n ea) (.b z) (ansOf l)) (d_chk2 w.heap.size F gc gr cp env3 top3 (.n ea) (.b z) (ansOf l)) (d_chk3 w.heap.size F gc gr cp env3 top3 (.n ea) (.b z) (ansOf l)) (d_chk4 w.heap.size F gc gr cp env3 top3 (.n ea) (.b z) (ansOf l)) (d_chk5 w.heap.size F gc gr cp env3 top3 (.n ea) (.b z) (ansOf l)) (d_chk6 w.heap.size F gc gr cp env3 top3 (.n ea) (.b z) (ansOf l)) (d_chk7 w.heap.size F gc gr cp env3 top3 (.n ea) (.b z) (ansOf l))
      exact h_
    obtain ⟨env4, top4, hr4, hm4⟩ := view_eq hd
    refine eval_cut hC 3 _ _ hr4 hw3 fun w4 hw4 => ?_
    show kD.wp _ _ _ _
    rw [ov_env hm4] at hw4 ⊢
    obtain ⟨ans', hE⟩ := e_out w.heap.size F (gc := gc) (gr := gr) hsc hq he hcp env4 top4 (.b z) hl
    cases hear : early c q (mix c q) (wideE ea) cp (numL l) with
    | some r =>
      have hE' : outE (c, q) gc gr cp (.n ea) (.b z) (wideE ea) (numL l) ans' = some (.ret, keep (.n c) (.n q) (.n gc) (.n gr) cp ++ [.n (mix c q).2.2], [.n ea, .n r.1, .n r.2, .b z], ans', dfr) := by
        unfold outE
        dsimp only
        rw [hear]
      rw [hE'] at hE
      obtain ⟨env5, top5, hr5, hm5⟩ := view_eq hE
      refine eval_cut hC 4 _ _ hr5 hw4 fun w5 hw5 => ?_
      simp only [slots, keep, List.cons_append, List.nil_append, List.map_cons, List.map_nil, List.cons.injEq, and_true] at hm5
      obtain ⟨_, _, _, _, _, _, h12, h13, _, _⟩ := hm5
      exact finish hI (ns := r.1) (lb := r.2) (early_mem hear) he h12 h13 hw5
    | none =>
      have hE' : outE (c, q) gc gr cp (.n ea) (.b z) (wideE ea) (numL l) ans' = some (.normal, keep (.n c) (.n q) (.n gc) (.n gr) cp ++ [.n (mix c q).2.2], [.n ea, .n (mix c q).1, .n (mix c q).2.1, .b z], ans', dfr) := by
        unfold outE
        dsimp only
        rw [hear]
      rw [hE'] at hE
      obtain ⟨env5, top5, hr5, hm5⟩ := view_eq hE
      refine eval_cut hC 4 _ _ hr5 hw4 fun w5 hw5 => ?_
      show kE.wp _ _ _ _
      rw [ov_env hm5] at hw5 ⊢
      exact walkF hI hsc hq hg hr he cp env5 top5 z ans' hw5
end
end Go.Proofs.Ytnanfoahimccpaa.Lb
