/- The plain law of FnLineRow. No program in sight, but in what the places say. -/
import Derived.Test.YtnanfoahimccpaaLbTold
import Derived.Test.YtnanfoahimccpaaLbCkA
import Derived.Test.YtnanfoahimccpaaLbCkB
namespace Go.Proofs.Ytnanfoahimccpaa.Lb
open Go.RowKit Go.Proofs.YtnanfoahimccpaaW.PrintWords
open Ln (S62 S64 rd_T62 rd_T64 z64 k64)

/-! ### an element, as the automaton and as the reference see it -/
def conv (x : S62) : S64 := ⟨x.f0, x.f1, x.f2, x.f3 == 14⟩
structure Wf (x : S62) : Prop where
  k0 : 0 ≤ x.f0
  k1 : x.f0 < 43
  g0 : 0 ≤ x.f1
  g1 : x.f1 < 5
  gi : x.f1 = 2 → x.f0 = 27
  e0 : 0 ≤ x.f2
  e1 : x.f2 < 6
  p : x.f3 = 0 ∨ x.f3 = 14
def gcOf (x : S62) : Int := rd gens x.f1
def eaOf (x : S62) : Int := rd eas x.f2
def gral : List Int := [1, 2, 3, 4, 5, 6, 7, 8, 9, 10, 11, 12, 13, 14, 15]
def grOf (x : S62) : Int := rd gral x.f3

theorem kinds_fin : ∀ k : Fin 43, ∀ g : Fin 5, lb1 (numOf k.val) (isMark (rd gens (g.val : Int))) = numK (res ⟨k.val, g.val, 0, false⟩) ∧ res ⟨k.val, g.val, 0, false⟩ ∈ kindsR ∧ (numOf k.val == 52) = (res ⟨k.val, g.val, 0, false⟩ == 34) ∧ rd gens (g.val : Int) ∈ gens ∧ (rd gens (g.val : Int) == 28) = ((g.val : Int) == 2) := by decide +kernel
theorem easts_fin : ∀ e : Fin 6, wideE (rd eas (e.val : Int)) = oneOf [4, 5, 3] e.val ∧ rd eas (e.val : Int) ∈ eas := by decide +kernel
theorem kind_of {x : S62} (h : Wf x) : lb1 (numOf x.f0) (isMark (gcOf x)) = numK (res (conv x)) ∧ res (conv x) ∈ kindsR ∧ (numOf x.f0 == 52) = (res (conv x) == 34) ∧ gcOf x ∈ gens ∧ (gcOf x == 28) = (x.f1 == 2) := by
  have := kinds_fin ⟨x.f0.toNat, by have := h.k0; have := h.k1; omega⟩ ⟨x.f1.toNat, by have := h.g0; have := h.g1; omega⟩
  simpa [Int.toNat_of_nonneg h.k0, Int.toNat_of_nonneg h.g0, gcOf, conv, res] using this
theorem east_of {x : S62} (h : Wf x) : wideE (eaOf x) = wideS (conv x) ∧ eaOf x ∈ eas := by
  have := easts_fin ⟨x.f2.toNat, by have := h.e0; have := h.e1; omega⟩
  simpa [Int.toNat_of_nonneg h.e0, eaOf, conv, wideS] using this
theorem gr_of {x : S62} (h : Wf x) : (grOf x = 1 ∨ grOf x = 15) ∧ (grOf x == 15) = (conv x).f3 := by
  show (rd gral x.f3 = 1 ∨ rd gral x.f3 = 15) ∧ (rd gral x.f3 == 15) = (x.f3 == 14)
  rcases h.p with h | h <;> rw [h] <;> decide
theorem uk_of {x : S62} (h : Wf x) : (grOf x == 15 && gcOf x == 28) = ukS (conv x) := by
  rw [(gr_of h).2, (kind_of h).2.2.2.2]
  rfl
theorem next_of {x : S62} (h : Wf x) (s : Int) (nb : Bool) : next s (numOf x.f0) (isMark (gcOf x)) (wideE (eaOf x)) (grOf x == 15 && gcOf x == 28) nb = nextK s (numK (res (conv x))) (wideS (conv x)) (ukS (conv x)) nb := by
  rw [uk_of h, (east_of h).1]
  unfold next nextK
  rw [(kind_of h).1]
theorem sym_of {x : S62} (h : Wf x) : (res (conv x), wideS (conv x), ukS (conv x)) ∈ syms := by
  have hk := (kind_of h).2.1
  have hb : ∀ b : Bool, (res (conv x), b, false) ∈ syms := by
    intro b
    refine List.mem_append_left _ (List.mem_flatMap.2 ⟨res (conv x), hk, ?_⟩)
    cases b <;> simp
  cases hu : ukS (conv x) with
  | false => exact hb _
  | true =>
    have h2 : x.f1 = 2 := by
      unfold ukS at hu
      rw [Bool.and_eq_true, beq_iff_eq] at hu
      exact hu.2
    have h27 : res (conv x) = 27 := by
      unfold res conv
      rw [h.gi h2]
      rfl
    rw [h27]
    refine List.mem_append_right _ ?_
    cases wideS (conv x) <;> simp
theorem res_nonneg {x : S62} (h : Wf x) : 0 ≤ res (conv x) := by
  have hk := (kind_of h).2.1
  have : ∀ k ∈ kindsR, (0 : Int) ≤ k := by decide
  exact this _ hk

/-! ### the automaton along a row -/
def ks (q : List S62) : List Int := q.map (·.f0)
def elt (q : List S62) (i : Nat) : S62 := rd_T62 q (i : Int)
def stepL (q : List S62) (s : Int) (i : Nat) : Int × Int :=
  next s (numOf (elt q i).f0) (isMark (gcOf (elt q i))) (wideE (eaOf (elt q i))) (grOf (elt q i) == 15 && gcOf (elt q i) == 28) (numL ((nums (ks q)).drop (i + 1)))
def stL (q : List S62) : Nat → Int
  | 0 => -1
  | i + 1 => (stepL q (stL q i) i).1
def cutL (q : List S62) (i : Nat) : Int := (stepL q (stL q i) i).2
def cutsL (q : List S62) (n : Nat) : List Int := (List.range n).map fun j => cutL q (j + 1)
theorem cutsL_succ (q : List S62) (n : Nat) : cutsL q (n + 1) = cutsL q n ++ [cutL q (n + 1)] := by simp [cutsL, List.range_succ]

def ctx (q : List S62) (i : Nat) : Cx := cxQ (((q.take i).map conv).reverse)
/-- Is the next one a digit? -/
def nbL (S : List S64) : Bool := match S with | [] => false | y :: _ => res y == 34

theorem elt_eq {q : List S62} {i : Nat} (hi : i < q.length) : elt q i = q[i] := by simp [elt, rd_T62, hi]
theorem elt_wf {q : List S62} (hq : ∀ x ∈ q, Wf x) {i : Nat} (hi : i < q.length) : Wf (elt q i) := by
  rw [elt_eq hi]
  exact hq _ (List.getElem_mem hi)
theorem ctx_succ {q : List S62} {i : Nat} (hi : i < q.length) : ctx q (i + 1) = stepC (ctx q i) (res (conv (elt q i))) (wideS (conv (elt q i))) (ukS (conv (elt q i))) := by
  unfold ctx
  rw [List.take_succ_eq_append_getElem hi, List.map_append, List.reverse_append, elt_eq hi]
  rfl
theorem drop_cons {q : List S62} {i : Nat} (hi : i < q.length) : q.drop i = elt q i :: q.drop (i + 1) := by
  rw [List.drop_eq_getElem_cons hi, elt_eq hi]
theorem num_drop {q : List S62} (hq : ∀ x ∈ q, Wf x) (i : Nat) : numL ((nums (ks q)).drop i) = nbL ((q.drop i).map conv) := by
  have h1 : (nums (ks q)).drop i = (q.drop i).map fun x => numOf x.f0 := by
    simp only [nums, ks, List.map_map, List.map_drop]
    rfl
  rw [h1]
  cases hd : q.drop i with
  | nil => rfl
  | cons y l =>
    have hy : y ∈ q := List.mem_of_mem_drop (i := i) (by rw [hd]; exact List.mem_cons_self)
    exact (kind_of (hq y hy)).2.2.1
theorem step_eq {q : List S62} (hq : ∀ x ∈ q, Wf x) {i : Nat} (hi : i < q.length) (s : Int) :
    stepL q s i = nextK s (numK (res (conv (elt q i)))) (wideS (conv (elt q i))) (ukS (conv (elt q i))) (nbL ((q.drop (i + 1)).map conv)) := by
  unfold stepL
  rw [next_of (elt_wf hq hi), num_drop hq]

/-! ### contexts and states -/
theorem ok_all : ∀ i, ((rowC tabC i).all fun e => okE e.2) = true
  | 0 => ok_0 | 1 => ok_1 | 2 => ok_2 | 3 => ok_3 | 4 => ok_4 | 5 => ok_5 | 6 => ok_6 | 7 => ok_7 | 8 => ok_8 | 9 => ok_9 | 10 => ok_10 | 11 => ok_11 | 12 => ok_12 | 13 => ok_13 | 14 => ok_14
  | 15 => ok_15 | 16 => ok_16 | 17 => ok_17 | 18 => ok_18 | 19 => ok_19 | 20 => ok_20 | 21 => ok_21 | 22 => ok_22 | 23 => ok_23 | 24 => ok_24 | 25 => ok_25 | 26 => ok_26 | 27 => ok_27 | 28 => ok_28 | 29 => ok_29
  | 30 => ok_30 | 31 => ok_31 | 32 => ok_32 | 33 => ok_33 | 34 => ok_34 | 35 => ok_35 | 36 => ok_36 | 37 => ok_37 | 38 => ok_38 | 39 => ok_39 | 40 => ok_40 | 41 => ok_41 | 42 => ok_42 | 43 => ok_43
  | _ + 44 => rfl
theorem lookE_mem {n : Nat} {e : Cx × List Int × List Int} : ∀ {l : List (Nat × Cx × List Int × List Int)}, lookE l n = some e → ∃ m, (m, e) ∈ l
  | [], h => by simp [lookE] at h
  | x :: l, h => by
    unfold lookE at h
    split at h
    · injection h with h
      exact ⟨x.1, by rw [← h]; exact List.mem_cons_self⟩
    · obtain ⟨m, hm⟩ := lookE_mem h
      exact ⟨m, List.mem_cons_of_mem _ hm⟩
theorem rowC_mem {x : Nat × Cx × List Int × List Int} : ∀ {l : List (List (Nat × Cx × List Int × List Int))} {i : Nat}, x ∈ rowC l i → ∃ r ∈ l, x ∈ r
  | [], _, h => by simp [rowC] at h
  | r :: l, 0, h => ⟨r, List.mem_cons_self, h⟩
  | r :: l, i + 1, h => by
    obtain ⟨r', h1, h2⟩ := rowC_mem (l := l) (i := i) h
    exact ⟨r', List.mem_cons_of_mem _ h1, h2⟩
theorem sts_tab : (tabC.all fun r => r.all fun e => e.2.2.1.all states.contains && e.2.2.2.all states.contains) = true := by decide +kernel
theorem ent_mem {c : Cx} {e : Cx × List Int × List Int} (h : entC c = some e) : ∃ m, (m, e) ∈ rowC tabC (c.a + 1).toNat := by
  unfold entC at h
  exact lookE_mem h
theorem ent_ok {c : Cx} {e : Cx × List Int × List Int} (h : entC c = some e) : okE e = true := by
  obtain ⟨m, hm⟩ := ent_mem h
  exact List.all_eq_true.1 (ok_all (c.a + 1).toNat) (m, e) hm
theorem ent_st {c : Cx} {e : Cx × List Int × List Int} (h : entC c = some e) {f : Bool} {s : Int} (hs : s ∈ stsE e f) : s ∈ states := by
  obtain ⟨m, hm⟩ := ent_mem h
  obtain ⟨r, h1, h2⟩ := rowC_mem hm
  have h3 := List.all_eq_true.1 (List.all_eq_true.1 sts_tab r h1) (m, e) h2
  rw [Bool.and_eq_true] at h3
  cases f with
  | false => exact List.contains_iff_mem.1 (List.all_eq_true.1 h3.1 s hs)
  | true => exact List.contains_iff_mem.1 (List.all_eq_true.1 h3.2 s hs)

theorem bit_mem (b : Bool) : b ∈ [true, false] := by cases b <;> simp

/-- One step. -/
theorem step_ok {e : Cx × List Int × List Int} (he : okE e = true) {k : Int} {wd uk : Bool} (hy : (k, wd, uk) ∈ syms) (nb : Bool) {s : Int} (hs : s ∈ stsE e (k == 34)) :
    ∃ e2, entC (stepC e.1 k wd uk) = some e2 ∧ e2.1 = stepC e.1 k wd uk ∧ (nextK s (numK k) wd uk nb).1 ∈ stsE e2 nb ∧ okB e.1 k wd (nextK s (numK k) wd uk nb).2 nb = true := by
  have h1 := List.all_eq_true.1 (List.all_eq_true.1 he _ hy) nb (bit_mem nb)
  dsimp only at h1
  cases h2 : entC (stepC e.1 k wd uk) with
  | none => rw [h2] at h1; exact absurd h1 (by simp)
  | some e2 =>
    rw [h2] at h1
    rw [Bool.and_eq_true] at h1
    have h3 := List.all_eq_true.1 h1.2 s hs
    rw [Bool.and_eq_true] at h3
    refine ⟨e2, rfl, of_decide_eq_true h1.1, ?_, h3.2⟩
    obtain ⟨t, ht, hte⟩ := List.any_eq_true.1 h3.1
    rw [beq_iff_eq] at hte
    rw [hte]
    exact ht

section
variable {q : List S62} (hq : ∀ x ∈ q, Wf x)
include hq

theorem run_ok : ∀ i, i ≤ q.length → ∃ e, entC (ctx q i) = some e ∧ e.1 = ctx q i ∧ stL q i ∈ stsE e (nbL ((q.drop i).map conv))
  | 0, _ => by
    have h0 : ∃ e, entC startC = some e ∧ e.1 = startC ∧ (-1 : Int) ∈ stsE e true ∧ (-1 : Int) ∈ stsE e false := by
      refine ⟨_, rfl, rfl, ?_, ?_⟩ <;> decide
    obtain ⟨e, h1, h2, h3, h4⟩ := h0
    refine ⟨e, h1, h2, ?_⟩
    show (-1 : Int) ∈ _
    cases nbL ((q.drop 0).map conv)
    · exact h4
    · exact h3
  | i + 1, h => by
    have hi : i < q.length := by omega
    obtain ⟨e, h1, h2, h3⟩ := run_ok i (by omega)
    have hnb : nbL ((q.drop i).map conv) = (res (conv (elt q i)) == 34) := by rw [drop_cons hi]; rfl
    rw [hnb] at h3
    obtain ⟨e2, g1, g2, g3, _⟩ := step_ok (ent_ok h1) (sym_of (elt_wf hq hi)) (nbL ((q.drop (i + 1)).map conv)) h3
    rw [h2, ← ctx_succ hi] at g1 g2
    refine ⟨e2, g1, g2, ?_⟩
    show (stepL q (stL q i) i).1 ∈ _
    rw [step_eq hq hi]
    exact g3

theorem cut_ok (i : Nat) (hi : i < q.length) : okB (ctx q i) (res (conv (elt q i))) (wideS (conv (elt q i))) (cutL q i) (nbL ((q.drop (i + 1)).map conv)) = true := by
  obtain ⟨e, h1, h2, h3⟩ := run_ok hq i (by omega)
  have hnb : nbL ((q.drop i).map conv) = (res (conv (elt q i)) == 34) := by rw [drop_cons hi]; rfl
  rw [hnb] at h3
  obtain ⟨e2, g1, g2, g3, g4⟩ := step_ok (ent_ok h1) (sym_of (elt_wf hq hi)) (nbL ((q.drop (i + 1)).map conv)) h3
  unfold cutL
  rw [step_eq hq hi, ← h2]
  exact g4
end

/-- What comes is seen aright. -/
theorem prophecy (S : List S64) (hS : ∀ y ∈ S, 0 ≤ res y) (d : Bool) : (nbL S = true → (hk (fwd d S) == 34) = true ∧ mbL S = false) ∧ (nbL S = false → mbL S = false → (hk (fwd d S) == 34) = false) := by
  cases S with
  | nil => exact ⟨fun h => absurd h (by simp [nbL]), fun _ _ => rfl⟩
  | cons y S =>
    have hf : markB (res y) = false → hk (fwd d (y :: S)) = res y := by
      intro hm
      rw [show fwd d (y :: S) = if markB (res y) && d then fwd (!bareB (res y)) S else elem y :: fwd (!bareB (res y)) S from rfl, hm, Bool.false_and, if_neg (by simp)]
      show asRow (res y) = res y
      unfold asRow
      rw [hm]; rfl
    constructor
    · intro h
      have h34 : res y = 34 := by
        unfold nbL at h
        rwa [beq_iff_eq] at h
      have hm : markB (res y) = false := by rw [h34]; rfl
      exact ⟨by rw [hf hm, h34]; rfl, hm⟩
    · intro h hm
      rw [hf hm]
      exact h
theorem ok_place {c : Cx} {k : Int} {wd : Bool} {v : Int} {S : List S64} (hS : ∀ y ∈ S, 0 ≤ res y) (d : Bool) (hc : (c.raw == -1) = false) (h : okB c k wd v (nbL S) = true) (ho : openB c k wd (hk (fwd d S) == 34) (mbL S) = false) :
    v = specB c k wd (hk (fwd d S) == 34) true := by
  obtain ⟨p1, p2⟩ := prophecy S hS d
  unfold okB at h
  rw [hc, Bool.false_or] at h
  cases hn : nbL S with
  | true =>
    obtain ⟨h1, h2⟩ := p1 hn
    rw [hn, if_pos rfl] at h
    rw [h1, h2] at ho
    rw [h1]
    rw [ho, Bool.false_or, beq_iff_eq] at h
    exact h
  | false =>
    rw [hn, if_neg (by simp)] at h
    simp only [Bool.and_eq_true] at h
    obtain ⟨⟨a1, a2⟩, a3⟩ := h
    cases hm : mbL S with
    | false =>
      have h1 := p2 hn hm
      rw [h1, hm] at ho
      rw [h1]
      rw [ho, Bool.false_or, beq_iff_eq] at a1
      exact a1
    | true =>
      rw [hm] at ho
      cases hb : (hk (fwd d S) == 34) with
      | false =>
        rw [hb] at ho
        rw [ho, Bool.false_or, beq_iff_eq] at a2
        exact a2
      | true =>
        rw [hb] at ho
        rw [ho, Bool.false_or, beq_iff_eq] at a3
        exact a3

/-- What the law wants of one place. -/
theorem told (q : List S62) (hq : ∀ x ∈ q, Wf x) (hl : q.length ≤ 60) (A : Option Addr) (c : Nat) (j : Nat) (hj : j + 1 < (q.map conv).length) : Ln.Told A c (q.map conv) ((j : Int) + 1) (rd (cutsL q (q.length - 1)) j) := by
  have hj' : j + 1 < q.length := by simpa using hj
  have hv : rd (cutsL q (q.length - 1)) (j : Int) = cutL q (j + 1) := by simp [rd, cutsL, show j < q.length - 1 by omega]
  rw [hv]
  have hcut := cut_ok hq (j + 1) hj'
  have hctx : ctx q (j + 1) = cxQ (conv (elt q j) :: ((q.take j).map conv).reverse) := by
    unfold ctx
    rw [List.take_succ_eq_append_getElem (by omega), List.map_append, List.reverse_append, elt_eq (by omega)]
    rfl
  have hp : q.map conv = (conv (elt q j) :: ((q.take j).map conv).reverse).reverse ++ conv (elt q (j + 1)) :: (q.drop (j + 1 + 1)).map conv := by
    rw [List.reverse_cons, List.reverse_reverse, List.append_assoc, List.singleton_append]
    have h1 : q = q.take j ++ (elt q j :: elt q (j + 1) :: q.drop (j + 1 + 1)) := by
      rw [← drop_cons hj', ← drop_cons (by omega), List.take_append_drop]
    conv => lhs; rw [h1]
    simp
  have hlen : (((conv (elt q j) :: ((q.take j).map conv).reverse).length : Nat) : Int) = (j : Int) + 1 := by simp; omega
  have hw : ∀ z ∈ conv (elt q j) :: ((q.take j).map conv).reverse, 0 ≤ res z := by
    intro z hz
    rcases List.mem_cons.1 hz with rfl | hz
    · exact res_nonneg (elt_wf hq (by omega))
    · rw [List.mem_reverse] at hz
      obtain ⟨x, hx, rfl⟩ := List.mem_map.1 hz
      exact res_nonneg (hq x (List.mem_of_mem_take hx))
  have hS : ∀ z ∈ (q.drop (j + 1 + 1)).map conv, 0 ≤ res z := by
    intro z hz
    obtain ⟨x, hx, rfl⟩ := List.mem_map.1 hz
    exact res_nonneg (hq x (List.mem_of_mem_drop hx))
  have hpl : (q.map conv).length ≤ 60 := by simpa using hl
  rw [hctx] at hcut
  rw [hp] at hpl ⊢
  generalize conv (elt q (j + 1)) = x at hcut hpl ⊢
  generalize (q.drop (j + 1 + 1)).map conv = S at hcut hpl hS ⊢
  generalize conv (elt q j) = y at hcut hpl hlen hw ⊢
  generalize ((q.take j).map conv).reverse = Q at hcut hpl hlen hw ⊢
  obtain ⟨o, ho1, ho2⟩ := open_at A c y x Q S hpl hw
  refine ⟨_, o, fun w h1 h2 => ?_, fun w h1 h2 => ?_, fun ho => ok_place hS (!bareB (res x)) ?_ hcut (ho2 ho)⟩
  · rw [← hlen]
    exact break_at A c y x Q S hpl hw true w h1 h2
  · rw [← hlen]
    exact ho1 w h1 h2
  · rw [raw_cons]
    have := gate_ne (res y) (hw y List.mem_cons_self)
    rwa [bne, Bool.not_eq_true'] at this

/-! ### LineBreaks -/
theorem number_of (k : Int) (h0 : 0 ≤ k) (l : List Int) (h1 : k < l.length) : Ln.impl_numberOf.f l k = some (rd l k) := by
  unfold Ln.impl_numberOf.f
  rw [if_neg (by omega), if_neg (by omega), if_pos h0, if_pos h1]
theorem zzg_of (q : List S62) (hq : ∀ x ∈ q, Wf x) (hl : q.length ≤ 60) (i : Nat) (hi : i < q.length) : Ln.zzg (ks q) (i : Int) klist (stL q i) (numOf (elt q i).f0) (gcOf (elt q i)) (eaOf (elt q i)) (grOf (elt q i)) = some (stepL q (stL q i) i) := by
  have hw := elt_wf hq hi
  obtain ⟨e, h1, _, h3⟩ := run_ok hq i (by omega)
  have hf : Fits (ks q) (i : Int) (stL q i) (numOf (elt q i).f0) (gcOf (elt q i)) (eaOf (elt q i)) (grOf (elt q i)) := by
    refine ⟨by simpa [ks] using hl, ?_, by omega, by simp [ks]; omega, ent_st h1 h3, (num_ok ⟨hw.k0, hw.k1⟩).2, (kind_of hw).2.2.2.1, (east_of hw).2, (gr_of hw).1⟩
    intro x hx
    obtain ⟨y, hy, rfl⟩ := List.mem_map.1 hx
    exact ⟨(hq y hy).k0, (hq y hy).k1⟩
  unfold Ln.zzg zzf
  rw [if_pos rfl, if_pos hf]
  rfl
theorem breaks_l1 (q : List S62) (hq : ∀ x ∈ q, Wf x) (hl : q.length ≤ 60) (d : Nat) : ∀ (i k : Nat), i ≤ q.length → q.length - i = d → d < k →
    Ln.impl_LineBreaks.l1 k (cutsL q (i - 1)) (ks q) (stL q i) klist q (q.length : Int) (i : Int) = some (cutsL q (q.length - 1)) := by
  induction d with
  | zero =>
    intro i k h1 h2 hk
    obtain ⟨k, rfl⟩ : ∃ m, k = m + 1 := ⟨k - 1, by omega⟩
    rw [Ln.impl_LineBreaks.l1, if_neg (by omega), show i = q.length by omega]
  | succ d ih =>
    intro i k h1 h2 hk
    obtain ⟨k, rfl⟩ : ∃ m, k = m + 1 := ⟨k - 1, by omega⟩
    have hi : i < q.length := by omega
    have hw := elt_wf hq hi
    have hz := zzg_of q hq hl i hi
    have hk1 := ih (i + 1) k (by omega) (by omega) (by omega)
    have hwi : wrap64 ((i : Int) + 1) = ((i + 1 : Nat) : Int) := by rw [wrap_id (by omega)]; omega
    rw [Ln.impl_LineBreaks.l1, if_pos (by omega), if_pos (by omega), if_pos (by omega), hwi]
    rw [show rd_T62 q (i : Int) = elt q i from rfl, number_of _ hw.k0 klist (by have := hw.k1; show _ < ((43 : Nat) : Int); omega)]
    simp only [Option.bind_some, Ln.impl_generals.f, Ln.impl_easts.f, Ln.impl_graphemes.f]
    rw [number_of _ hw.g0 _ (by have := hw.g1; show _ < ((5 : Nat) : Int); omega), number_of _ hw.e0 _ (by have := hw.e1; show _ < ((6 : Nat) : Int); omega),
      number_of _ (by rcases hw.p with h | h <;> omega) _ (by show _ < ((15 : Nat) : Int); rcases hw.p with h | h <;> omega)]
    simp only [Option.bind_some, Ln.impl_behind.f]
    have hz' : Ln.zzg (ks q) (i : Int) klist (stL q i) (rd klist (elt q i).f0) (rd [-1, 22, 28, 16, 19] (elt q i).f1) (rd [77, 78, 79, 81, 82, 80] (elt q i).f2) (rd [1, 2, 3, 4, 5, 6, 7, 8, 9, 10, 11, 12, 13, 14, 15] (elt q i).f3) = some (stepL q (stL q i) i) := hz
    rw [hz']
    simp only [Option.bind_some]
    rw [show i + 1 - 1 = i by omega] at hk1
    by_cases h0 : 0 < i
    · have hc : cutsL q i = cutsL q (i - 1) ++ [cutL q i] := by
        have := cutsL_succ q (i - 1)
        rwa [show i - 1 + 1 = i by omega] at this
      rw [hc] at hk1
      rw [if_pos (by omega), if_pos (by simp [cutsL]; omega)]
      exact hk1
    · have hi0 : i = 0 := by omega
      subst hi0
      rw [if_neg (by omega)]
      exact hk1
theorem breaks_l0 (q : List S62) (hq : ∀ x ∈ q, Wf x) (hl : q.length ≤ 60) (d : Nat) : ∀ (i k : Nat), i ≤ q.length → q.length - i = d → d + 70 < k →
    Ln.impl_LineBreaks.l0 k q (ks (q.take i)) q (q.length : Int) (i : Int) = some (cutsL q (q.length - 1)) := by
  induction d with
  | zero =>
    intro i k h1 h2 hk
    obtain ⟨k, rfl⟩ : ∃ m, k = m + 1 := ⟨k - 1, by omega⟩
    rw [Ln.impl_LineBreaks.l0, if_neg (by omega), List.take_of_length_le (by omega)]
    exact breaks_l1 q hq hl q.length 0 k (by omega) (by omega) (by omega)
  | succ d ih =>
    intro i k h1 h2 hk
    obtain ⟨k, rfl⟩ : ∃ m, k = m + 1 := ⟨k - 1, by omega⟩
    have hi : i < q.length := by omega
    have hwi : wrap64 ((i : Int) + 1) = ((i + 1 : Nat) : Int) := by rw [wrap_id (by omega)]; omega
    have hks : ks (q.take (i + 1)) = ks (q.take i) ++ [(rd_T62 q (i : Int)).f0] := by
      unfold ks
      rw [List.take_succ_eq_append_getElem hi, List.map_append, ← elt_eq hi]
      rfl
    have h := ih (i + 1) k (by omega) (by omega) (by omega)
    rw [hks] at h
    rw [Ln.impl_LineBreaks.l0, if_pos (by omega), if_pos (by omega), if_pos (by omega), if_pos (by simp [ks]; omega), hwi]
    exact h
theorem breaks_f (q : List S62) (hq : ∀ x ∈ q, Wf x) (hl : q.length ≤ 60) (k : Nat) (hk : 200 ≤ k) : Ln.impl_LineBreaks.f k q = some (cutsL q (q.length - 1)) :=
  breaks_l0 q hq hl q.length 0 k (by omega) (by omega) (by omega)

/-! ### the row of bytes -/
theorem points_l0 (l : List Int) (hw : ∀ x ∈ l, 0 ≤ x ∧ x ≤ 255) (d : Nat) : ∀ (i k : Nat) (q : List S62), i ≤ 120 → 120 - i ≤ d → 2 * d + 4 ≤ k → 3 * q.length ≤ i → (∀ x ∈ q, Wf x) →
    ∃ q', Ln.laws_linePoints.l0 k l q (q.map conv) (i : Int) = some (q', q'.map conv) ∧ 3 * q'.length ≤ 122 ∧ ∀ x ∈ q', Wf x := by
  induction d with
  | zero =>
    intro i k q h1 h2 hk h3 h4
    obtain ⟨k, rfl⟩ : ∃ m, k = m + 2 := ⟨k - 2, by omega⟩
    refine ⟨q, ?_, by omega, h4⟩
    rw [Ln.laws_linePoints.l0, show decide ((i : Int) < 120) = false by rw [decide_eq_false_iff_not]; omega]
    have hj : Ln.laws_linePoints.j1 (k + 1) l q (q.map conv) (i : Int) false = some (q, q.map conv) := by
      rw [Ln.laws_linePoints.j1, if_neg (by simp)]
    rw [hj]
    split <;> rfl
  | succ d ih =>
    intro i k q h1 h2 hk h3 h4
    obtain ⟨k, rfl⟩ : ∃ m, k = m + 2 := ⟨k - 2, by omega⟩
    have hf : Ln.laws_linePoints.j1 (k + 1) l q (q.map conv) (i : Int) false = some (q, q.map conv) := by
      rw [Ln.laws_linePoints.j1, if_neg (by simp)]
    have e2 : wrap64 ((i : Int) + 2) = ((i + 2 : Nat) : Int) := by rw [wrap_id (by omega)]; omega
    have e1 : wrap64 ((i : Int) + 1) = ((i + 1 : Nat) : Int) := by rw [wrap_id (by omega)]; omega
    have e3 : wrap64 ((i : Int) + 3) = ((i + 3 : Nat) : Int) := by rw [wrap_id (by omega)]; omega
    rw [Ln.laws_linePoints.l0, e2]
    by_cases hlen : ((i + 2 : Nat) : Int) < (l.length : Int)
    · rw [if_pos hlen]
      by_cases h120 : (i : Int) < 120
      · rw [show decide ((i : Int) < 120) = true from decide_eq_true h120, Ln.laws_linePoints.j1, if_pos rfl, if_pos (by omega), if_pos (by omega), e1, if_pos (by omega), if_pos (by omega), e2, if_pos (by omega), if_pos hlen, e3]
        have hb : ∀ n : Nat, n < l.length → 0 ≤ rd l (n : Int) ∧ rd l (n : Int) ≤ 255 := by
          intro n hn
          have e : rd l (n : Int) = l[n] := by simp [rd, hn]
          rw [e]
          exact hw _ (List.getElem_mem hn)
        have b0 := hb i (by omega)
        have b1 := hb (i + 1) (by omega)
        have b2 := hb (i + 2) (by omega)
        generalize rd l (i : Int) = x0 at b0 ⊢
        generalize rd l ((i + 1 : Nat) : Int) = x1 at b1 ⊢
        generalize rd l ((i + 2 : Nat) : Int) = x2 at b2 ⊢
        have t0 : Int.tmod (wrap64 x0) 42 = x0 % 42 := by rw [wrap_id (by omega), Int.tmod_eq_emod_of_nonneg b0.1]
        have t1 : Int.tmod (wrap64 x1) 5 = x1 % 5 := by rw [wrap_id (by omega), Int.tmod_eq_emod_of_nonneg b1.1]
        have t2 : Int.tmod (wrap64 x2) 6 = x2 % 6 := by rw [wrap_id (by omega), Int.tmod_eq_emod_of_nonneg b2.1]
        have t3 : wrap64 (1 + x0 % 42) = 1 + x0 % 42 := wrap_id (by omega)
        rw [t0, t1, t2, t3]
        have hgo : ∀ y : S62, Wf y → ∃ q', (if q.length < 4398046511104 then (if (q.map conv).length < 4398046511104 then Ln.laws_linePoints.l0 k l (q ++ [y]) (q.map conv ++ [conv y]) ((i + 3 : Nat) : Int) else none) else none) = some (q', q'.map conv) ∧ 3 * q'.length ≤ 122 ∧ ∀ x ∈ q', Wf x := by
          intro y hy
          rw [if_pos (by omega), if_pos (by simp; omega), show q.map conv ++ [conv y] = (q ++ [y]).map conv by simp]
          by_cases hi3 : i + 3 ≤ 120
          · exact ih (i + 3) k (q ++ [y]) hi3 (by omega) (by omega) (by simp; omega) (by
              intro x hx
              rcases List.mem_append.1 hx with h | h
              · exact h4 x h
              · rw [List.mem_singleton.1 h]; exact hy)
          · refine ⟨q ++ [y], ?_, by simp; omega, by
              intro x hx
              rcases List.mem_append.1 hx with h | h
              · exact h4 x h
              · rw [List.mem_singleton.1 h]; exact hy⟩
            obtain ⟨k, rfl⟩ : ∃ m, k = m + 2 := ⟨k - 2, by omega⟩
            rw [Ln.laws_linePoints.l0, show decide (((i + 3 : Nat) : Int) < 120) = false by rw [decide_eq_false_iff_not]; omega]
            have hj : Ln.laws_linePoints.j1 (k + 1) l (q ++ [y]) ((q ++ [y]).map conv) ((i + 3 : Nat) : Int) false = some (q ++ [y], (q ++ [y]).map conv) := by
              rw [Ln.laws_linePoints.j1, if_neg (by simp)]
            rw [hj]
            split <;> rfl
        have wf : ∀ (g : Int) (pc : Int), (g = x1 % 5 ∨ g = 0) → (g = 2 → 1 + x0 % 42 = 27) → (pc = 0 ∨ pc = 14) → Wf ⟨1 + x0 % 42, g, x2 % 6, pc⟩ := by
          intro g pc hg h27 hpc
          refine ⟨?_, ?_, ?_, ?_, h27, ?_, ?_, hpc⟩ <;> dsimp only <;> rcases hg with rfl | rfl <;> omega
        by_cases hp : x2 ≥ 128
        · rw [if_pos hp]
          by_cases hg : x1 % 5 = 2
          · rw [if_pos hg]
            by_cases hk27 : 1 + x0 % 42 = 27
            · rw [if_pos hk27]
              exact hgo ⟨1 + x0 % 42, x1 % 5, x2 % 6, 14⟩ (wf _ _ (.inl rfl) (fun _ => hk27) (.inr rfl))
            · rw [if_neg hk27]
              exact hgo ⟨1 + x0 % 42, 0, x2 % 6, 14⟩ (wf _ _ (.inr rfl) (fun h => absurd h (by decide)) (.inr rfl))
          · rw [if_neg hg]
            exact hgo ⟨1 + x0 % 42, x1 % 5, x2 % 6, 14⟩ (wf _ _ (.inl rfl) (fun h => absurd h hg) (.inr rfl))
        · rw [if_neg hp]
          by_cases hg : x1 % 5 = 2
          · rw [if_pos hg]
            by_cases hk27 : 1 + x0 % 42 = 27
            · rw [if_pos hk27]
              exact hgo ⟨1 + x0 % 42, x1 % 5, x2 % 6, 0⟩ (wf _ _ (.inl rfl) (fun _ => hk27) (.inl rfl))
            · rw [if_neg hk27]
              exact hgo ⟨1 + x0 % 42, 0, x2 % 6, 0⟩ (wf _ _ (.inr rfl) (fun h => absurd h (by decide)) (.inl rfl))
          · rw [if_neg hg]
            exact hgo ⟨1 + x0 % 42, x1 % 5, x2 % 6, 0⟩ (wf _ _ (.inl rfl) (fun h => absurd h hg) (.inl rfl))
      · rw [show decide ((i : Int) < 120) = false by rw [decide_eq_false_iff_not]; exact h120, hf]
        exact ⟨q, rfl, by omega, h4⟩
    · rw [if_neg hlen, hf]
      exact ⟨q, rfl, by omega, h4⟩

/-- All that the walk of the law wants. -/
theorem law_facts (l : List Int) (hw : ∀ x ∈ l, 0 ≤ x ∧ x ≤ 255) :
    ∃ (k : Nat) (q : List S62) (p : List S64) (cs one : List Int), Ln.laws_linePoints.f k l = some (q, p) ∧ Ln.impl_LineBreaks.f k q = some cs ∧ cs.length = p.length - 1 ∧ p.length ≤ 60 ∧
      Ln.impl_LineBreaks.f k [⟨0, 0, 0, 0⟩, ⟨0, 0, 0, 0⟩] = some one ∧ one.length = 1 ∧ ∀ (A2 : Option Addr) (c2 : Nat) (j : Nat), j + 1 < p.length → Ln.Told A2 c2 p ((j : Int) + 1) (rd cs j) := by
  obtain ⟨q, h1, h2, h3⟩ := points_l0 l hw 120 0 300 [] (by omega) (by omega) (by omega) (by simp) (by simp)
  have h0 : ∀ x ∈ ([⟨0, 0, 0, 0⟩, ⟨0, 0, 0, 0⟩] : List S62), Wf x := by
    intro x hx
    have : x = ⟨0, 0, 0, 0⟩ := by simpa using hx
    subst this
    exact ⟨by decide, by decide, by decide, by decide, fun h => absurd h (by decide), by decide, by decide, .inl rfl⟩
  refine ⟨300, q, q.map conv, cutsL q (q.length - 1), cutsL [⟨0, 0, 0, 0⟩, ⟨0, 0, 0, 0⟩] 1, h1, breaks_f q h3 (by omega) 300 (by omega), by simp [cutsL], by simp; omega, breaks_f _ h0 (by simp) 300 (by omega), by simp [cutsL], fun A2 c2 j hj => told q h3 (by omega) A2 c2 j hj⟩
end Go.Proofs.Ytnanfoahimccpaa.Lb
