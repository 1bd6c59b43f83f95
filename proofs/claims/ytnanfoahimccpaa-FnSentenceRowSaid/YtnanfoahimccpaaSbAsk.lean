/- What 'impl.SentenceBreaks' calls, one element at a time. -/
import Derived.Test.YtnanfoahimccpaaSbFar
import Derived.Test.YtnanfoahimccpaaWbAsk
namespace Go.Proofs.Ytnanfoahimccpaa.Sb
open Go.RowKit Ev Go.Proofs.YtnanfoahimccpaaW.PrintWords Go.Proofs.YtnanfoahimccpaaW.PrintLast Go.Proofs.YtnanfoahimccpaaW.PrintMore Go.Proofs.Ytnanfoahimccpaa.Wd
open Wb (Asks ansOf laid asker laid_cells tells_asks)

set_option maxHeartbeats 1000000 in
theorem zz_calls {w : World} {F : Value} {I : List V → World → Prop} (hI : Asks F w.heap.size I) (s p : Int) (hs : s ∈ states) (hp : p ∈ props) (l : List Int) (hl : ∀ q ∈ l, q ∈ props) (h : I (ansOf l) w) :
    Calls Try.prog 38 #[.int .i64 s, .int .i64 p, F] w fun e w' => e = .returned (.tuple #[.int .i64 (next s p (fin p l)).1, .bool (next s p (fin p l)).2]) ∧ ∃ ans, I ans w' := by
  have H := Aside0.mk (step_calls hI s p hs hp l hl h)
  clear hI h hs hp hl
  generalize next s p (fin p l) = r at H ⊢
  obtain ⟨x, y⟩ := r
  go_enter Try.func38, Try.ntmps38
  go_wp2_with fail
  refine H.out.mono ?_
  rintro e w' ⟨rfl, hw⟩
  have HW := Aside0.mk hw
  clear hw
  go_wp2
  go_ret2
  exact ⟨rfl, HW.out⟩
/-! ### SentenceBreaks -/
/-- The package's numbers of the kinds. -/
def slist : List Int := [1, 3, 4, 36, 6, 26, 29, 35, 34, 37, 21, 33, 30, 31, 32]
def numOf (k : Int) : Int := rd slist k
def nums (p : List Int) : List Int := p.map numOf
/-- State ahead of the element i. -/
def stS (p : List Int) : Nat → Int
  | 0 => -1
  | i + 1 => (next (stS p i) (numOf (rd p i)) (fin (numOf (rd p i)) ((nums p).drop (i + 1)))).1
/-- The break ahead of the element i. -/
def cutS (p : List Int) (i : Nat) : Bool := (next (stS p i) (numOf (rd p i)) (fin (numOf (rd p i)) ((nums p).drop (i + 1)))).2
def cutsS (p : List Int) (n : Nat) : List Bool := (List.range n).map fun j => cutS p (j + 1)

theorem num_f : ∀ k : Fin 15, impl_numberOf.f slist (k.val : Int) = some (numOf k.val) ∧ numOf k.val ∈ props := by decide +kernel
theorem num_ok {k : Int} (h : 0 ≤ k ∧ k < 15) : impl_numberOf.f slist k = some (numOf k) ∧ numOf k ∈ props := by
  have := num_f ⟨k.toNat, by omega⟩
  simpa [Int.toNat_of_nonneg h.1] using this
theorem next_state : (states.all fun s => props.all fun p => props.all fun f => decide ((next s p f).1 ∈ states)) = true := by decide +kernel

theorem rd_kind {p : List Int} (hp : ∀ x ∈ p, 0 ≤ x ∧ x < 15) (i : Nat) (hi : i < p.length) : 0 ≤ rd p i ∧ rd p i < 15 := by
  have e : rd p i = p[i] := by simp [rd, hi]
  rw [e]
  exact hp _ (List.getElem_mem hi)
theorem nums_mem {p : List Int} (hp : ∀ x ∈ p, 0 ≤ x ∧ x < 15) (n : Nat) : ∀ q ∈ (nums p).drop n, q ∈ props := by
  intro q hq
  obtain ⟨x, hx, rfl⟩ := List.mem_map.1 (List.mem_of_mem_drop hq)
  exact (num_ok (hp x hx)).2
theorem st_mem {p : List Int} (hp : ∀ x ∈ p, 0 ≤ x ∧ x < 15) : ∀ i, i ≤ p.length → stS p i ∈ states := by
  intro i
  induction i with
  | zero => intro _; show (-1 : Int) ∈ states; decide
  | succ i ih =>
    intro hi
    have h1 := List.all_eq_true.1 (List.all_eq_true.1 next_state _ (ih (by omega))) _ (num_ok (rd_kind hp i (by omega))).2
    exact of_decide_eq_true (List.all_eq_true.1 h1 _ (fin_mem (num_ok (rd_kind hp i (by omega))).2 (nums_mem hp (i + 1))))

/-- One call of the step, with what tells the properties laid for it. -/
theorem zz_at (w0 : World) (A1 A2 : Option Addr) (c1 c2 : Nat) (p : List Int) (hp : ∀ x ∈ p, 0 ≤ x ∧ x < 15) (hl : p.length ≤ 60) (i : Nat) (hi : i < p.length)
    (h1 : Kd.C (Kd.int .i64) w0 A1 p.length p) (h2 : Kd.C (Kd.int .i64) w0 A2 slist.length slist) (h3 : slist.length ≤ c2) :
    Calls Try.prog 38 #[.int .i64 (stS p i), .int .i64 (numOf (rd p i)), asker w0.heap.size] (laid w0 A1 p.length c1 A2 slist.length c2 ((i : Int) + 1)) fun e w' =>
      e = .returned (.tuple #[.int .i64 (stS p (i + 1)), .bool (cutS p i)]) ∧ Below w0.heap.size w0 w' := by
  have hb : Below w0.heap.size w0 (laid w0 A1 p.length c1 A2 slist.length c2 ((i : Int) + 1)) := (((Below.refl _ _).alloc (Nat.le_refl _) _).alloc (by simp) _).alloc (by simp; omega) _
  have hA := tells_asks w0 A1 A2 c1 c2 p slist (nums p) hl h1 h2 h3 (by simp [nums]) (fun k hk => by
    rw [(num_ok (rd_kind hp k hk)).1]
    have : (nums p).getD k 0 = numOf (rd p k) := by simp [nums, rd, hk]
    rw [this])
  have hs : (laid w0 A1 p.length c1 A2 slist.length c2 ((i : Int) + 1)).heap.size = w0.heap.size + 3 := by simp [laid]
  rw [← hs] at hA
  refine (zz_calls hA _ _ (st_mem hp i (by omega)) (num_ok (rd_kind hp i hi)).2 ((nums p).drop (i + 1)) (nums_mem hp _) ⟨i + 1, hi, .inl rfl, ?_, hb⟩).mono ?_
  · have := laid_cells w0 A1 A2 p.length c1 slist.length c2 ((i : Int) + 1)
    exact this
  · rintro e w' ⟨rfl, ans, k, _, _, _, hb'⟩
    exact ⟨rfl, hb'⟩

theorem cutsS_succ (p : List Int) (n : Nat) : cutsS p (n + 1) = cutsS p n ++ [cutS p (n + 1)] := by
  simp [cutsS, List.range_succ]
end Go.Proofs.Ytnanfoahimccpaa.Sb
