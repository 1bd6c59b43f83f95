/- What 'impl.LineBreaks' calls, one element at a time. -/
import Derived.Test.YtnanfoahimccpaaLbFar
import Derived.Test.YtnanfoahimccpaaWbAsk
import Derived.Test.YtnanfoahimccpaaLnx1
namespace Go.Proofs.Ytnanfoahimccpaa.Lb
open Go.RowKit Ev Go.Proofs.YtnanfoahimccpaaW.PrintWords Go.Proofs.YtnanfoahimccpaaW.PrintLast Go.Proofs.YtnanfoahimccpaaW.PrintMore
open Wb (Asks ansOf laid asker laid_cells tells_asks)

set_option maxHeartbeats 1000000 in
theorem zz_calls {w : World} {F : Value} {I : List V → World → Prop} (hI : Asks F w.heap.size I) {s p gc ea gr : Int} (hs : s ∈ states) (hp : p ∈ props) (hg : gc ∈ gens) (he : ea ∈ eas) (hr : gr = 1 ∨ gr = 15) (l : List Int) (hl : ∀ q ∈ l, q ∈ props) (h : I (ansOf l) w) :
    Calls Try.prog 49 #[.int .i64 s, .int .i64 p, .int .i64 gc, .int .i64 ea, .int .i64 gr, F] w fun e w' =>
      e = .returned (.tuple #[.int .i64 (next s p (isMark gc) (wideE ea) (gr == 15 && gc == 28) (numL l)).1, .int .i64 (next s p (isMark gc) (wideE ea) (gr == 15 && gc == 28) (numL l)).2]) ∧ ∃ ans, I ans w' := by
  have H := Aside0.mk (step_calls hI hs hp hg he hr l hl h)
  clear hI h hs hp hl hg he hr
  generalize next s p (isMark gc) (wideE ea) (gr == 15 && gc == 28) (numL l) = r at H ⊢
  obtain ⟨x, y⟩ := r
  go_enter Try.func49, Try.ntmps49
  go_wp2_with fail
  refine H.out.mono ?_
  rintro e w' ⟨rfl, hw⟩
  have HW := Aside0.mk hw
  clear hw
  go_wp2
  go_ret2
  exact ⟨rfl, HW.out⟩

/-- The package's numbers of the kinds. -/
def klist : List Int := props
def numOf (k : Int) : Int := rd klist k
def nums (p : List Int) : List Int := p.map numOf
theorem num_f : ∀ k : Fin 43, Wd.impl_numberOf.f klist (k.val : Int) = some (numOf k.val) ∧ numOf k.val ∈ props := by decide +kernel
theorem num_ok {k : Int} (h : 0 ≤ k ∧ k < 43) : Wd.impl_numberOf.f klist k = some (numOf k) ∧ numOf k ∈ props := by
  have := num_f ⟨k.toNat, by omega⟩
  simpa [Int.toNat_of_nonneg h.1] using this
theorem rd_kind {p : List Int} (hp : ∀ x ∈ p, 0 ≤ x ∧ x < 43) (i : Nat) (hi : i < p.length) : 0 ≤ rd p i ∧ rd p i < 43 := by
  have e : rd p i = p[i] := by simp [rd, hi]
  rw [e]
  exact hp _ (List.getElem_mem hi)
theorem nums_mem {p : List Int} (hp : ∀ x ∈ p, 0 ≤ x ∧ x < 43) (n : Nat) : ∀ q ∈ (nums p).drop n, q ∈ props := by
  intro q hq
  obtain ⟨x, hx, rfl⟩ := List.mem_map.1 (List.mem_of_mem_drop hq)
  exact (num_ok (hp x hx)).2

/-- What one step tells, of the row's kinds, the element's place, and its numbers. -/
structure Fits (ks : List Int) (i s p gc ea gr : Int) : Prop where
  len : ks.length ≤ 60
  kinds : ∀ x ∈ ks, 0 ≤ x ∧ x < 43
  at0 : 0 ≤ i
  at1 : i < ks.length
  st : s ∈ states
  pr : p ∈ props
  gen : gc ∈ gens
  wid : ea ∈ eas
  gra : gr = 1 ∨ gr = 15
open Classical in
noncomputable def zzf (ks : List Int) (i s p gc ea gr : Int) : Option (Int × Int) :=
  if Fits ks i s p gc ea gr then some (next s p (isMark gc) (wideE ea) (gr == 15 && gc == 28) (numL ((nums ks).drop (i.toNat + 1)))) else none

theorem laid_below (w : World) (A1 A2 : Option Addr) (n1 c1 n2 c2 : Nat) (i : Int) : Below w.heap.size w (laid w A1 n1 c1 A2 n2 c2 i) :=
  (((Below.refl _ _).alloc (Nat.le_refl _) _).alloc (by simp) _).alloc (by simp; omega) _

/-- One call of the step, with what tells the properties laid for it. -/
theorem zz_true (w0 : World) (A1 A2 : Option Addr) (c1 c2 : Nat) (ks l : List Int) (i s p gc ea gr r1 r2 : Int) (h : zzf ks i s p gc ea gr = some (r1, r2)) (hl : l = klist)
    (h1 : Kd.C (Kd.int .i64) w0 A1 ks.length ks) (h2 : Kd.C (Kd.int .i64) w0 A2 l.length l) (h3 : l.length ≤ c2) :
    Calls Try.prog 49 #[.int .i64 s, .int .i64 p, .int .i64 gc, .int .i64 ea, .int .i64 gr, asker w0.heap.size] (laid w0 A1 ks.length c1 A2 l.length c2 (wrap64 (i + 1))) fun e w' =>
      e = .returned (.tuple #[.int .i64 r1, .int .i64 r2]) ∧ Below w0.heap.size w0 w' := by
  subst hl
  unfold zzf at h
  by_cases hf : Fits ks i s p gc ea gr
  · rw [if_pos hf] at h
    obtain ⟨hlen, hk, hi0, hi1, hs, hp, hg, he, hr⟩ := hf
    have hb := laid_below w0 A1 A2 ks.length c1 klist.length c2 (wrap64 (i + 1))
    have hA := tells_asks w0 A1 A2 c1 c2 ks klist (nums ks) hlen h1 h2 h3 (by simp [nums]) (fun k hk' => by
      rw [(num_ok (rd_kind hk k hk')).1]
      have : (nums ks).getD k 0 = numOf (rd ks k) := by simp [nums, rd, hk']
      rw [this])
    have hsz : (laid w0 A1 ks.length c1 A2 klist.length c2 (wrap64 (i + 1))).heap.size = w0.heap.size + 3 := by simp [laid]
    rw [← hsz] at hA
    have hw : wrap64 (i + 1) = ((i.toNat + 1 : Nat) : Int) := by unfold wrap64; omega
    refine (zz_calls hA hs hp hg he hr ((nums ks).drop (i.toNat + 1)) (nums_mem hk _) ⟨i.toNat + 1, by omega, .inl rfl, ?_, hb⟩).mono ?_
    · rw [hw]
      exact laid_cells w0 A1 A2 ks.length c1 klist.length c2 _
    · rintro e w' ⟨rfl, ans, k, _, _, _, hb'⟩
      injection h with h
      rw [h]
      exact ⟨rfl, hb'⟩
  · rw [if_neg hf] at h
    exact absurd h (by simp)
end Go.Proofs.Ytnanfoahimccpaa.Lb
