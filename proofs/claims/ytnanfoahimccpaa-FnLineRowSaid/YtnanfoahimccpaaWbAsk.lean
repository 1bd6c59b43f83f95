/- The walks of 'impl.behind' and of the function that it hands back. -/
import Derived.Test.YtnanfoahimccpaaWbFar
import Derived.Test.YtnanfoahimccpaaWdx7
namespace Go.Proofs.Ytnanfoahimccpaa.Wb
open Go.RowKit Ev Go.Proofs.YtnanfoahimccpaaW.PrintWords Go.Proofs.YtnanfoahimccpaaW.PrintLast Go.Proofs.YtnanfoahimccpaaW.PrintMore Go.Proofs.Ytnanfoahimccpaa.Wd

/-- What 'behind' lays. -/
def laid (w : World) (A1 : Option Addr) (n1 c1 : Nat) (A2 : Option Addr) (n2 c2 : Nat) (i : Int) : World :=
  ((w.alloc (.cells #[.slice A1 n1 c1] 23)).alloc (.cells #[.int .i64 i] 3)).alloc (.cells #[.slice A2 n2 c2] 23)
/-- The function that it hands back. -/
def asker (b : Nat) : Value := .func (.func 54) #[] #[.pointer (some ⟨b + 1, 0, none⟩), .pointer (some ⟨b, 0, none⟩), .pointer (some ⟨b + 2, 0, none⟩)]

theorem behind_calls (A1 A2 : Option Addr) (n1 c1 n2 c2 : Nat) (i : Int) (w : World) :
    Calls Try.prog 29 #[.slice A1 n1 c1, .int .i64 i, .slice A2 n2 c2] w fun e w' => e = .returned (asker w.heap.size) ∧ w' = laid w A1 n1 c1 A2 n2 c2 i := by
  have hmf : ∀ (fn : Fn) (first cap : Array Value) (w : World), (Instr.makeFunc fn first cap).run Try.prog w = .ok (.func fn first cap) w := fun _ _ _ _ => rfl
  go_enter Try.func29, Try.ntmps29
  go_wp2
  go_ret
  exact ⟨rfl, rfl⟩

/-- What the three cells hold. -/
structure Cells (b : Nat) (A1 : Option Addr) (n1 c1 : Nat) (A2 : Option Addr) (n2 c2 : Nat) (k : Int) (w : World) : Prop where
  row : w.cell? ⟨b, 0, none⟩ = some (.slice A1 n1 c1)
  at_ : w.cell? ⟨b + 1, 0, none⟩ = some (.int .i64 k)
  free : w.frozen? ⟨b + 1, 0, none⟩ = false
  list : w.cell? ⟨b + 2, 0, none⟩ = some (.slice A2 n2 c2)

theorem laid_cells (w : World) (A1 A2 : Option Addr) (n1 c1 n2 c2 : Nat) (i : Int) : Cells w.heap.size A1 n1 c1 A2 n2 c2 i (laid w A1 n1 c1 A2 n2 c2 i) := by
  unfold laid
  refine ⟨?_, ?_, ?_, ?_⟩
  · rw [World.cell?_alloc_past _ _ _ (by simp; omega), World.cell?_alloc_past _ _ _ (by simp), World.cell?_alloc_at _ _ _ _ rfl]; rfl
  · rw [World.cell?_alloc_past _ _ _ (by simp), World.cell?_alloc_at _ _ _ _ (by simp)]; rfl
  · have h := ((Below.refl (w.heap.size + 2) ((w.alloc (.cells #[.slice A1 n1 c1] 23)).alloc (.cells #[.int .i64 i] 3))).alloc (by simp) (.cells #[.slice A2 n2 c2] 23))
    rw [h.frozen (p := ⟨w.heap.size + 1, 0, none⟩) (by show w.heap.size + 1 < w.heap.size + 2; omega)]
    exact World.frozen?_alloc_at _ _ _ _ (by simp)
  · rw [World.cell?_alloc_at _ _ _ _ (by simp)]; rfl

theorem asker_end (b : Nat) (A1 A2 : Option Addr) (n1 c1 n2 c2 : Nat) (k : Int) (w : World) (hc : Cells b A1 n1 c1 A2 n2 c2 k w) (hk : (n1 : Int) ≤ k) :
    Calls Try.prog 54 #[.pointer (some ⟨b + 1, 0, none⟩), .pointer (some ⟨b, 0, none⟩), .pointer (some ⟨b + 2, 0, none⟩)] w fun e w' => e = .returned (.tuple #[.int .i64 0, .bool false]) ∧ w' = w := by
  obtain ⟨h1, h2, h3, h4⟩ := hc
  go_enter Try.func54, Try.ntmps54
  go_wp2
  go_ret2
  exact ⟨rfl, rfl⟩

set_option maxHeartbeats 1000000 in
theorem asker_next (b : Nat) (A1 A2 : Option Addr) (c1 c2 : Nat) (row list : List Int) (k : Nat) (r : Int) (w0 w : World) (hc : Cells b A1 row.length c1 A2 list.length c2 k w) (hk : (k : Int) < row.length) (hl : row.length ≤ 60)
    (h1 : Kd.C (Kd.int .i64) w0 A1 row.length row) (h2 : Kd.C (Kd.int .i64) w0 A2 list.length list) (h3 : list.length ≤ c2) (hr : impl_numberOf.f list (rd row k) = some r)
    (hb : Below w0.heap.size w0 w) (hle : w0.heap.size ≤ b) :
    Calls Try.prog 54 #[.pointer (some ⟨b + 1, 0, none⟩), .pointer (some ⟨b, 0, none⟩), .pointer (some ⟨b + 2, 0, none⟩)] w fun e w' =>
      e = .returned (.tuple #[.int .i64 r, .bool true]) ∧ ∃ m, w' = (w.setCell ⟨b + 1, 0, none⟩ (.int .i64 ((k : Int) + 1))).drewN m := by
  obtain ⟨g1, g2, g3, g4⟩ := hc
  have hb1 := hb.setCell (p := ⟨b + 1, 0, none⟩) (by show w0.heap.size ≤ b + 1; omega) (.int .i64 ((k : Int) + 1))
  have HL := Aside0.mk (Kd.C_below h2 hb1)
  obtain ⟨ad, e, hx⟩ := Kd.at_int h1 k (by omega) hk
  subst e
  have hx1 := (hb1.cell (World.block_lt_of_cell? w0 _ hx)).trans hx
  have k1 : (w.setCell ⟨b + 1, 0, none⟩ (.int .i64 ((k : Int) + 1))).cell? ⟨b, 0, none⟩ = some (.slice (some ad) row.length c1) := (World.cell?_setCell_other w _ _ _ (fun h => by injection h; omega)).trans g1
  have k2 : (w.setCell ⟨b + 1, 0, none⟩ (.int .i64 ((k : Int) + 1))).cell? ⟨b + 1, 0, none⟩ = some (.int .i64 ((k : Int) + 1)) := World.cell?_setCell_same _ _ _ g2
  have k4 : (w.setCell ⟨b + 1, 0, none⟩ (.int .i64 ((k : Int) + 1))).cell? ⟨b + 2, 0, none⟩ = some (.slice A2 list.length c2) := (World.cell?_setCell_other w _ _ _ (fun h => by injection h; omega)).trans g4
  have HR := Aside0.mk hr
  have HC := Aside0.mk h3
  have hk0 : 0 ≤ (k : Int) := by omega
  clear hr h3 hb hb1 h1 h2 hx
  have K1 := Aside0.mk k1
  have K2 := Aside0.mk k2
  have K4 := Aside0.mk k4
  rw [Int.toNat_natCast] at hx1
  have X1 := Aside0.mk hx1
  clear k1 k2 k4 hx1
  go_enter Try.func54, Try.ntmps54
  go_wp2
  obtain ⟨W, hW⟩ : ∃ W : World, W = w.setCell ⟨b + 1, 0, none⟩ (.int .i64 ((k : Int) + 1)) := ⟨_, rfl⟩
  rw [← hW] at K1 K2 K4 X1 HL ⊢
  have hWW := Aside0.mk hW
  clear hW
  have k1 := K1.out
  have k2 := K2.out
  have k4 := K4.out
  have x1 := X1.out
  have e1 : IntKind.i64.wrap (k : Int) = (k : Int) := by rw [i64_w]; unfold wrap64; omega
  go_quiet ((go_at_call 23; exact Calls.quiet_of ((impl_numberOf.calls A2 c2 list (rd row k) r _ (by repeat (first | exact HL.out | (with_reducible refine Kd.C_drewN ?_ _) | (with_reducible refine Kd.C_drew ?_))) HC.out HR.out).mono (fun e w' h => ⟨h.1, h.2.out⟩))))
  go_wp2
  go_ret2
  rw [hWW.out]
  exact ⟨rfl, _, rfl⟩

section
variable (w0 : World) (A1 A2 : Option Addr) (c1 c2 : Nat) (row list : List Int) (nums : List Int)
def Tells : List V → World → Prop := fun ans w => ∃ k : Nat, k ≤ row.length ∧ (ans = ansOf (nums.drop k) ∨ ans = []) ∧ Cells w0.heap.size A1 row.length c1 A2 list.length c2 k w ∧ Below w0.heap.size w0 w

theorem Cells.below {b : Nat} {A1 A2 : Option Addr} {n1 c1 n2 c2 : Nat} {k : Int} {w w' : World} (h : Cells b A1 n1 c1 A2 n2 c2 k w) (hb : Below (b + 3) w w') : Cells b A1 n1 c1 A2 n2 c2 k w' :=
  ⟨(hb.cell (p := ⟨b, 0, none⟩) (by show b < b + 3; omega)).trans h.row, (hb.cell (p := ⟨b + 1, 0, none⟩) (by show b + 1 < b + 3; omega)).trans h.at_,
    (hb.frozen (p := ⟨b + 1, 0, none⟩) (by show b + 1 < b + 3; omega)).trans h.free, (hb.cell (p := ⟨b + 2, 0, none⟩) (by show b + 2 < b + 3; omega)).trans h.list⟩

theorem Cells.set {b : Nat} {A1 A2 : Option Addr} {n1 c1 n2 c2 : Nat} {k k' : Int} {w : World} (h : Cells b A1 n1 c1 A2 n2 c2 k w) : Cells b A1 n1 c1 A2 n2 c2 k' (w.setCell ⟨b + 1, 0, none⟩ (.int .i64 k')) :=
  ⟨(World.cell?_setCell_other w _ _ _ (fun h => by injection h; omega)).trans h.row, World.cell?_setCell_same _ _ _ h.at_, by rw [World.frozen?_setCell]; exact h.free, (World.cell?_setCell_other w _ _ _ (fun h => by injection h; omega)).trans h.list⟩

theorem tells_asks (hl : row.length ≤ 60) (h1 : Kd.C (Kd.int .i64) w0 A1 row.length row) (h2 : Kd.C (Kd.int .i64) w0 A2 list.length list) (h3 : list.length ≤ c2) (hn : nums.length = row.length)
    (hr : ∀ k : Nat, k < row.length → impl_numberOf.f list (rd row k) = some (nums.getD k 0)) : Asks (asker w0.heap.size) (w0.heap.size + 3) (Tells w0 A1 A2 c1 c2 row list nums) := by
  refine ⟨?_, ?_, ?_⟩
  · rintro ans w w' ⟨k, hk, ha, hc, hb⟩ hb'
    exact ⟨k, hk, ha, hc.below hb', hb.trans (hb'.mono (by omega))⟩
  · rintro p b ans w hB ⟨k, hk, ha, hc, hb⟩
    refine ⟨54, _, rfl, ⟨Try.f54, Try.func54, by kernel_rfl, by kernel_rfl⟩, ?_⟩
    have ha := ha.resolve_right (by simp)
    rcases Nat.lt_or_ge k row.length with hlt | hge
    · have hd : nums.drop k = nums.getD k 0 :: nums.drop (k + 1) := by
        rw [List.drop_eq_getElem_cons (by omega)]
        simp [List.getD_eq_getElem?_getD, show k < nums.length by omega]
      rw [hd] at ha
      simp only [ansOf, List.map_cons, List.cons_append, List.cons.injEq, V.t2.injEq, V.n.injEq, V.b.injEq] at ha
      obtain ⟨⟨rfl, rfl⟩, rfl⟩ := ha
      refine (asker_next w0.heap.size A1 A2 c1 c2 row list k _ w0 w hc (by omega) hl h1 h2 h3 (hr k hlt) hb (Nat.le_refl _)).mono ?_
      rintro e w' ⟨rfl, m, rfl⟩
      refine ⟨rfl, ⟨k + 1, hlt, .inl rfl, ?_, ?_⟩, ?_, ?_⟩
      · have := (hc.set (k' := (k : Int) + 1)).below (pw_below_drewN (Below.refl _ _) m)
        exact this
      · exact pw_below_drewN (hb.setCell (by show w0.heap.size ≤ w0.heap.size + 1; omega) _) m
      · simp
      · intro i hi _
        show ((w.setCell _ _).drewN m).heap[i]? = _
        rw [show ((w.setCell ⟨w0.heap.size + 1, 0, none⟩ (.int .i64 ((k : Int) + 1))).drewN m).heap = (w.setCell ⟨w0.heap.size + 1, 0, none⟩ (.int .i64 ((k : Int) + 1))).heap from rfl]
        exact Below.heap_setCell _ _ _ _ (by show i ≠ w0.heap.size + 1; omega)
    · have hd : nums.drop k = [] := List.drop_eq_nil_of_le (by omega)
      rw [hd] at ha
      simp only [ansOf, List.map_nil, List.nil_append, List.cons.injEq, V.t2.injEq, V.n.injEq, V.b.injEq] at ha
      obtain ⟨⟨rfl, rfl⟩, rfl⟩ := ha
      refine (asker_end w0.heap.size A1 A2 row.length c1 list.length c2 k w hc (by omega)).mono ?_
      rintro e w' ⟨rfl, rfl⟩
      exact ⟨rfl, ⟨k, hk, .inr rfl, hc, hb⟩, Nat.le_refl _, fun _ _ _ => rfl⟩
  · rintro v ans w ⟨k, hk, ha, _⟩
    have ha := ha.resolve_right (by simp)
    cases hd : nums.drop k with
    | nil => rw [hd] at ha; simp only [ansOf, List.map_nil, List.nil_append, List.cons.injEq] at ha; exact ⟨_, _, ha.1⟩
    | cons x l => rw [hd] at ha; simp only [ansOf, List.map_cons, List.cons_append, List.cons.injEq] at ha; exact ⟨_, _, ha.1⟩
end

end Go.Proofs.Ytnanfoahimccpaa.Wb
