/- The walks of the rule that FnWordRow hands on, of 'laws.breaks' over it, and of the law. -/
import Derived.Test.YtnanfoahimccpaaWbRow
import Derived.Test.YtnanfoahimccpaaWdx6
import Derived.Test.YtnanfoahimccpaaWdx8
import Derived.Outline
namespace Go.Proofs.Ytnanfoahimccpaa.Wb
open Go.RowKit Ev Go.Proofs.YtnanfoahimccpaaW.PrintWords Go.Proofs.YtnanfoahimccpaaW.PrintLast Go.Proofs.YtnanfoahimccpaaW.PrintMore Go.Proofs.Ytnanfoahimccpaa.Wd

theorem info32 : (Try.prog.info? 32).map (fun i => (i.zero, i.size, i.bytes)) = some (some (.agg #[.int .i64 0, .bool false]), 2, 16) := by kernel_rfl

def pt (x : Int) : S32 := ⟨x, x == 19⟩
/-- The row as the reference sees it. -/
def qOf (p : List Int) : List S32 := p.map pt

set_option maxHeartbeats 2000000 in
set_option maxRecDepth 100000 in
/-- The rule: at a place of which nothing is said it tells what was told, else what the reference says. -/
theorem rule_calls (A : Option Addr) (c : Nat) (p : List Int) (g : Addr) (G : Option Addr) (cg : Nat) (lb : List Bool) (i : Nat) (o : Bool) (k : Nat) (w : World)
    (hr : Kd.C (Kd.int .i64) w A p.length p) (hl : p.length ≤ 60) (hg : w.cell? g = some (.slice G lb.length cg)) (hlb : Kd.C Kd.bool w G lb.length lb) (hi : (i : Int) < lb.length) (hlbl : lb.length ≤ 60)
    (ho : spec_WordOpen.f k (qOf p) ((i : Int) + 1) = some o) (hb : o = false → spec_WordBreak.f k (qOf p) ((i : Int) + 1) = some (lb.getD i false)) :
    Calls Try.prog 12 #[.slice A p.length c, .int .i64 ((i : Int) + 1), .pointer (some g)] w fun e w' => e = .returned (.bool (lb.getD i false)) ∧ Below w.heap.size w w' := by
  have HR := Aside0.mk hr
  have HG := Aside0.mk hg
  have HLB := Aside0.mk hlb
  have HO := Aside0.mk ho
  have HBk := Aside0.mk hb
  clear hr hg hlb ho hb
  go_enter Try.func12, Try.ntmps12
  go_wp2_with fail
  go_loopw [6, 11] (fun v6 v11 wr => ∃ j : Nat, (j : Int) ≤ p.length ∧ v11 = .int .i64 j ∧ Aside0 (Kd.R k32 32 wr w.heap.size (fun _ => True) v6 (qOf (p.take j))) ∧ Aside0 (Below w.heap.size w wr))
    (fun _ v11 _ => p.length - (intOf v11).toNat)
  case atStart => exact ⟨0, by omega, rfl, ⟨Kd.R_nil _ _ _ _ _⟩, ⟨Below.refl _ _⟩⟩
  case round =>
    obtain ⟨j, hj, rfl, HO1, HB⟩ := hrel
    by_cases hjl : (j : Int) < p.length
    · obtain ⟨ad, e, hx⟩ := Kd.at_int HR.out j (by omega) hjl
      cases e
      replace hx := (HB.out.cell (World.block_lt_of_cell? w _ hx)).trans hx
      rw [Int.toNat_natCast] at hx
      have hjn : j < p.length := by omega
      have HQ := Aside0.mk (show qOf (p.take (j + 1)) = qOf (p.take j) ++ [pt (rd p j)] by
        unfold qOf
        rw [List.take_succ_eq_append_getElem hjn, List.map_append]
        simp [rd, hjn])
      have HLn := Aside0.mk (show (qOf (p.take j)).length ≤ 60 by simp [qOf]; omega)
      generalize rd p (j : Int) = x at hx HQ ⊢
      go_wp2_with ((with_reducible refine gate_builtin (b := .append) (xs := #[.tmp 15, .tmp 20]) rfl ?_); at_builtin; refine Kd.R_append k32 (w0 := w) w.heap.size rfl (.tmp 15) (.tmp 20) 30 32 (.agg #[.int .i64 0, .bool false]) 16 rfl Try.underlying30 info32 rfl (by decide) (by omega) u6 (qOf (p.take j)) (pt x) [.int .i64 x, .bool (x == 19)] (fun _ => True) (fun _ => False) rfl rfl ?aP (fun _ hk => hk.elim) ?aF ?aO ?aB ?aS ?aL ?_; (case aP => exact k32_mkM _ _ _ (pt x)); (case aB => exact HB.out); (case aF => exact (fun _ _ => trivial)); (case aO => exact HO1.out); (case aS => exact below_size HB.out); (case aL => have := HLn.out; omega); intro v5 w5 ho hb hg hat; rw [← HQ.out] at ho; have HB5 := Aside0.mk hb; have HO25 := Aside0.mk ho; clear ho hb hg hat HO1 HB)
      go_roundw
      case rel => exact ⟨j + 1, by omega, by go_num, HO25, HB5⟩
      case measure => simp [intOf]; omega
    · have hje : j = p.length := by omega
      have HO2 := Aside0.mk (show Kd.R k32 32 wr w.heap.size (fun _ => True) u6 (qOf p) by
        have := HO1.out
        rwa [hje, List.take_length] at this)
      clear HO1 hje
      obtain ⟨A1, c1, e6⟩ := Kd.R_slice HO2.out
      subst e6
      have hg1 := (HB.out.cell (World.block_lt_of_cell? w _ HG.out)).trans HG.out
      have HG1 := Aside0.mk hg1
      clear hg1
      cases o with
      | true =>
        go_wp2_with fail
        refine (spec_WordOpen.calls k A1 c1 (qOf p) ((i : Int) + 1) true _ (Kd.R_reads' HO2.out).2.2 (Kd.R_reads' HO2.out).2.1 HO.out).mono ?_
        rintro e w2 ⟨rfl, hb2⟩
        have hg2 := (hb2.cell (World.block_lt_of_cell? wr _ HG1.out)).trans HG1.out
        have HB2 := Aside0.mk (below_step HB.out hb2)
        obtain ⟨ad, e, hx⟩ := Kd.at_bool HLB.out i (by omega) hi
        cases e
        replace hx := (HB2.out.cell (World.block_lt_of_cell? w _ hx)).trans hx
        rw [Int.toNat_natCast, show rdOf false lb (i : Int) = lb.getD i false from rfl] at hx
        have hi0 : 0 ≤ (i : Int) := by omega
        clear hb2 HB HG HG1 HBk
        obtain ⟨x, hxe⟩ : ∃ x, lb.getD i false = x := ⟨_, rfl⟩
        rw [hxe] at hx
        have HXe := Aside0.mk hxe
        clear hxe
        go_wp2
        go_ret
        exact ⟨congrArg (fun b => Ending.returned (.bool b)) HXe.out.symm, HB2.out⟩
      | false =>
        have HW := Aside0.mk (HBk.out rfl)
        clear HBk
        go_wp2_with fail
        refine (spec_WordOpen.calls k A1 c1 (qOf p) ((i : Int) + 1) false _ (Kd.R_reads' HO2.out).2.2 (Kd.R_reads' HO2.out).2.1 HO.out).mono ?_
        rintro e w2 ⟨rfl, hb2⟩
        have HO3 := Aside0.mk (Kd.R_below HO2.out hb2)
        have HB2 := Aside0.mk (below_step HB.out hb2)
        clear hb2 HB HO2 HG HG1
        go_wp2_with fail
        refine (spec_WordBreak.calls k A1 c1 (qOf p) ((i : Int) + 1) _ _ (Kd.R_reads' HO3.out).2.2 (Kd.R_reads' HO3.out).2.1 HW.out).mono ?_
        rintro e w3 ⟨rfl, hb3⟩
        have HB3 := Aside0.mk (below_step HB2.out hb3)
        clear hb3
        go_wp2
        go_ret
        exact ⟨rfl, HB3.out⟩

set_option maxHeartbeats 1000000 in
set_option maxRecDepth 100000 in
/-- 'laws.breaks' over that rule, where each place breaks just as the rule says: true. -/
theorem all_calls (A0 A1 : Option Addr) (c0 c1 : Nat) (g : Addr) (lb : List Bool) (p : List Int) (w : World)
    (hr0 : Kd.C Kd.bool w A0 lb.length lb) (hl : p.length ≤ 60) (hlen : lb.length = p.length - 1)
    (hrule : ∀ (W : World) (i : Nat), Below w.heap.size w W → (i : Int) < lb.length → Calls Try.prog 12 #[.slice A1 p.length c1, .int .i64 ((i : Int) + 1), .pointer (some g)] W fun e W' => e = .returned (.bool (lb.getD i false)) ∧ Below W.heap.size W W') :
    Calls Try.prog 8 #[.slice A0 lb.length c0, .slice A1 p.length c1, .func (.func 12) #[] #[.pointer (some g)]] w fun e w' => e = .returned (.bool true) ∧ Below w.heap.size w w' := by
  have HR := Aside0.mk hr0
  have HX := Aside0.mk hrule
  clear hr0 hrule
  by_cases hp : p.length = 0
  · have h0 : lb.length = 0 := by omega
    clear hlen
    rw [hp, h0]
    go_enter Try.func8, Try.ntmps8
    go_wp2
    go_ret
    exact ⟨rfl, Below.refl _ _⟩
  · have ht : ((lb.length : Int) != (p.length : Int) - 1) = false := by
      rw [bne_eq_false_iff_eq]; omega
    have ht0 : ((p.length : Int) == 0) = false := by
      rw [beq_eq_false_iff_ne]; omega
    have hlt : (lb.length : Int) < 60 := by omega
    clear hlen hp
    go_enter Try.func8, Try.ntmps8
    go_wp2_with fail
    go_loopw [23] (fun v wr => ∃ k : Nat, (k : Int) ≤ lb.length ∧ v = .int .i64 k ∧ Below w.heap.size w wr) (fun v _ => lb.length - (intOf v).toNat)
    case atStart => exact ⟨0, by omega, rfl, Below.refl _ _⟩
    case round =>
      obtain ⟨k, hk, rfl, hb⟩ := hrel
      have HB := Aside0.mk hb
      clear hb
      by_cases hkl : (k : Int) < lb.length
      · obtain ⟨ad, e, hx⟩ := Kd.at_bool HR.out k (by omega) hkl
        cases e
        replace hx := (HB.out.cell (World.block_lt_of_cell? w _ hx)).trans hx
        have hy := HX.out wr k HB.out hkl
        simp only [Int.toNat_natCast] at hx
        have hv : rdOf false lb (k : Int) = lb.getD k false := rfl
        rw [hv] at hx
        generalize lb.getD k false = x at hx hy
        clear hv
        have HY := Aside0.mk hy
        clear hy
        have hne : (x != x) = false := by cases x <;> rfl
        go_wp2_with (go_at_call 12; refine HY.out.mono ?_; rintro e w2 ⟨rfl, hb2⟩; have HB2 := Aside0.mk (below_step HB.out hb2); clear hb2)
        go_roundw
        case rel => exact ⟨k + 1, by omega, by go_num, HB2.out⟩
        case measure => simp [intOf]; omega
      · go_wp2
        go_ret
        exact ⟨rfl, HB.out⟩

theorem cutsW_getD (p : List Int) (n i : Nat) (h : i < n) : (cutsW p n).getD i false = cutW p (i + 1) := by
  simp [cutsW, h]

set_option maxHeartbeats 2000000 in
set_option maxRecDepth 100000 in
theorem law_calls (A : Option Addr) (c : Nat) (l : List Int) (w : World) (hr : Kd.C (Kd.int .u8) w A l.length l) (hc : l.length ≤ c) (p : List Int) (k : Nat) (hp : laws_row.f k l 20 = some p) (hpl : p.length ≤ 60) (hpk : ∀ x ∈ p, 0 ≤ x ∧ x < 20)
    (hrule : ∀ i : Nat, i + 1 < p.length → ∃ o, spec_WordOpen.f k (qOf p) ((i : Int) + 1) = some o ∧ (o = false → spec_WordBreak.f k (qOf p) ((i : Int) + 1) = some (cutW p (i + 1)))) :
    Calls Try.prog 4 #[.slice A l.length c] w fun e w' => e = .returned (.bool true) ∧ Below w.heap.size w w' := by
  by_cases hbig : (2147483647 : Int) < l.length
  · go_enter Try.func4, Try.ntmps4
    go_wp2
    go_ret
    exact ⟨rfl, Below.refl _ _⟩
  · have HR := Aside0.mk hr
    have HC := Aside0.mk hc
    have HP := Aside0.mk hp
    have HL := Aside0.mk hpl
    have HK := Aside0.mk hpk
    have HRu := Aside0.mk hrule
    clear hr hc hp hpl hpk hrule
    have hmf : ∀ (fn : Fn) (first cap : Array Value) (w : World), (Instr.makeFunc fn first cap).run Try.prog w = .ok (.func fn first cap) w := fun _ _ _ _ => rfl
    go_enter Try.func4, Try.ntmps4
    go_wp2_with fail
    refine (laws_row.calls k A c l 20 p w HR.out HC.out HP.out).mono ?_
    rintro e w1 ⟨v1, rfl, ho1, hb1⟩
    obtain ⟨A1, c1, rfl⟩ := Kd.R_slice ho1
    have HO1 := Aside0.mk ho1
    have HB1 := Aside0.mk hb1
    clear ho1 hb1
    go_wp2_with fail
    refine (breaks_calls A1 c1 p w1 (Kd.R_reads' HO1.out).2.2 (Kd.R_reads' HO1.out).2.1 HL.out HK.out).mono ?_
    rintro e w2 ⟨v2, rfl, ho2, hb2⟩
    obtain ⟨A2, c2, rfl⟩ := Kd.R_slice ho2
    have HO2 := Aside0.mk ho2
    have HB2 := Aside0.mk (below_step HB1.out hb2)
    have HP2 := Aside0.mk (Kd.C_below (Kd.R_reads' HO1.out).2.2 hb2)
    clear ho2 hb2
    go_wp2_with fail
    have hlen : (cutsW p (p.length - 1)).length = p.length - 1 := by simp [cutsW]
    have HLen := Aside0.mk hlen
    clear hlen
    have HP3 := Aside0.mk (Kd.C_alloc HP2.out (.cells #[.slice A2 (cutsW p (p.length - 1)).length c2] 26))
    have HO3 := Aside0.mk (Kd.C_alloc (Kd.R_reads' HO2.out).2.2 (.cells #[.slice A2 (cutsW p (p.length - 1)).length c2] 26))
    have HG := Aside0.mk (show (w2.alloc (.cells #[.slice A2 (cutsW p (p.length - 1)).length c2] 26)).cell? ⟨w2.heap.size, 0, none⟩ = some (.slice A2 (cutsW p (p.length - 1)).length c2) by rw [World.cell?_alloc_at _ _ _ _ rfl]; rfl)
    refine (all_calls A2 A1 c2 c1 ⟨w2.heap.size, 0, none⟩ (cutsW p (p.length - 1)) p _ HO3.out HL.out HLen.out ?_).mono ?_
    · intro W i hW hi
      have hi' : i < p.length - 1 := by rw [HLen.out] at hi; omega
      obtain ⟨o, h1, h2⟩ := HRu.out i (by omega)
      refine rule_calls A1 c1 p ⟨w2.heap.size, 0, none⟩ A2 c2 (cutsW p (p.length - 1)) i o k W (Kd.C_below HP3.out hW) HL.out ((hW.cell (World.block_lt_of_cell? _ _ HG.out)).trans HG.out) (Kd.C_below HO3.out hW) hi (by rw [HLen.out]; have := HL.out; omega) h1 ?_
      intro ho
      rw [cutsW_getD p _ i hi']
      exact h2 ho
    rintro e w3 ⟨rfl, hb3⟩
    have HB3 := Aside0.mk (below_step (below_alloc HB2.out (.cells #[.slice A2 (cutsW p (p.length - 1)).length c2] 26)) hb3)
    clear hb3
    go_wp2_with (first | ((with_reducible refine gate_dst (N := 19) rfl ?_); (try (refine gate_guard (by rfl) ?_; dsimp only)); refine Kd.R_lit (Kd.int .i64) _ 3 ?hg (N := 19) ?hd (xs := ([0, 0] : List Int)) (inner := [.int .i64 0, .int .i64 0]) (ok := fun _ => True) (okp := fun _ => True) ?hr ?hp (fun _ hk => hk) trivial (Below.refl _ _) (Nat.le_refl _) (by simp) ?_; (case hd => rfl); (case hg => rfl); (case hr => first | (go_simp; done) | (go_simp; rfl)); (case hp => exact (Reps.one (show Kd.M (Kd.int .i64) _ _ _ 0 [.int .i64 0] from rfl) (Reps.one (show Kd.M (Kd.int .i64) _ _ _ 0 [.int .i64 0] from rfl) (Reps.none _ _)))); intro v4 w4 ho4 hb4 hg_ hnew_; clear hg_ hnew_))
    obtain ⟨A4, c4, rfl⟩ := Kd.R_slice ho4
    refine (breaks_calls A4 c4 [0, 0] w4 (Kd.R_reads' ho4).2.2 (Kd.R_reads' ho4).2.1 (by decide) (by decide)).mono ?_
    rintro e w5 ⟨v5, rfl, ho5, hb5⟩
    obtain ⟨A5, c5, rfl⟩ := Kd.R_slice ho5
    have HB5 := Aside0.mk (below_step (below_step HB3.out hb4) hb5)
    clear ho5 hb5 ho4 hb4
    have hl2 : (cutsW [0, 0] (([0, 0] : List Int).length - 1)).length = 1 := by simp [cutsW]
    rw [hl2]
    clear hl2
    go_wp2
    go_ret
    exact ⟨rfl, HB5.out⟩
end Go.Proofs.Ytnanfoahimccpaa.Wb
