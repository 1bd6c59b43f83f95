/- The walk of the law FnSentenceRow. -/
import Derived.Test.YtnanfoahimccpaaSbRow
import Derived.Test.YtnanfoahimccpaaSnx3
import Derived.Test.YtnanfoahimccpaaSnx4
import Derived.Outline
namespace Go.Proofs.Ytnanfoahimccpaa.Sb
open Go.RowKit Ev Go.Proofs.YtnanfoahimccpaaW.PrintWords Go.Proofs.YtnanfoahimccpaaW.PrintLast Go.Proofs.YtnanfoahimccpaaW.PrintMore
attribute [local go_sem] max2_int min2_int max_two min_two

theorem cutsS_getD (p : List Int) (n i : Nat) (h : i < n) : (cutsS p n).getD i false = cutS p (i + 1) := by
  simp [cutsS, h]

set_option maxHeartbeats 2000000 in
set_option maxRecDepth 100000 in
theorem law_calls (A : Option Addr) (c : Nat) (l : List Int) (w : World) (hr : Kd.C (Kd.int .u8) w A l.length l) (hc : l.length ≤ c) (p : List Int) (k : Nat) (hp : Wd.laws_row.f k l 15 = some p) (hpl : p.length ≤ 60) (hpk : ∀ x ∈ p, 0 ≤ x ∧ x < 15)
    (hrule : ∀ i : Nat, i + 1 < p.length → ∃ o b, Sn.spec_SentenceOpen.f k p ((i : Int) + 1) = some o ∧ Sn.spec_SentenceBreak.f k p ((i : Int) + 1) = some b ∧ (o = false → b = cutS p (i + 1))) :
    Calls Try.prog 5 #[.slice A l.length c] w fun e w' => e = .returned (.bool true) ∧ Below w.heap.size w w' := by
  by_cases hbig : (2147483647 : Int) < l.length
  · go_enter Try.func5, Try.ntmps5
    go_wp2
    go_ret
    exact ⟨rfl, Below.refl _ _⟩
  · have HR := Aside0.mk hr
    have HC := Aside0.mk hc
    have HP := Aside0.mk hp
    have HL := Aside0.mk hpl
    have HK := Aside0.mk hpk
    have HRu := Aside0.mk hrule
    clear hr hc hp hpl hpk hrule
    go_enter Try.func5, Try.ntmps5
    go_wp2_with fail
    refine (Wd.laws_row.calls k A c l 15 p w HR.out HC.out HP.out).mono ?_
    rintro e w1 ⟨v1, rfl, ho1, hb1⟩
    obtain ⟨A1, c1, rfl⟩ := Kd.R_slice ho1
    have HO1 := Aside0.mk ho1
    have HB1 := Aside0.mk hb1
    clear ho1 hb1
    go_wp2_with fail
    refine (breaks_calls A1 c1 p w1 (Kd.R_reads' HO1.out).2.2 (Kd.R_reads' HO1.out).2.1 HL.out HK.out).mono ?_
    rintro e w2 ⟨v2, rfl, ho2, hb2⟩
    obtain ⟨A2, c2, rfl⟩ := Kd.R_slice ho2
    have HO2 := Aside0.mk ho2
    have HB2 := Aside0.mk (below_step HB1.out hb2)
    have HP2 := Aside0.mk (Kd.C_below (Kd.R_reads' HO1.out).2.2 hb2)
    have HC1 := Aside0.mk (Kd.R_reads' HO1.out).2.1
    clear ho2 hb2
    have hlen : (cutsS p (p.length - 1)).length = p.length - 1 := by simp [cutsS]
    have HLen := Aside0.mk hlen
    clear hlen
    have hle : ((cutsS p (p.length - 1)).length : Int) ≤ 60 := by rw [HLen.out]; have := HL.out; omega
    have hpl2 : (p.length : Int) ≤ 60 := by have := HL.out; omega
    by_cases hp0 : p.length = 0
    · have hm1 : ((p.length : Int) - 1 < 0) = True := by rw [eq_iff_iff, iff_true]; omega
      have hm2 : (((cutsS p (p.length - 1)).length : Int) != 0) = false := by rw [bne_eq_false_iff_eq, HLen.out]; omega
      have hm3 : (0 ≤ (p.length : Int) - 1) = False := by rw [eq_iff_iff, iff_false]; omega
      have hm4 : (((cutsS p (p.length - 1)).length : Int) = 0) = True := by rw [eq_iff_iff, iff_true, HLen.out]; omega
      have hm5 : (cutsS p (p.length - 1)) = [] := List.eq_nil_of_length_eq_zero (by rw [HLen.out]; omega)
      go_wp2_with (first | ((with_reducible refine gate_dst (N := 22) rfl ?_); (try (refine gate_guard (by rfl) ?_; dsimp only)); refine Kd.R_lit (Kd.int .i64) _ 3 ?hg (N := 22) ?hd (xs := ([0, 0] : List Int)) (inner := [.int .i64 0, .int .i64 0]) (ok := fun _ => True) (okp := fun _ => True) ?hr ?hp (fun _ hk => hk) trivial (Below.refl _ _) (Nat.le_refl _) (by simp) ?_; (case hd => rfl); (case hg => rfl); (case hr => first | (go_simp; done) | (go_simp; rfl)); (case hp => exact (Reps.one (show Kd.M (Kd.int .i64) _ _ _ 0 [.int .i64 0] from rfl) (Reps.one (show Kd.M (Kd.int .i64) _ _ _ 0 [.int .i64 0] from rfl) (Reps.none _ _)))); intro v4 w4 ho4 hb4 hg_ hnew_; clear hg_ hnew_))
      obtain ⟨A4, c4, rfl⟩ := Kd.R_slice ho4
      refine (breaks_calls A4 c4 [0, 0] w4 (Kd.R_reads' ho4).2.2 (Kd.R_reads' ho4).2.1 (by decide) (by decide)).mono ?_
      rintro e w5 ⟨v5, rfl, ho5, hb5⟩
      obtain ⟨A5, c5, rfl⟩ := Kd.R_slice ho5
      have hb45 := below_step hb4 hb5
      have HB5 := Aside0.mk (below_step HB2.out hb45)
      have HP5 := Aside0.mk (Kd.C_below HP2.out hb45)
      have HO5 := Aside0.mk (Kd.C_below (Kd.R_reads' HO2.out).2.2 hb45)
      clear ho5 hb5 ho4 hb4 hb45 HP2 HO2 HB2 HO1 HB1 HR HC HP
      have hl2 : (cutsS [0, 0] (([0, 0] : List Int).length - 1)).length = 1 := by simp [cutsS]
      rw [hl2]
      clear hl2
      go_wp2_with fail
      go_loopw [29] (fun v wr => ∃ j : Nat, (j : Int) ≤ (cutsS p (p.length - 1)).length ∧ v = .int .i64 j ∧ Below w5.heap.size w5 wr) (fun v _ => (cutsS p (p.length - 1)).length - (intOf v).toNat)
      case atStart => exact ⟨0, by omega, rfl, Below.refl _ _⟩
      case round =>
        obtain ⟨j, hj, rfl, hb⟩ := hrel
        have HB := Aside0.mk hb
        clear hb
        by_cases hjl : (j : Int) < (cutsS p (p.length - 1)).length
        · exfalso
          rw [HLen.out] at hjl
          omega
        · go_wp2
          go_ret
          exact ⟨rfl, below_step HB5.out HB.out⟩
    · have hm1 : ((p.length : Int) - 1 < 0) = False := by rw [eq_iff_iff, iff_false]; omega
      have hm2 : (((cutsS p (p.length - 1)).length : Int) != (p.length : Int) - 1) = false := by rw [bne_eq_false_iff_eq, HLen.out]; omega
      have hm3 : (0 ≤ (p.length : Int) - 1) = True := by rw [eq_iff_iff, iff_true]; omega
      have hm4 : (((cutsS p (p.length - 1)).length : Int) = (p.length : Int) - 1) = True := by rw [eq_iff_iff, iff_true, HLen.out]; omega
      go_wp2_with (first | ((with_reducible refine gate_dst (N := 22) rfl ?_); (try (refine gate_guard (by rfl) ?_; dsimp only)); refine Kd.R_lit (Kd.int .i64) _ 3 ?hg (N := 22) ?hd (xs := ([0, 0] : List Int)) (inner := [.int .i64 0, .int .i64 0]) (ok := fun _ => True) (okp := fun _ => True) ?hr ?hp (fun _ hk => hk) trivial (Below.refl _ _) (Nat.le_refl _) (by simp) ?_; (case hd => rfl); (case hg => rfl); (case hr => first | (go_simp; done) | (go_simp; rfl)); (case hp => exact (Reps.one (show Kd.M (Kd.int .i64) _ _ _ 0 [.int .i64 0] from rfl) (Reps.one (show Kd.M (Kd.int .i64) _ _ _ 0 [.int .i64 0] from rfl) (Reps.none _ _)))); intro v4 w4 ho4 hb4 hg_ hnew_; clear hg_ hnew_))
      obtain ⟨A4, c4, rfl⟩ := Kd.R_slice ho4
      refine (breaks_calls A4 c4 [0, 0] w4 (Kd.R_reads' ho4).2.2 (Kd.R_reads' ho4).2.1 (by decide) (by decide)).mono ?_
      rintro e w5 ⟨v5, rfl, ho5, hb5⟩
      obtain ⟨A5, c5, rfl⟩ := Kd.R_slice ho5
      have hb45 := below_step hb4 hb5
      have HB5 := Aside0.mk (below_step HB2.out hb45)
      have HP5 := Aside0.mk (Kd.C_below HP2.out hb45)
      have HO5 := Aside0.mk (Kd.C_below (Kd.R_reads' HO2.out).2.2 hb45)
      clear ho5 hb5 ho4 hb4 hb45 HP2 HO2 HB2 HO1 HB1 HR HC HP
      have hl2 : (cutsS [0, 0] (([0, 0] : List Int).length - 1)).length = 1 := by simp [cutsS]
      rw [hl2]
      clear hl2
      go_wp2_with fail
      go_loopw [29] (fun v wr => ∃ j : Nat, (j : Int) ≤ (cutsS p (p.length - 1)).length ∧ v = .int .i64 j ∧ Below w5.heap.size w5 wr) (fun v _ => (cutsS p (p.length - 1)).length - (intOf v).toNat)
      case atStart => exact ⟨0, by omega, rfl, Below.refl _ _⟩
      case round =>
        obtain ⟨j, hj, rfl, hb⟩ := hrel
        have HB := Aside0.mk hb
        clear hb
        by_cases hjl : (j : Int) < (cutsS p (p.length - 1)).length
        · obtain ⟨ad, e, hx⟩ := Kd.at_bool HO5.out j (by omega) hjl
          cases e
          replace hx := (HB.out.cell (World.block_lt_of_cell? w5 _ hx)).trans hx
          rw [Int.toNat_natCast] at hx
          have hji : j + 1 < p.length := by rw [HLen.out] at hjl; omega
          have hv : rdOf false (cutsS p (p.length - 1)) (j : Int) = cutS p (j + 1) := cutsS_getD p _ j (by omega)
          rw [hv] at hx
          obtain ⟨o, b, h1, h2, h3⟩ := HRu.out j hji
          have H1 := Aside0.mk h1
          have H2 := Aside0.mk h2
          have H3 := Aside0.mk h3
          clear h1 h2 h3 hv
          generalize cutS p (j + 1) = x at hx H3
          have e1 : IntKind.i64.wrap ((j : Int) + 1) = (j : Int) + 1 := by rw [i64_w]; unfold wrap64; omega
          go_wp2_with fail
          refine (Sn.spec_SentenceBreak.calls k A1 c1 p ((j : Int) + 1) b _ (Kd.C_below HP5.out HB.out) HC1.out H2.out).mono ?_
          rintro e w6 ⟨rfl, hb6⟩
          have HB6 := Aside0.mk (below_step HB.out hb6)
          clear hb6 HB hx
          by_cases hbx : x = b
          · subst hbx
            have hne : (x != x) = false := by cases x <;> rfl
            go_wp2_with fail
            go_roundw
            case rel => exact ⟨j + 1, by omega, by go_num, HB6.out⟩
            case measure => simp [intOf]; omega
          · have hne : (x != b) = true := by rw [bne_iff_ne]; exact hbx
            have ho : o = true := by
              cases ho : o with
              | true => rfl
              | false => exact absurd (H3.out ho).symm hbx
            subst ho
            go_wp2_with fail
            refine (Sn.spec_SentenceOpen.calls k A1 c1 p ((j : Int) + 1) true _ (Kd.C_below HP5.out HB6.out) HC1.out H1.out).mono ?_
            rintro e w7 ⟨rfl, hb7⟩
            have HB7 := Aside0.mk (below_step HB6.out hb7)
            clear hb7 HB6
            go_wp2_with fail
            go_roundw
            case rel => exact ⟨j + 1, by omega, by go_num, HB7.out⟩
            case measure => simp [intOf]; omega
        · go_wp2
          go_ret
          exact ⟨rfl, below_step HB5.out HB.out⟩
end Go.Proofs.Ytnanfoahimccpaa.Sb
