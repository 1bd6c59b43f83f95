/- The walk of 'impl.SentenceBreaks'. -/
import Derived.Test.YtnanfoahimccpaaSbAsk
import Derived.Test.YtnanfoahimccpaaSnx1
import Derived.Outline
namespace Go.Proofs.Ytnanfoahimccpaa.Sb
open Go.RowKit Ev Go.Proofs.YtnanfoahimccpaaW.PrintWords Go.Proofs.YtnanfoahimccpaaW.PrintLast Go.Proofs.YtnanfoahimccpaaW.PrintMore Go.Proofs.Ytnanfoahimccpaa.Wd

open Wb (laid behind_calls info4)
set_option maxHeartbeats 2000000 in
set_option maxRecDepth 100000 in
theorem breaks_calls (A : Option Addr) (c : Nat) (p : List Int) (w : World) (hr : Kd.C (Kd.int .i64) w A p.length p) (hc : p.length ≤ c) (hl : p.length ≤ 60) (hp : ∀ x ∈ p, 0 ≤ x ∧ x < 15) :
    Calls Try.prog 15 #[.slice A p.length c] w fun e w' => ∃ v : Value, e = .returned v ∧ Kd.R Kd.bool 4 w' w.heap.size (fun _ => True) v (cutsS p (p.length - 1)) ∧ Below w.heap.size w w' := by
  have HR := Aside0.mk hr
  have HC := Aside0.mk hc
  have HP := Aside0.mk hp
  clear hr hc hp
  go_enter Try.func15, Try.ntmps15
  go_wp2_with fail
  refine (Sn.impl_sentences.calls slist w rfl).mono ?_
  rintro e w1 ⟨v1, rfl, ho1, hb1⟩
  obtain ⟨A2, c2, rfl⟩ := Kd.R_slice ho1
  have HO1 := Aside0.mk ho1
  have HB1 := Aside0.mk hb1
  clear ho1 hb1
  go_wp2_with fail
  go_loopw [2, 3, 12] (fun v2 v3 v12 wr => ∃ k : Nat, (k : Int) ≤ p.length ∧ v12 = .int .i64 k ∧ v3 = .int .i64 (stS p k) ∧ Aside0 (Kd.R Kd.bool 4 wr w.heap.size (fun _ => True) v2 (cutsS p (k - 1))) ∧ Aside0 (Kd.R (Kd.int .i64) 3 wr w.heap.size (fun _ => True) (.slice A2 slist.length c2) slist) ∧ Aside0 (Below w.heap.size w wr))
    (fun _ _ v12 _ => p.length - (intOf v12).toNat)
  case atStart => exact ⟨0, by omega, rfl, rfl, ⟨Kd.R_nil _ _ _ _ _⟩, HO1, HB1⟩
  case round =>
    clear HO1 HB1
    obtain ⟨k, hk, rfl, rfl, HO2, HO4, HB⟩ := hrel
    obtain ⟨wo, hwo⟩ : ∃ wo : World, wo = wr := ⟨_, rfl⟩
    by_cases hkl : (k : Int) < p.length
    · obtain ⟨ad, e, hx⟩ := Kd.at_int HR.out k (by omega) hkl
      cases e
      replace hx := (HB.out.cell (World.block_lt_of_cell? w _ hx)).trans hx
      rw [Int.toNat_natCast] at hx
      have hkn : k < p.length := by omega
      have HN := Aside0.mk (num_ok (rd_kind HP.out k hkn)).1
      have e1 : IntKind.i64.wrap ((k : Int) + 1) = (k : Int) + 1 := by rw [i64_w]; unfold wrap64; omega
      have HZ := fun (W : World) (h1 : Kd.C (Kd.int .i64) W (some ad) p.length p) (h2 : Kd.C (Kd.int .i64) W A2 slist.length slist) (h3 : slist.length ≤ c2) => zz_at W (some ad) A2 c c2 p HP.out hl k hkn h1 h2 h3
      have HZ := Aside0.mk HZ
      go_wp2_with fail
      refine (impl_numberOf.calls A2 c2 slist (rd p k) (numOf (rd p k)) _ (Kd.R_reads' HO4.out).2.2 (Kd.R_reads' HO4.out).2.1 HN.out).mono ?_
      rintro e w2 ⟨rfl, hd⟩
      have HB2 := Aside0.mk (below_step HB.out hd.below)
      have HO22 := Aside0.mk (Kd.R_below HO2.out hd.below)
      have HO42 := Aside0.mk (Kd.R_below HO4.out hd.below)
      clear hd HO2 HO4 HB hx
      go_wp2_with fail
      refine (behind_calls (some ad) A2 p.length c slist.length c2 ((k : Int) + 1) w2).mono ?_
      rintro e w3 ⟨rfl, rfl⟩
      have hb3 : Below w2.heap.size w2 (laid w2 (some ad) p.length c A2 slist.length c2 ((k : Int) + 1)) := (((Below.refl _ _).alloc (Nat.le_refl _) _).alloc (by simp) _).alloc (by simp; omega) _
      go_wp2_with fail
      refine (HZ.out w2 (Kd.C_below HR.out HB2.out) (Kd.R_reads' HO42.out).2.2 (Kd.R_reads' HO42.out).2.1).mono ?_
      rintro e w4 ⟨rfl, hb4⟩
      have HB4 := Aside0.mk (below_step HB2.out hb4)
      have HO24 := Aside0.mk (Kd.R_below HO22.out hb4)
      have HO44 := Aside0.mk (Kd.R_below HO42.out hb4)
      clear hb4 HB2 HO22 HO42 hb3
      by_cases hk0 : 0 < k
      · have e2 : k - 1 + 1 = k := by omega
        have HC2 := Aside0.mk (show cutsS p k = cutsS p (k - 1) ++ [cutS p k] by
          have h := cutsS_succ p (k - 1)
          rwa [e2] at h)
        have hlen : (cutsS p (k - 1)).length ≤ 60 := by simp [cutsS]; omega
        have HLn := Aside0.mk hlen
        clear e2 hlen
        generalize cutS p k = x at HC2 ⊢
        go_wp2_with ((with_reducible refine gate_builtin (b := .append) (xs := #[.tmp 33, .tmp 35]) rfl ?_); at_builtin; refine Kd.R_append Kd.bool (w0 := w) w.heap.size rfl (.tmp 33) (.tmp 35) 26 4 (.bool false) 1 rfl Try.underlying26 info4 rfl (by decide) (by omega) u2 (cutsS p (k - 1)) x [.bool x] (fun _ => True) (fun _ => False) rfl rfl ?aP (fun _ hk => hk.elim) ?aF ?aO ?aB ?aS ?aL ?_; (case aP => exact rfl); (case aB => exact HB4.out); (case aF => exact (fun _ _ => trivial)); (case aO => exact HO24.out); (case aS => exact below_size HB4.out); (case aL => have := HLn.out; omega); intro v5 w5 ho hb hg hat; rw [← HC2.out] at ho; have HO45 := Aside0.mk (Kd.R_over' HO44.out (Kd.R_typed HO24.out) (by decide) hg); have HB5 := Aside0.mk hb; have HO25 := Aside0.mk ho; clear ho hb hg hat HO44 HO24 HB4)
        go_roundw
        case rel => exact ⟨k + 1, by omega, by go_num, rfl, HO25, HO45, HB5⟩
        case measure => simp [intOf]; omega
      · obtain rfl : k = 0 := by omega
        go_wp2
        go_roundw
        case rel => exact ⟨1, by omega, by go_num, rfl, HO24, HO44, HB4⟩
        case measure => simp [intOf]; omega
    · have hke : k = p.length := by omega
      go_wp2
      go_ret
      rw [← hke]
      exact ⟨_, rfl, HO2.out, HB.out⟩
end Go.Proofs.Ytnanfoahimccpaa.Sb
