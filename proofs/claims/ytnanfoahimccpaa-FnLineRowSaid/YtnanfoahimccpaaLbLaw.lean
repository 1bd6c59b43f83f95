/- The walks of 'laws.ruled' and of the law FnLineRow. -/
import Derived.Test.YtnanfoahimccpaaLnx17
import Derived.Test.YtnanfoahimccpaaLnBrk
import Derived.Test.YtnanfoahimccpaaLnPts
import Derived.Outline
namespace Go.Proofs.Ytnanfoahimccpaa.Ln
open Go.RowKit Go.Proofs.YtnanfoahimccpaaW.PrintWords Go.Proofs.YtnanfoahimccpaaW.PrintLast Go.Proofs.YtnanfoahimccpaaW.PrintMore
attribute [local go_sem] max2_int max_two

/-- What the law wants of one place: what the reference says there (LineBreak, LineOpen), and that the break is as it says, if it says anything. -/
def Told (A : Option Addr) (c : Nat) (p : List S64) (i : Int) (v : Int) : Prop := ∃ (b : Int) (o : Bool),
  (∀ w : World, Kd.C k64 w A p.length p → p.length ≤ c → Calls Try.prog 46 #[.slice A p.length c, .int .i64 i, .bool true] w fun e w' => e = .returned (.int .i64 b) ∧ Below w.heap.size w w') ∧
  (∀ w : World, Kd.C k64 w A p.length p → p.length ≤ c → Calls Try.prog 47 #[.slice A p.length c, .int .i64 i] w fun e w' => e = .returned (.bool o) ∧ Below w.heap.size w w') ∧ (o = false → v = b)

set_option maxHeartbeats 2000000 in
set_option maxRecDepth 100000 in
theorem ruled_calls (A1 : Option Addr) (c1 : Nat) (cs : List Int) (A2 : Option Addr) (c2 : Nat) (p : List S64) (w : World) (h1 : Kd.C (Kd.int .i64) w A1 cs.length cs) (h2 : Kd.C k64 w A2 p.length p) (hc2 : p.length ≤ c2) (hlen : cs.length = p.length - 1) (hp : p.length ≤ 60)
    (hT : ∀ j : Nat, j + 1 < p.length → Told A2 c2 p ((j : Int) + 1) (rd cs j)) :
    Calls Try.prog 19 #[.slice A1 cs.length c1, .slice A2 p.length c2] w fun e w' => e = .returned (.bool true) ∧ Below w.heap.size w w' := by
  have H1 := Aside0.mk h1
  have H2 := Aside0.mk h2
  have HC2 := Aside0.mk hc2
  have HLen := Aside0.mk hlen
  have HT := Aside0.mk hT
  clear h1 h2 hc2 hT hlen
  have hle : (cs.length : Int) ≤ 60 := by have := HLen.out; omega
  have hpl2 : (p.length : Int) ≤ 60 := by omega
  by_cases hp0 : p.length ≤ 1
  · have hm1 : (1 < (p.length : Int)) = False := by rw [eq_iff_iff, iff_false]; omega
    have hm2 : ((cs.length : Int) != 0) = false := by rw [bne_eq_false_iff_eq, HLen.out]; omega
    have hm4 : ((cs.length : Int) = 0) = True := by rw [eq_iff_iff, iff_true, HLen.out]; omega
    go_enter Try.func19, Try.ntmps19
    go_wp2_with fail
    go_loopw [16] (fun v wr => ∃ j : Nat, (j : Int) ≤ cs.length ∧ v = .int .i64 j ∧ Below w.heap.size w wr) (fun v _ => cs.length - (intOf v).toNat)
    case atStart => exact ⟨0, by omega, rfl, Below.refl _ _⟩
    case round =>
      obtain ⟨j, hj, rfl, hb⟩ := hrel
      have HB := Aside0.mk hb
      clear hb
      by_cases hjl : (j : Int) < cs.length
      · exfalso
        rw [HLen.out] at hjl
        omega
      · go_wp2
        go_ret
        exact ⟨rfl, HB.out⟩
  · have hm1 : (1 < (p.length : Int)) = True := by rw [eq_iff_iff, iff_true]; omega
    have hm2 : ((cs.length : Int) != (p.length : Int) - 1) = false := by rw [bne_eq_false_iff_eq, HLen.out]; omega
    have hm4 : ((cs.length : Int) = (p.length : Int) - 1) = True := by rw [eq_iff_iff, iff_true, HLen.out]; omega
    go_enter Try.func19, Try.ntmps19
    go_wp2_with fail
    go_loopw [16] (fun v wr => ∃ j : Nat, (j : Int) ≤ cs.length ∧ v = .int .i64 j ∧ Below w.heap.size w wr) (fun v _ => cs.length - (intOf v).toNat)
    case atStart => exact ⟨0, by omega, rfl, Below.refl _ _⟩
    case round =>
      obtain ⟨j, hj, rfl, hb⟩ := hrel
      have HB := Aside0.mk hb
      clear hb
      by_cases hjl : (j : Int) < cs.length
      · obtain ⟨ad, e, hx⟩ := Kd.at_int H1.out j (by omega) hjl
        cases e
        replace hx := (HB.out.cell (World.block_lt_of_cell? w _ hx)).trans hx
        rw [Int.toNat_natCast] at hx
        have hji : j + 1 < p.length := by rw [HLen.out] at hjl; omega
        obtain ⟨b, o, t1, t2, t3⟩ := HT.out j hji
        have T1 := Aside0.mk t1
        have T2 := Aside0.mk t2
        have T3 := Aside0.mk t3
        clear t1 t2 t3
        generalize rd cs (j : Int) = x at hx T3
        have e1 : IntKind.i64.wrap ((j : Int) + 1) = (j : Int) + 1 := by rw [i64_w]; unfold wrap64; omega
        go_wp2_with fail
        refine (T1.out _ (Kd.C_below H2.out HB.out) HC2.out).mono ?_
        rintro e w6 ⟨rfl, hb6⟩
        have HB6 := Aside0.mk (below_step HB.out hb6)
        clear hb6 HB hx
        by_cases hbx : x = b
        · subst hbx
          have hne : (x != x) = false := by rw [bne_eq_false_iff_eq]
          go_wp2_with fail
          go_roundw
          case rel => exact ⟨j + 1, by omega, by go_num, HB6.out⟩
          case measure => simp [intOf]; omega
        · have hne : (x != b) = true := by rw [bne_iff_ne]; exact hbx
          have ho : o = true := by
            cases ho : o with
            | true => rfl
            | false => exact absurd (T3.out ho) hbx
          subst ho
          go_wp2_with fail
          refine (T2.out _ (Kd.C_below H2.out HB6.out) HC2.out).mono ?_
          rintro e w7 ⟨rfl, hb7⟩
          have HB7 := Aside0.mk (below_step HB6.out hb7)
          clear hb7 HB6
          go_wp2_with fail
          go_roundw
          case rel => exact ⟨j + 1, by omega, by go_num, HB7.out⟩
          case measure => simp [intOf]; omega
      · go_wp2
        go_ret
        exact ⟨rfl, HB.out⟩

set_option maxHeartbeats 2000000 in
set_option maxRecDepth 100000 in
theorem law_calls (A : Option Addr) (c : Nat) (l : List Int) (w : World) (hr : Kd.C (Kd.int .u8) w A l.length l) (hc : l.length ≤ c) (k : Nat) (q : List S62) (p : List S64) (cs one : List Int) (hpts : laws_linePoints.f k l = some (q, p)) (hbrk : impl_LineBreaks.f k q = some cs) (hlen : cs.length = p.length - 1) (hp : p.length ≤ 60)
    (hone : impl_LineBreaks.f k [⟨0, 0, 0, 0⟩, ⟨0, 0, 0, 0⟩] = some one) (h1 : one.length = 1)
    (hT : ∀ (A2 : Option Addr) (c2 : Nat) (j : Nat), j + 1 < p.length → Told A2 c2 p ((j : Int) + 1) (rd cs j)) :
    Calls Try.prog 6 #[.slice A l.length c] w fun e w' => e = .returned (.bool true) ∧ Below w.heap.size w w' := by
  by_cases hbig : (2147483647 : Int) < l.length
  · go_enter Try.func6, Try.ntmps6
    go_wp2
    go_ret
    exact ⟨rfl, Below.refl _ _⟩
  · have HR := Aside0.mk hr
    have HC := Aside0.mk hc
    have HPts := Aside0.mk hpts
    have HBrk := Aside0.mk hbrk
    have HLen := Aside0.mk hlen
    have HPl := Aside0.mk hp
    have HOne := Aside0.mk hone
    have HOne1 := Aside0.mk h1
    have HT := Aside0.mk hT
    clear hr hc hpts hbrk hlen hp hone h1 hT
    go_enter Try.func6, Try.ntmps6
    go_wp2_with fail
    refine (laws_linePoints.calls k A c l q p w HR.out HC.out HPts.out).mono ?_
    rintro e w1 ⟨v1, v2, rfl, ho1, ho2, hb1⟩
    obtain ⟨A1, c1, rfl⟩ := Kd.R_slice ho1
    obtain ⟨A2, c2, rfl⟩ := Kd.R_slice ho2
    have HO1 := Aside0.mk ho1
    have HO2 := Aside0.mk ho2
    have HB1 := Aside0.mk hb1
    clear ho1 ho2 hb1
    go_wp2_with fail
    refine (impl_LineBreaks.calls k A1 c1 q cs w1 (Kd.R_reads' HO1.out).2.2 (Kd.R_reads' HO1.out).2.1 HBrk.out).mono ?_
    rintro e w2 ⟨v3, rfl, ho3, hb2⟩
    obtain ⟨A3, c3, rfl⟩ := Kd.R_slice ho3
    have HO3 := Aside0.mk ho3
    have HB2 := Aside0.mk (below_step HB1.out hb2)
    have HO22 := Aside0.mk (Kd.R_below HO2.out hb2)
    clear ho3 hb2 HO2
    go_wp2_with fail
    refine (ruled_calls A3 c3 cs A2 c2 p w2 (Kd.R_reads' HO3.out).2.2 (Kd.R_reads' HO22.out).2.2 (Kd.R_reads' HO22.out).2.1 HLen.out HPl.out (HT.out A2 c2)).mono ?_
    rintro e w3 ⟨rfl, hb3⟩
    have HB3 := Aside0.mk (below_step HB2.out hb3)
    clear hb3 HB2 HB1 HO1 HO3 HO22
    go_wp2_with (first | ((with_reducible refine gate_dst (N := 18) rfl ?_); (try (refine gate_guard (by rfl) ?_; dsimp only)); refine Kd.R_make k62 (w0 := w) w.heap.size 62 rfl (N := 18) rfl 34 _ _ rfl 2 rfl rfl Try.underlying34 (.agg #[.int .i64 0, .int .i64 0, .int .i64 0, .int .i64 0]) 32 info62 rfl (by decide) (by omega) (⟨0, 0, 0, 0⟩ : S62) (ok := fun _ => True) (okp := fun _ => True) ?hz (fun _ _ => trivial) trivial (by omega) (by decide) HB3.out (below_size HB3.out) ?_; (case hz => exact k62_mkM _ _ _ (⟨0, 0, 0, 0⟩ : S62)); intro v4 w4 ho4 hb4 hg_ hnew_; clear hg_ hnew_))
    obtain ⟨A4, c4, rfl⟩ := Kd.R_slice ho4
    refine (impl_LineBreaks.calls k A4 c4 [⟨0, 0, 0, 0⟩, ⟨0, 0, 0, 0⟩] one w4 (Kd.R_reads' ho4).2.2 (Kd.R_reads' ho4).2.1 HOne.out).mono ?_
    rintro e w5 ⟨v5, rfl, ho5, hb5⟩
    obtain ⟨A5, c5, rfl⟩ := Kd.R_slice ho5
    have HB5 := Aside0.mk (below_step hb4 hb5)
    rw [HOne1.out]
    clear ho5 hb5 ho4 hb4 HB3
    go_wp2_with fail
    go_ret
    exact ⟨rfl, HB5.out⟩
end Go.Proofs.Ytnanfoahimccpaa.Ln
