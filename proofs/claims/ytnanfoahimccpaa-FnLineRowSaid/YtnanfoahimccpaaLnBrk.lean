/- The walks of 'spec.LineBreak' and 'spec.LineOpen', over the walks of what they call. -/
import Derived.Test.YtnanfoahimccpaaLnAt
import Derived.Test.YtnanfoahimccpaaLnx3
import Derived.Test.YtnanfoahimccpaaLnx4
import Derived.Test.YtnanfoahimccpaaLnx5
import Derived.Test.YtnanfoahimccpaaLnx6
import Derived.Test.YtnanfoahimccpaaLnx7
import Derived.Test.YtnanfoahimccpaaLnx8
import Derived.Test.YtnanfoahimccpaaLnx9
import Derived.Test.YtnanfoahimccpaaLnx10
import Derived.Test.YtnanfoahimccpaaLnx11
import Derived.Test.YtnanfoahimccpaaLnx12
namespace Go.Proofs.Ytnanfoahimccpaa.Ln
open Go.RowKit Go.Proofs.YtnanfoahimccpaaW.PrintWords Go.Proofs.YtnanfoahimccpaaW.PrintLast Go.Proofs.YtnanfoahimccpaaW.PrintMore
set_option linter.unusedVariables false
set_option linter.unusedSimpArgs false

/-- What LineBreak makes of what it is told. -/
def brkB (g : Bool) (a b : Int) (n hy ha la : Bool) : Int :=
 if g then 0 else if a == 7 then 1 else if a == 38 || b == 38 then 0 else if a == 16 || b == 16 then 1 else if n || hy || ha || la then 0 else 1

set_option maxHeartbeats 4000000 in
set_option maxRecDepth 100000 in
theorem spec_LineBreak.said (k : Nat) (A : Option Addr) (c : Nat) (l : List S64) (i : Int) (nm : Bool) (v : Int) (w : World) (hr : Kd.C k64 w A l.length l) (hc : l.length ≤ c) (hn : spec_lbNear.f k l i = some (v, true)) :
  Calls Try.prog 46 #[.slice A l.length c, .int .i64 i, .bool nm] w fun e w' => e = .returned (.int .i64 v) ∧ Below w.heap.size w w' := by
 have HR := Aside0.mk hr
 have HC := Aside0.mk hc
 have HN := Aside0.mk hn
 clear hr hc hn
 go_enter Try.func46, Try.ntmps46
 go_wp2_with fail
 refine (spec_lbNear.calls k A c l i v true w HR.out HC.out HN.out).mono ?_
 rintro e w1 ⟨rfl, hb⟩
 go_wp2_with fail
 go_ret
 exact ⟨rfl, hb⟩

set_option maxHeartbeats 8000000 in
set_option maxRecDepth 100000 in
theorem spec_LineBreak.calls (k : Nat) (A : Option Addr) (c : Nat) (l : List S64) (i : Int) (nm : Bool) (v : Int) (row : List S64) (at_ a2 a b b2 so : Int) (g pr nu hy ha la n : Bool) (w : World) (hr : Kd.C k64 w A l.length l) (hc : l.length ≤ c) (hn : spec_lbNear.f k l i = some (v, false))
  (hrow : spec_lbRow.f k l i = some (row, at_)) (hat : spec_lbAt.f k row at_ = some (at_, a2, a, b, b2, so)) (hg : spec_lbGlue.f k row at_ a2 a b b2 so = some g) (hpr : spec_lbPairs.f k row at_ a2 a b b2 so = some pr) (hnu : spec_lbNumber.f k row at_ a2 a b b2 so = some nu)
  (hhy : spec_lbHyphens.f k row at_ a2 a b b2 so = some hy) (hha : spec_lbHangul.f k row at_ a2 a b b2 so = some ha) (hla : spec_lbLast.f k row at_ a2 a b b2 so = some la) (hnm : n = if nm then nu else pr) :
  Calls Try.prog 46 #[.slice A l.length c, .int .i64 i, .bool nm] w fun e w' => e = .returned (.int .i64 (brkB g a b n hy ha la)) ∧ Below w.heap.size w w' := by
 have hu74 := Try.underlying74
 have HR := Aside0.mk hr
 have HC := Aside0.mk hc
 have HN := Aside0.mk hn
 have HRo := Aside0.mk hrow
 have HAt := Aside0.mk hat
 have HG := Aside0.mk hg
 have HPr := Aside0.mk hpr
 have HNu := Aside0.mk hnu
 have HHy := Aside0.mk hhy
 have HHa := Aside0.mk hha
 have HLa := Aside0.mk hla
 have HNm := Aside0.mk hnm
 clear hr hc hn hrow hat hg hpr hnu hhy hha hla hnm
 go_enter Try.func46, Try.ntmps46
 go_wp2_with fail
 refine (spec_lbNear.calls k A c l i v false w HR.out HC.out HN.out).mono ?_
 rintro e w1 ⟨rfl, hb⟩
 have HB := Aside0.mk hb
 clear hb
 go_wp2_with fail
 refine (spec_lbRow.calls k A c l i row at_ w1 (Kd.C_below HR.out HB.out) HC.out HRo.out).mono ?_
 rintro e w2 ⟨v2, rfl, ho, hb⟩
 obtain ⟨Ar, cr, rfl⟩ := Kd.R_slice ho
 have HRow := Aside0.mk (Kd.R_lower ho (below_size HB.out))
 have HB2 := Aside0.mk (below_step HB.out hb)
 clear HB ho hb
 have HB := HB2
 clear HB2
 go_wp2_with fail
 refine (spec_lbAt.calls k Ar cr row at_ at_ a2 a b b2 so w2 (Kd.R_reads' HRow.out).2.2 (Kd.R_reads' HRow.out).2.1 HAt.out).mono ?_
 rintro e wa ⟨rfl, hb⟩
 have n0_ := Aside0.mk (below_step HB.out hb)
 have n1_ := Aside0.mk (Kd.R_below HRow.out hb)
 clear HB HRow hb
 have HB := n0_
 have HRow := n1_
 clear n0_ n1_
 go_upto_region 6 with (first | ((with_reducible refine gate_dst (N := 11) rfl ?_); refine box_event ?hg (N := 11) ?hd (cs := #[.slice none 0 0, .int .i64 0, .int .i64 0, .int .i64 0, .int .i64 0, .int .i64 0, .int .i64 0]) (t := 74) ?hr ?_; (case hd => rfl); (case hg => rfl); (case hr => first | (go_simp; done) | (go_simp; rfl)); intro gb hg w3 hbox hb; have n0_ := Aside0.mk (below_step HB.out hb); have n1_ := Aside0.mk hbox; have n2_ := Aside0.mk ((by rw [hg]; exact below_size HB.out : w.heap.size ≤ gb)); have n3_ := Aside0.mk (Kd.R_below HRow.out hb); clear HB HRow; have HB := n0_; have BK := n1_; have GE := n2_; have HRow := n3_; clear n0_ n1_ n2_ n3_; clear hb hbox hg; have hc0 := (blk_cell BK.out 0).trans rfl; have hf0 := blk_frozen BK.out 0; have hc1 := (blk_cell BK.out 1).trans rfl; have hf1 := blk_frozen BK.out 1; have hc2 := (blk_cell BK.out 2).trans rfl; have hf2 := blk_frozen BK.out 2; have hc3 := (blk_cell BK.out 3).trans rfl; have hf3 := blk_frozen BK.out 3; have hc4 := (blk_cell BK.out 4).trans rfl; have hf4 := blk_frozen BK.out 4; have hc5 := (blk_cell BK.out 5).trans rfl; have hf5 := blk_frozen BK.out 5; have hc6 := (blk_cell BK.out 6).trans rfl; have hf6 := blk_frozen BK.out 6))
 have n0_ : Aside0 (Kd.R k64 64 (((((((w3.setCell ⟨gb, 0, none⟩ (.slice Ar row.length cr)).setCell ⟨gb, 1, none⟩ (.int .i64 at_)).setCell ⟨gb, 2, none⟩ (.int .i64 a2)).setCell ⟨gb, 3, none⟩ (.int .i64 a)).setCell ⟨gb, 4, none⟩ (.int .i64 b)).setCell ⟨gb, 5, none⟩ (.int .i64 b2)).setCell ⟨gb, 6, none⟩ (.int .i64 so)) w.heap.size (fun _ => True) (.slice Ar row.length cr) row) := ⟨Kd.R_mono (Kd.R_far (p := ⟨gb, 6, none⟩) (Kd.R_far (p := ⟨gb, 5, none⟩) (Kd.R_far (p := ⟨gb, 4, none⟩) (Kd.R_far (p := ⟨gb, 3, none⟩) (Kd.R_far (p := ⟨gb, 2, none⟩) (Kd.R_far (p := ⟨gb, 1, none⟩) (Kd.R_far (p := ⟨gb, 0, none⟩) (Kd.R_types HRow.out BK.out (by decide)) (fun _ hk => hk.2) _) (fun _ hk => hk.2) _) (fun _ hk => hk.2) _) (fun _ hk => hk.2) _) (fun _ hk => hk.2) _) (fun _ hk => hk.2) _) (fun _ hk => hk.2) _) (fun _ _ => trivial)⟩
 have n1_ : Aside0 ((((((((w3.setCell ⟨gb, 0, none⟩ (.slice Ar row.length cr)).setCell ⟨gb, 1, none⟩ (.int .i64 at_)).setCell ⟨gb, 2, none⟩ (.int .i64 a2)).setCell ⟨gb, 3, none⟩ (.int .i64 a)).setCell ⟨gb, 4, none⟩ (.int .i64 b)).setCell ⟨gb, 5, none⟩ (.int .i64 b2)).setCell ⟨gb, 6, none⟩ (.int .i64 so)).heap[gb]? = some (.cells #[.slice Ar row.length cr, .int .i64 at_, .int .i64 a2, .int .i64 a, .int .i64 b, .int .i64 b2, .int .i64 so] 74 (0, 0))) := ⟨by refine blk_put (cs := #[.slice Ar row.length cr, .int .i64 at_, .int .i64 a2, .int .i64 a, .int .i64 b, .int .i64 b2, .int .i64 0]) ?_ 6 _ rfl; refine blk_put (cs := #[.slice Ar row.length cr, .int .i64 at_, .int .i64 a2, .int .i64 a, .int .i64 b, .int .i64 0, .int .i64 0]) ?_ 5 _ rfl; refine blk_put (cs := #[.slice Ar row.length cr, .int .i64 at_, .int .i64 a2, .int .i64 a, .int .i64 0, .int .i64 0, .int .i64 0]) ?_ 4 _ rfl; refine blk_put (cs := #[.slice Ar row.length cr, .int .i64 at_, .int .i64 a2, .int .i64 0, .int .i64 0, .int .i64 0, .int .i64 0]) ?_ 3 _ rfl; refine blk_put (cs := #[.slice Ar row.length cr, .int .i64 at_, .int .i64 0, .int .i64 0, .int .i64 0, .int .i64 0, .int .i64 0]) ?_ 2 _ rfl; refine blk_put (cs := #[.slice Ar row.length cr, .int .i64 0, .int .i64 0, .int .i64 0, .int .i64 0, .int .i64 0, .int .i64 0]) ?_ 1 _ rfl; refine blk_put (cs := #[.slice none 0 0, .int .i64 0, .int .i64 0, .int .i64 0, .int .i64 0, .int .i64 0, .int .i64 0]) ?_ 0 _ rfl; exact BK.out⟩
 have n2_ : Aside0 (Below w.heap.size w (((((((w3.setCell ⟨gb, 0, none⟩ (.slice Ar row.length cr)).setCell ⟨gb, 1, none⟩ (.int .i64 at_)).setCell ⟨gb, 2, none⟩ (.int .i64 a2)).setCell ⟨gb, 3, none⟩ (.int .i64 a)).setCell ⟨gb, 4, none⟩ (.int .i64 b)).setCell ⟨gb, 5, none⟩ (.int .i64 b2)).setCell ⟨gb, 6, none⟩ (.int .i64 so))) := ⟨by repeat (first | refine below_set ?_ GE.out | exact HB.out)⟩
 clear HB BK HRow hc0 hc1 hc2 hc3 hc4 hc5 hc6 hf0 hf1 hf2 hf3 hf4 hf5 hf6
 generalize (((((((w3.setCell ⟨gb, 0, none⟩ (.slice Ar row.length cr)).setCell ⟨gb, 1, none⟩ (.int .i64 at_)).setCell ⟨gb, 2, none⟩ (.int .i64 a2)).setCell ⟨gb, 3, none⟩ (.int .i64 a)).setCell ⟨gb, 4, none⟩ (.int .i64 b)).setCell ⟨gb, 5, none⟩ (.int .i64 b2)).setCell ⟨gb, 6, none⟩ (.int .i64 so)) = w4 at n0_ n1_ n2_ ⊢
 have HRow := n0_
 have BK := n1_
 have HB := n2_
 clear n0_ n1_ n2_
 have hc0 := (blk_cell BK.out 0).trans rfl
 have hc1 := (blk_cell BK.out 1).trans rfl
 have hc2 := (blk_cell BK.out 2).trans rfl
 have hc3 := (blk_cell BK.out 3).trans rfl
 have hc4 := (blk_cell BK.out 4).trans rfl
 have hc5 := (blk_cell BK.out 5).trans rfl
 have hc6 := (blk_cell BK.out 6).trans rfl
 go_wp2_with fail
 refine (spec_lbGlue.calls k Ar cr row at_ a2 a b b2 so g _ (Kd.R_reads' HRow.out).2.2 (Kd.R_reads' HRow.out).2.1 HG.out).mono ?_
 rintro e w5 ⟨rfl, hb⟩
 have n0_ := Aside0.mk (below_step HB.out hb)
 have n1_ := Aside0.mk (blk_below BK.out hb)
 have n2_ := Aside0.mk (Kd.R_below HRow.out hb)
 clear HB BK HRow hc0 hc1 hc2 hc3 hc4 hc5 hc6 hb
 have HB := n0_
 have BK := n1_
 have HRow := n2_
 clear n0_ n1_ n2_
 have hc0 := (blk_cell BK.out 0).trans rfl
 have hc1 := (blk_cell BK.out 1).trans rfl
 have hc2 := (blk_cell BK.out 2).trans rfl
 have hc3 := (blk_cell BK.out 3).trans rfl
 have hc4 := (blk_cell BK.out 4).trans rfl
 have hc5 := (blk_cell BK.out 5).trans rfl
 have hc6 := (blk_cell BK.out 6).trans rfl
 cases g with
 | true =>
  go_wp2_with fail
  go_ret
  exact ⟨by first | rfl | (simp [brkB, *] <;> rfl), HB.out⟩
 | false =>
  cases h7 : (a == 7) with
  | true =>
   go_wp2_with fail
   go_ret
   exact ⟨by first | rfl | (simp [brkB, *] <;> rfl), HB.out⟩
  | false =>
   cases h38 : (a == 38) with
   | true =>
    go_wp2_with fail
    go_ret
    exact ⟨by first | rfl | (simp [brkB, *] <;> rfl), HB.out⟩
   | false =>
    cases h38b : (b == 38) with
    | true =>
     go_wp2_with fail
     go_ret
     exact ⟨by first | rfl | (simp [brkB, *] <;> rfl), HB.out⟩
    | false =>
     cases h16 : (a == 16) with
     | true =>
      go_wp2_with fail
      go_ret
      exact ⟨by first | rfl | (simp [brkB, *] <;> rfl), HB.out⟩
     | false =>
      cases h16b : (b == 16) with
      | true =>
       go_wp2_with fail
       go_ret
       exact ⟨by first | rfl | (simp [brkB, *] <;> rfl), HB.out⟩
      | false =>
       go_wp2_with fail
       refine (spec_lbPairs.calls k Ar cr row at_ a2 a b b2 so pr _ (Kd.R_reads' HRow.out).2.2 (Kd.R_reads' HRow.out).2.1 HPr.out).mono ?_
       rintro e w6 ⟨rfl, hb⟩
       have n0_ := Aside0.mk (below_step HB.out hb)
       have n1_ := Aside0.mk (blk_below BK.out hb)
       have n2_ := Aside0.mk (Kd.R_below HRow.out hb)
       clear HB BK HRow hc0 hc1 hc2 hc3 hc4 hc5 hc6 hb
       have HB := n0_
       have BK := n1_
       have HRow := n2_
       clear n0_ n1_ n2_
       have hc0 := (blk_cell BK.out 0).trans rfl
       have hc1 := (blk_cell BK.out 1).trans rfl
       have hc2 := (blk_cell BK.out 2).trans rfl
       have hc3 := (blk_cell BK.out 3).trans rfl
       have hc4 := (blk_cell BK.out 4).trans rfl
       have hc5 := (blk_cell BK.out 5).trans rfl
       have hc6 := (blk_cell BK.out 6).trans rfl
       cases nm with
       | true =>
        obtain rfl : n = nu := by simpa using HNm.out
        go_wp2_with fail
        refine (spec_lbNumber.calls k Ar cr row at_ a2 a b b2 so n _ (Kd.R_reads' HRow.out).2.2 (Kd.R_reads' HRow.out).2.1 HNu.out).mono ?_
        rintro e w7 ⟨rfl, hb⟩
        have n0_ := Aside0.mk (below_step HB.out hb)
        have n1_ := Aside0.mk (blk_below BK.out hb)
        have n2_ := Aside0.mk (Kd.R_below HRow.out hb)
        clear HB BK HRow hc0 hc1 hc2 hc3 hc4 hc5 hc6 hb
        have HB := n0_
        have BK := n1_
        have HRow := n2_
        clear n0_ n1_ n2_
        have hc0 := (blk_cell BK.out 0).trans rfl
        have hc1 := (blk_cell BK.out 1).trans rfl
        have hc2 := (blk_cell BK.out 2).trans rfl
        have hc3 := (blk_cell BK.out 3).trans rfl
        have hc4 := (blk_cell BK.out 4).trans rfl
        have hc5 := (blk_cell BK.out 5).trans rfl
        have hc6 := (blk_cell BK.out 6).trans rfl
        cases n with
        | true =>
         go_wp2_with fail
         go_ret
         exact ⟨by first | rfl | (simp [brkB, *] <;> rfl), HB.out⟩
        | false =>
         go_wp2_with fail
         refine (spec_lbHyphens.calls k Ar cr row at_ a2 a b b2 so hy _ (Kd.R_reads' HRow.out).2.2 (Kd.R_reads' HRow.out).2.1 HHy.out).mono ?_
         rintro e w8 ⟨rfl, hb⟩
         have n0_ := Aside0.mk (below_step HB.out hb)
         have n1_ := Aside0.mk (blk_below BK.out hb)
         have n2_ := Aside0.mk (Kd.R_below HRow.out hb)
         clear HB BK HRow hc0 hc1 hc2 hc3 hc4 hc5 hc6 hb
         have HB := n0_
         have BK := n1_
         have HRow := n2_
         clear n0_ n1_ n2_
         have hc0 := (blk_cell BK.out 0).trans rfl
         have hc1 := (blk_cell BK.out 1).trans rfl
         have hc2 := (blk_cell BK.out 2).trans rfl
         have hc3 := (blk_cell BK.out 3).trans rfl
         have hc4 := (blk_cell BK.out 4).trans rfl
         have hc5 := (blk_cell BK.out 5).trans rfl
         have hc6 := (blk_cell BK.out 6).trans rfl
         cases hy with
         | true =>
          go_wp2_with fail
          go_ret
          exact ⟨by first | rfl | (simp [brkB, *] <;> rfl), HB.out⟩
         | false =>
          go_wp2_with fail
          refine (spec_lbHangul.calls k Ar cr row at_ a2 a b b2 so ha _ (Kd.R_reads' HRow.out).2.2 (Kd.R_reads' HRow.out).2.1 HHa.out).mono ?_
          rintro e w9 ⟨rfl, hb⟩
          have n0_ := Aside0.mk (below_step HB.out hb)
          have n1_ := Aside0.mk (blk_below BK.out hb)
          have n2_ := Aside0.mk (Kd.R_below HRow.out hb)
          clear HB BK HRow hc0 hc1 hc2 hc3 hc4 hc5 hc6 hb
          have HB := n0_
          have BK := n1_
          have HRow := n2_
          clear n0_ n1_ n2_
          have hc0 := (blk_cell BK.out 0).trans rfl
          have hc1 := (blk_cell BK.out 1).trans rfl
          have hc2 := (blk_cell BK.out 2).trans rfl
          have hc3 := (blk_cell BK.out 3).trans rfl
          have hc4 := (blk_cell BK.out 4).trans rfl
          have hc5 := (blk_cell BK.out 5).trans rfl
          have hc6 := (blk_cell BK.out 6).trans rfl
          cases ha with
          | true =>
           go_wp2_with fail
           go_ret
           exact ⟨by first | rfl | (simp [brkB, *] <;> rfl), HB.out⟩
          | false =>
           go_wp2_with fail
           refine (spec_lbLast.calls k Ar cr row at_ a2 a b b2 so la _ (Kd.R_reads' HRow.out).2.2 (Kd.R_reads' HRow.out).2.1 HLa.out).mono ?_
           rintro e w10 ⟨rfl, hb⟩
           have n0_ := Aside0.mk (below_step HB.out hb)
           have n1_ := Aside0.mk (blk_below BK.out hb)
           have n2_ := Aside0.mk (Kd.R_below HRow.out hb)
           clear HB BK HRow hc0 hc1 hc2 hc3 hc4 hc5 hc6 hb
           have HB := n0_
           have BK := n1_
           have HRow := n2_
           clear n0_ n1_ n2_
           have hc0 := (blk_cell BK.out 0).trans rfl
           have hc1 := (blk_cell BK.out 1).trans rfl
           have hc2 := (blk_cell BK.out 2).trans rfl
           have hc3 := (blk_cell BK.out 3).trans rfl
           have hc4 := (blk_cell BK.out 4).trans rfl
           have hc5 := (blk_cell BK.out 5).trans rfl
           have hc6 := (blk_cell BK.out 6).trans rfl
           cases la with
           | true =>
            go_wp2_with fail
            go_ret
            exact ⟨by first | rfl | (simp [brkB, *] <;> rfl), HB.out⟩
           | false =>
            go_wp2_with fail
            go_ret
            exact ⟨by first | rfl | (simp [brkB, *] <;> rfl), HB.out⟩
       | false =>
        obtain rfl : n = pr := by simpa using HNm.out
        cases n with
        | true =>
         go_wp2_with fail
         go_ret
         exact ⟨by first | rfl | (simp [brkB, *] <;> rfl), HB.out⟩
        | false =>
         go_wp2_with fail
         refine (spec_lbHyphens.calls k Ar cr row at_ a2 a b b2 so hy _ (Kd.R_reads' HRow.out).2.2 (Kd.R_reads' HRow.out).2.1 HHy.out).mono ?_
         rintro e w8 ⟨rfl, hb⟩
         have n0_ := Aside0.mk (below_step HB.out hb)
         have n1_ := Aside0.mk (blk_below BK.out hb)
         have n2_ := Aside0.mk (Kd.R_below HRow.out hb)
         clear HB BK HRow hc0 hc1 hc2 hc3 hc4 hc5 hc6 hb
         have HB := n0_
         have BK := n1_
         have HRow := n2_
         clear n0_ n1_ n2_
         have hc0 := (blk_cell BK.out 0).trans rfl
         have hc1 := (blk_cell BK.out 1).trans rfl
         have hc2 := (blk_cell BK.out 2).trans rfl
         have hc3 := (blk_cell BK.out 3).trans rfl
         have hc4 := (blk_cell BK.out 4).trans rfl
         have hc5 := (blk_cell BK.out 5).trans rfl
         have hc6 := (blk_cell BK.out 6).trans rfl
         cases hy with
         | true =>
          go_wp2_with fail
          go_ret
          exact ⟨by first | rfl | (simp [brkB, *] <;> rfl), HB.out⟩
         | false =>
          go_wp2_with fail
          refine (spec_lbHangul.calls k Ar cr row at_ a2 a b b2 so ha _ (Kd.R_reads' HRow.out).2.2 (Kd.R_reads' HRow.out).2.1 HHa.out).mono ?_
          rintro e w9 ⟨rfl, hb⟩
          have n0_ := Aside0.mk (below_step HB.out hb)
          have n1_ := Aside0.mk (blk_below BK.out hb)
          have n2_ := Aside0.mk (Kd.R_below HRow.out hb)
          clear HB BK HRow hc0 hc1 hc2 hc3 hc4 hc5 hc6 hb
          have HB := n0_
          have BK := n1_
          have HRow := n2_
          clear n0_ n1_ n2_
          have hc0 := (blk_cell BK.out 0).trans rfl
          have hc1 := (blk_cell BK.out 1).trans rfl
          have hc2 := (blk_cell BK.out 2).trans rfl
          have hc3 := (blk_cell BK.out 3).trans rfl
          have hc4 := (blk_cell BK.out 4).trans rfl
          have hc5 := (blk_cell BK.out 5).trans rfl
          have hc6 := (blk_cell BK.out 6).trans rfl
          cases ha with
          | true =>
           go_wp2_with fail
           go_ret
           exact ⟨by first | rfl | (simp [brkB, *] <;> rfl), HB.out⟩
          | false =>
           go_wp2_with fail
           refine (spec_lbLast.calls k Ar cr row at_ a2 a b b2 so la _ (Kd.R_reads' HRow.out).2.2 (Kd.R_reads' HRow.out).2.1 HLa.out).mono ?_
           rintro e w10 ⟨rfl, hb⟩
           have n0_ := Aside0.mk (below_step HB.out hb)
           have n1_ := Aside0.mk (blk_below BK.out hb)
           have n2_ := Aside0.mk (Kd.R_below HRow.out hb)
           clear HB BK HRow hc0 hc1 hc2 hc3 hc4 hc5 hc6 hb
           have HB := n0_
           have BK := n1_
           have HRow := n2_
           clear n0_ n1_ n2_
           have hc0 := (blk_cell BK.out 0).trans rfl
           have hc1 := (blk_cell BK.out 1).trans rfl
           have hc2 := (blk_cell BK.out 2).trans rfl
           have hc3 := (blk_cell BK.out 3).trans rfl
           have hc4 := (blk_cell BK.out 4).trans rfl
           have hc5 := (blk_cell BK.out 5).trans rfl
           have hc6 := (blk_cell BK.out 6).trans rfl
           cases la with
           | true =>
            go_wp2_with fail
            go_ret
            exact ⟨by first | rfl | (simp [brkB, *] <;> rfl), HB.out⟩
           | false =>
            go_wp2_with fail
            go_ret
            exact ⟨by first | rfl | (simp [brkB, *] <;> rfl), HB.out⟩

/-- What LineOpen makes of what it is told. -/
def opnB (im si lo sp ma cp mk : Bool) (v1 v2 : Int) : Bool := if im || si || lo || sp || ma || (cp && mk) then true else v1 != v2

set_option maxHeartbeats 8000000 in
set_option maxRecDepth 100000 in
theorem spec_LineOpen.calls (k : Nat) (A : Option Addr) (c : Nat) (l : List S64) (i j : Int) (row : List S64) (at_ a2 a b b2 so rk : Int) (im si lo sp ma cp mk : Bool) (bv : Bool → Int) (o : Bool) (w : World) (hr : Kd.C k64 w A l.length l) (hc : l.length ≤ c)
  (hj : wrap64 (i - 1) = j) (hj0 : 0 ≤ j) (hj1 : j < (l.length : Int))
  (hrow : spec_lbRow.f k l i = some (row, at_)) (hat : spec_lbAt.f k row at_ = some (at_, a2, a, b, b2, so)) (him : spec_lbImages.f k row at_ a2 a b b2 so = some im) (hsi : spec_lbSigned.f k row at_ a2 a b b2 so = some si)
  (hlo : spec_lbLoose.f k l i = some lo) (hsp : spec_lbSpaced.f k row at_ a2 a b b2 so = some sp) (hma : spec_lbMarked.f k row at_ a2 a b b2 so l i = some ma) (hcp : (a == 19) = cp)
  (hrk : spec_lbResolved.f k ((rd_T64 l j).f0) ((rd_T64 l j).f1) ((rd_T64 l j).f2) ((rd_T64 l j).f3) = some rk) (hmk : spec_lbMark.f k rk = some mk)
  (hB : ∀ (nm : Bool) (w1 : World), Kd.C k64 w1 A l.length l → Calls Try.prog 46 #[.slice A l.length c, .int .i64 i, .bool nm] w1 fun e w' => e = .returned (.int .i64 (bv nm)) ∧ Below w1.heap.size w1 w')
  (ho : opnB im si lo sp ma cp mk (bv false) (bv true) = o) :
  Calls Try.prog 47 #[.slice A l.length c, .int .i64 i] w fun e w' => e = .returned (.bool o) ∧ Below w.heap.size w w' := by
 have hu74 := Try.underlying74
 have hu64 := Try.underlying64
 obtain ⟨ad, e_, hx0, hx1, hx2, hx3⟩ := at_T64 hr j hj0 hj1
 cases e_
 have HX0 := Aside0.mk hx0
 have HX1 := Aside0.mk hx1
 have HX2 := Aside0.mk hx2
 have HX3 := Aside0.mk hx3
 have HR := Aside0.mk hr
 have HC := Aside0.mk hc
 have HRo := Aside0.mk hrow
 have HAt := Aside0.mk hat
 have HIm := Aside0.mk him
 have HSi := Aside0.mk hsi
 have HLo := Aside0.mk hlo
 have HSp := Aside0.mk hsp
 have HMa := Aside0.mk hma
 have HRk := Aside0.mk hrk
 have HMk := Aside0.mk hmk
 have HBr := Aside0.mk hB
 have HO := Aside0.mk ho
 have HJ0 := Aside0.mk (eq_true hj0)
 have HJ1 := Aside0.mk (eq_true hj1)
 have HJ := Aside0.mk ((i64_w _).trans hj)
 have HB := Aside0.mk (Below.refl w.heap.size w)
 clear hr hc hrow hat him hsi hlo hsp hma hrk hmk hB ho hj hj0 hj1 hx0 hx1 hx2 hx3
 go_enter Try.func47, Try.ntmps47
 go_wp2_with fail
 refine (spec_lbRow.calls k (some ad) c l i row at_ w (Kd.C_below HR.out HB.out) HC.out HRo.out).mono ?_
 rintro e w2 ⟨v2, rfl, ho, hb⟩
 obtain ⟨Ar, cr, rfl⟩ := Kd.R_slice ho
 have HRow := Aside0.mk (Kd.R_lower ho (below_size HB.out))
 have HB2 := Aside0.mk (below_step HB.out hb)
 clear HB ho hb
 have HB := HB2
 clear HB2
 go_wp2_with fail
 refine (spec_lbAt.calls k Ar cr row at_ at_ a2 a b b2 so w2 (Kd.R_reads' HRow.out).2.2 (Kd.R_reads' HRow.out).2.1 HAt.out).mono ?_
 rintro e wa ⟨rfl, hb⟩
 have n0_ := Aside0.mk (below_step HB.out hb)
 have n1_ := Aside0.mk (Kd.R_below HRow.out hb)
 clear HB HRow hb
 have HB := n0_
 have HRow := n1_
 clear n0_ n1_
 go_upto_region 3 with (first | ((with_reducible refine gate_dst (N := 7) rfl ?_); refine box_event ?hg (N := 7) ?hd (cs := #[.slice none 0 0, .int .i64 0, .int .i64 0, .int .i64 0, .int .i64 0, .int .i64 0, .int .i64 0]) (t := 74) ?hr ?_; (case hd => rfl); (case hg => rfl); (case hr => first | (go_simp; done) | (go_simp; rfl)); intro gb hg w3 hbox hb; have n0_ := Aside0.mk (below_step HB.out hb); have n1_ := Aside0.mk hbox; have n2_ := Aside0.mk ((by rw [hg]; exact below_size HB.out : w.heap.size ≤ gb)); have n3_ := Aside0.mk (Kd.R_below HRow.out hb); clear HB HRow; have HB := n0_; have BK := n1_; have GE := n2_; have HRow := n3_; clear n0_ n1_ n2_ n3_; clear hb hbox hg; have hc0 := (blk_cell BK.out 0).trans rfl; have hf0 := blk_frozen BK.out 0; have hc1 := (blk_cell BK.out 1).trans rfl; have hf1 := blk_frozen BK.out 1; have hc2 := (blk_cell BK.out 2).trans rfl; have hf2 := blk_frozen BK.out 2; have hc3 := (blk_cell BK.out 3).trans rfl; have hf3 := blk_frozen BK.out 3; have hc4 := (blk_cell BK.out 4).trans rfl; have hf4 := blk_frozen BK.out 4; have hc5 := (blk_cell BK.out 5).trans rfl; have hf5 := blk_frozen BK.out 5; have hc6 := (blk_cell BK.out 6).trans rfl; have hf6 := blk_frozen BK.out 6))

 have n0_ : Aside0 (Kd.R k64 64 (((((((w3.setCell ⟨gb, 0, none⟩ (.slice Ar row.length cr)).setCell ⟨gb, 1, none⟩ (.int .i64 at_)).setCell ⟨gb, 2, none⟩ (.int .i64 a2)).setCell ⟨gb, 3, none⟩ (.int .i64 a)).setCell ⟨gb, 4, none⟩ (.int .i64 b)).setCell ⟨gb, 5, none⟩ (.int .i64 b2)).setCell ⟨gb, 6, none⟩ (.int .i64 so)) w.heap.size (fun _ => True) (.slice Ar row.length cr) row) := ⟨Kd.R_mono (Kd.R_far (p := ⟨gb, 6, none⟩) (Kd.R_far (p := ⟨gb, 5, none⟩) (Kd.R_far (p := ⟨gb, 4, none⟩) (Kd.R_far (p := ⟨gb, 3, none⟩) (Kd.R_far (p := ⟨gb, 2, none⟩) (Kd.R_far (p := ⟨gb, 1, none⟩) (Kd.R_far (p := ⟨gb, 0, none⟩) (Kd.R_types HRow.out BK.out (by decide)) (fun _ hk => hk.2) _) (fun _ hk => hk.2) _) (fun _ hk => hk.2) _) (fun _ hk => hk.2) _) (fun _ hk => hk.2) _) (fun _ hk => hk.2) _) (fun _ hk => hk.2) _) (fun _ _ => trivial)⟩
 have n1_ : Aside0 ((((((((w3.setCell ⟨gb, 0, none⟩ (.slice Ar row.length cr)).setCell ⟨gb, 1, none⟩ (.int .i64 at_)).setCell ⟨gb, 2, none⟩ (.int .i64 a2)).setCell ⟨gb, 3, none⟩ (.int .i64 a)).setCell ⟨gb, 4, none⟩ (.int .i64 b)).setCell ⟨gb, 5, none⟩ (.int .i64 b2)).setCell ⟨gb, 6, none⟩ (.int .i64 so)).heap[gb]? = some (.cells #[.slice Ar row.length cr, .int .i64 at_, .int .i64 a2, .int .i64 a, .int .i64 b, .int .i64 b2, .int .i64 so] 74 (0, 0))) := ⟨by refine blk_put (cs := #[.slice Ar row.length cr, .int .i64 at_, .int .i64 a2, .int .i64 a, .int .i64 b, .int .i64 b2, .int .i64 0]) ?_ 6 _ rfl; refine blk_put (cs := #[.slice Ar row.length cr, .int .i64 at_, .int .i64 a2, .int .i64 a, .int .i64 b, .int .i64 0, .int .i64 0]) ?_ 5 _ rfl; refine blk_put (cs := #[.slice Ar row.length cr, .int .i64 at_, .int .i64 a2, .int .i64 a, .int .i64 0, .int .i64 0, .int .i64 0]) ?_ 4 _ rfl; refine blk_put (cs := #[.slice Ar row.length cr, .int .i64 at_, .int .i64 a2, .int .i64 0, .int .i64 0, .int .i64 0, .int .i64 0]) ?_ 3 _ rfl; refine blk_put (cs := #[.slice Ar row.length cr, .int .i64 at_, .int .i64 0, .int .i64 0, .int .i64 0, .int .i64 0, .int .i64 0]) ?_ 2 _ rfl; refine blk_put (cs := #[.slice Ar row.length cr, .int .i64 0, .int .i64 0, .int .i64 0, .int .i64 0, .int .i64 0, .int .i64 0]) ?_ 1 _ rfl; refine blk_put (cs := #[.slice none 0 0, .int .i64 0, .int .i64 0, .int .i64 0, .int .i64 0, .int .i64 0, .int .i64 0]) ?_ 0 _ rfl; exact BK.out⟩
 have n2_ : Aside0 (Below w.heap.size w (((((((w3.setCell ⟨gb, 0, none⟩ (.slice Ar row.length cr)).setCell ⟨gb, 1, none⟩ (.int .i64 at_)).setCell ⟨gb, 2, none⟩ (.int .i64 a2)).setCell ⟨gb, 3, none⟩ (.int .i64 a)).setCell ⟨gb, 4, none⟩ (.int .i64 b)).setCell ⟨gb, 5, none⟩ (.int .i64 b2)).setCell ⟨gb, 6, none⟩ (.int .i64 so))) := ⟨by repeat (first | refine below_set ?_ GE.out | exact HB.out)⟩
 clear HB BK HRow hc0 hc1 hc2 hc3 hc4 hc5 hc6 hf0 hf1 hf2 hf3 hf4 hf5 hf6
 generalize (((((((w3.setCell ⟨gb, 0, none⟩ (.slice Ar row.length cr)).setCell ⟨gb, 1, none⟩ (.int .i64 at_)).setCell ⟨gb, 2, none⟩ (.int .i64 a2)).setCell ⟨gb, 3, none⟩ (.int .i64 a)).setCell ⟨gb, 4, none⟩ (.int .i64 b)).setCell ⟨gb, 5, none⟩ (.int .i64 b2)).setCell ⟨gb, 6, none⟩ (.int .i64 so)) = w4 at n0_ n1_ n2_ ⊢
 have HRow := n0_
 have BK := n1_
 have HB := n2_
 clear n0_ n1_ n2_
 have hc0 := (blk_cell BK.out 0).trans rfl
 have hc1 := (blk_cell BK.out 1).trans rfl
 have hc2 := (blk_cell BK.out 2).trans rfl
 have hc3 := (blk_cell BK.out 3).trans rfl
 have hc4 := (blk_cell BK.out 4).trans rfl
 have hc5 := (blk_cell BK.out 5).trans rfl
 have hc6 := (blk_cell BK.out 6).trans rfl
 go_wp2_with fail
 refine (spec_lbImages.calls k Ar cr row at_ a2 a b b2 so im _ (Kd.R_reads' HRow.out).2.2 (Kd.R_reads' HRow.out).2.1 HIm.out).mono ?_
 rintro e w5 ⟨rfl, hb⟩
 have n0_ := Aside0.mk (below_step HB.out hb)
 have n1_ := Aside0.mk (blk_below BK.out hb)
 have n2_ := Aside0.mk (Kd.R_below HRow.out hb)
 clear HB BK HRow hc0 hc1 hc2 hc3 hc4 hc5 hc6 hb
 have HB := n0_
 have BK := n1_
 have HRow := n2_
 clear n0_ n1_ n2_
 have hc0 := (blk_cell BK.out 0).trans rfl
 have hc1 := (blk_cell BK.out 1).trans rfl
 have hc2 := (blk_cell BK.out 2).trans rfl
 have hc3 := (blk_cell BK.out 3).trans rfl
 have hc4 := (blk_cell BK.out 4).trans rfl
 have hc5 := (blk_cell BK.out 5).trans rfl
 have hc6 := (blk_cell BK.out 6).trans rfl
 cases im with
 | true =>
  obtain rfl : o = true := by rw [← HO.out]; simp [opnB]
  go_wp2_with fail
  go_ret
  exact ⟨rfl, HB.out⟩
 | false =>
  go_wp2_with fail
  refine (spec_lbSigned.calls k Ar cr row at_ a2 a b b2 so si _ (Kd.R_reads' HRow.out).2.2 (Kd.R_reads' HRow.out).2.1 HSi.out).mono ?_
  rintro e w6 ⟨rfl, hb⟩
  have n0_ := Aside0.mk (below_step HB.out hb)
  have n1_ := Aside0.mk (blk_below BK.out hb)
  have n2_ := Aside0.mk (Kd.R_below HRow.out hb)
  clear HB BK HRow hc0 hc1 hc2 hc3 hc4 hc5 hc6 hb
  have HB := n0_
  have BK := n1_
  have HRow := n2_
  clear n0_ n1_ n2_
  have hc0 := (blk_cell BK.out 0).trans rfl
  have hc1 := (blk_cell BK.out 1).trans rfl
  have hc2 := (blk_cell BK.out 2).trans rfl
  have hc3 := (blk_cell BK.out 3).trans rfl
  have hc4 := (blk_cell BK.out 4).trans rfl
  have hc5 := (blk_cell BK.out 5).trans rfl
  have hc6 := (blk_cell BK.out 6).trans rfl
  cases si with
  | true =>
   obtain rfl : o = true := by rw [← HO.out]; simp [opnB]
   go_wp2_with fail
   go_ret
   exact ⟨rfl, HB.out⟩
  | false =>
   go_wp2_with fail
   refine (spec_lbLoose.calls k (some ad) c l i lo _ (Kd.C_below HR.out HB.out) HC.out HLo.out).mono ?_
   rintro e w7 ⟨rfl, hb⟩
   have n0_ := Aside0.mk (below_step HB.out hb)
   have n1_ := Aside0.mk (blk_below BK.out hb)
   have n2_ := Aside0.mk (Kd.R_below HRow.out hb)
   clear HB BK HRow hc0 hc1 hc2 hc3 hc4 hc5 hc6 hb
   have HB := n0_
   have BK := n1_
   have HRow := n2_
   clear n0_ n1_ n2_
   have hc0 := (blk_cell BK.out 0).trans rfl
   have hc1 := (blk_cell BK.out 1).trans rfl
   have hc2 := (blk_cell BK.out 2).trans rfl
   have hc3 := (blk_cell BK.out 3).trans rfl
   have hc4 := (blk_cell BK.out 4).trans rfl
   have hc5 := (blk_cell BK.out 5).trans rfl
   have hc6 := (blk_cell BK.out 6).trans rfl
   cases lo with
   | true =>
    obtain rfl : o = true := by rw [← HO.out]; simp [opnB]
    go_wp2_with fail
    go_ret
    exact ⟨rfl, HB.out⟩
   | false =>
    go_wp2_with fail
    refine (spec_lbSpaced.calls k Ar cr row at_ a2 a b b2 so sp _ (Kd.R_reads' HRow.out).2.2 (Kd.R_reads' HRow.out).2.1 HSp.out).mono ?_
    rintro e w8 ⟨rfl, hb⟩
    have n0_ := Aside0.mk (below_step HB.out hb)
    have n1_ := Aside0.mk (blk_below BK.out hb)
    have n2_ := Aside0.mk (Kd.R_below HRow.out hb)
    clear HB BK HRow hc0 hc1 hc2 hc3 hc4 hc5 hc6 hb
    have HB := n0_
    have BK := n1_
    have HRow := n2_
    clear n0_ n1_ n2_
    have hc0 := (blk_cell BK.out 0).trans rfl
    have hc1 := (blk_cell BK.out 1).trans rfl
    have hc2 := (blk_cell BK.out 2).trans rfl
    have hc3 := (blk_cell BK.out 3).trans rfl
    have hc4 := (blk_cell BK.out 4).trans rfl
    have hc5 := (blk_cell BK.out 5).trans rfl
    have hc6 := (blk_cell BK.out 6).trans rfl
    cases sp with
    | true =>
     obtain rfl : o = true := by rw [← HO.out]; simp [opnB]
     go_wp2_with fail
     go_ret
     exact ⟨rfl, HB.out⟩
    | false =>
     go_wp2_with fail
     refine (spec_lbMarked.calls k Ar cr row at_ a2 a b b2 so (some ad) c l i ma _ (Kd.R_reads' HRow.out).2.2 (Kd.R_reads' HRow.out).2.1 (Kd.C_below HR.out HB.out) HC.out HMa.out).mono ?_
     rintro e w9 ⟨rfl, hb⟩
     have n0_ := Aside0.mk (below_step HB.out hb)
     have n1_ := Aside0.mk (blk_below BK.out hb)
     have n2_ := Aside0.mk (Kd.R_below HRow.out hb)
     clear HB BK HRow hc0 hc1 hc2 hc3 hc4 hc5 hc6 hb
     have HB := n0_
     have BK := n1_
     have HRow := n2_
     clear n0_ n1_ n2_
     have hc0 := (blk_cell BK.out 0).trans rfl
     have hc1 := (blk_cell BK.out 1).trans rfl
     have hc2 := (blk_cell BK.out 2).trans rfl
     have hc3 := (blk_cell BK.out 3).trans rfl
     have hc4 := (blk_cell BK.out 4).trans rfl
     have hc5 := (blk_cell BK.out 5).trans rfl
     have hc6 := (blk_cell BK.out 6).trans rfl
     cases ma with
     | true =>
      obtain rfl : o = true := by rw [← HO.out]; simp [opnB]
      go_wp2_with fail
      go_ret
      exact ⟨rfl, HB.out⟩
     | false =>
      cases cp with
      | false =>
       obtain rfl : (bv false != bv true) = o := by rw [← HO.out]; simp [opnB]
       go_wp2_with fail
       refine (HBr.out false _ (Kd.C_below HR.out HB.out)).mono ?_
       rintro e w12 ⟨rfl, hb⟩
       have n0_ := Aside0.mk (below_step HB.out hb)
       clear HB BK HRow hb
       have HB := n0_
       clear n0_
       go_wp2_with fail
       refine (HBr.out true _ (Kd.C_below HR.out HB.out)).mono ?_
       rintro e w13 ⟨rfl, hb⟩
       have n0_ := Aside0.mk (below_step HB.out hb)
       clear HB hb
       have HB := n0_
       clear n0_
       go_wp2_with fail
       go_ret
       exact ⟨rfl, HB.out⟩
      | true =>
       have p_ := HJ0.out
       have q_ := HJ1.out
       have r_ := HJ.out
       have hy0 := (HB.out.cell (World.block_lt_of_cell? w _ HX0.out)).trans HX0.out
       have hy1 := (HB.out.cell (World.block_lt_of_cell? w _ HX1.out)).trans HX1.out
       have hy2 := (HB.out.cell (World.block_lt_of_cell? w _ HX2.out)).trans HX2.out
       have hy3 := (HB.out.cell (World.block_lt_of_cell? w _ HX3.out)).trans HX3.out
       go_wp2_with fail
       refine (spec_lbResolved.calls k _ _ _ _ rk _ HRk.out).mono ?_
       rintro e w10 ⟨rfl, hb⟩
       have n0_ := Aside0.mk (below_step HB.out hb)
       have n1_ := Aside0.mk (blk_below BK.out hb)
       have n2_ := Aside0.mk (Kd.R_below HRow.out hb)
       clear HB BK HRow hc0 hc1 hc2 hc3 hc4 hc5 hc6 hb
       have HB := n0_
       have BK := n1_
       have HRow := n2_
       clear n0_ n1_ n2_
       have hc0 := (blk_cell BK.out 0).trans rfl
       have hc1 := (blk_cell BK.out 1).trans rfl
       have hc2 := (blk_cell BK.out 2).trans rfl
       have hc3 := (blk_cell BK.out 3).trans rfl
       have hc4 := (blk_cell BK.out 4).trans rfl
       have hc5 := (blk_cell BK.out 5).trans rfl
       have hc6 := (blk_cell BK.out 6).trans rfl
       go_wp2_with fail
       refine (spec_lbMark.calls k rk mk _ HMk.out).mono ?_
       rintro e w11 ⟨rfl, hb⟩
       have n0_ := Aside0.mk (below_step HB.out hb)
       have n1_ := Aside0.mk (blk_below BK.out hb)
       have n2_ := Aside0.mk (Kd.R_below HRow.out hb)
       clear HB BK HRow hc0 hc1 hc2 hc3 hc4 hc5 hc6 hb
       have HB := n0_
       have BK := n1_
       have HRow := n2_
       clear n0_ n1_ n2_
       have hc0 := (blk_cell BK.out 0).trans rfl
       have hc1 := (blk_cell BK.out 1).trans rfl
       have hc2 := (blk_cell BK.out 2).trans rfl
       have hc3 := (blk_cell BK.out 3).trans rfl
       have hc4 := (blk_cell BK.out 4).trans rfl
       have hc5 := (blk_cell BK.out 5).trans rfl
       have hc6 := (blk_cell BK.out 6).trans rfl
       cases mk with
       | true =>
        obtain rfl : o = true := by rw [← HO.out]; simp [opnB]
        go_wp2_with fail
        go_ret
        exact ⟨rfl, HB.out⟩
       | false =>
        obtain rfl : (bv false != bv true) = o := by rw [← HO.out]; simp [opnB]
        go_wp2_with fail
        refine (HBr.out false _ (Kd.C_below HR.out HB.out)).mono ?_
        rintro e w12 ⟨rfl, hb⟩
        have n0_ := Aside0.mk (below_step HB.out hb)
        clear HB BK HRow hb
        have HB := n0_
        clear n0_
        go_wp2_with fail
        refine (HBr.out true _ (Kd.C_below HR.out HB.out)).mono ?_
        rintro e w13 ⟨rfl, hb⟩
        have n0_ := Aside0.mk (below_step HB.out hb)
        clear HB hb
        have HB := n0_
        clear n0_
        go_wp2_with fail
        go_ret
        exact ⟨rfl, HB.out⟩

end Go.Proofs.Ytnanfoahimccpaa.Ln
