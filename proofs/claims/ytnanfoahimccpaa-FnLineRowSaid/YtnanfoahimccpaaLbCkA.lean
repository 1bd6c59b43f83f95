/- The automaton of lines against the reference, one step for all contexts: by computation. No program in sight. -/
import Derived.Test.YtnanfoahimccpaaLbCtx
namespace Go.Proofs.Ytnanfoahimccpaa.Lb
theorem ok_0 : ((rowC tabC 0).all fun e => okE e.2) = true := by decide +kernel
theorem ok_1 : ((rowC tabC 1).all fun e => okE e.2) = true := by decide +kernel
theorem ok_2 : ((rowC tabC 2).all fun e => okE e.2) = true := by decide +kernel
theorem ok_3 : ((rowC tabC 3).all fun e => okE e.2) = true := by decide +kernel
theorem ok_4 : ((rowC tabC 4).all fun e => okE e.2) = true := by decide +kernel
theorem ok_5 : ((rowC tabC 5).all fun e => okE e.2) = true := by decide +kernel
theorem ok_6 : ((rowC tabC 6).all fun e => okE e.2) = true := by decide +kernel
theorem ok_7 : ((rowC tabC 7).all fun e => okE e.2) = true := by decide +kernel
theorem ok_8 : ((rowC tabC 8).all fun e => okE e.2) = true := by decide +kernel
theorem ok_9 : ((rowC tabC 9).all fun e => okE e.2) = true := by decide +kernel
theorem ok_10 : ((rowC tabC 10).all fun e => okE e.2) = true := by decide +kernel
theorem ok_11 : ((rowC tabC 11).all fun e => okE e.2) = true := by decide +kernel
theorem ok_12 : ((rowC tabC 12).all fun e => okE e.2) = true := by decide +kernel
theorem ok_13 : ((rowC tabC 13).all fun e => okE e.2) = true := by decide +kernel
theorem ok_14 : ((rowC tabC 14).all fun e => okE e.2) = true := by decide +kernel
theorem ok_15 : ((rowC tabC 15).all fun e => okE e.2) = true := by decide +kernel
theorem ok_16 : ((rowC tabC 16).all fun e => okE e.2) = true := by decide +kernel
theorem ok_17 : ((rowC tabC 17).all fun e => okE e.2) = true := by decide +kernel
theorem ok_18 : ((rowC tabC 18).all fun e => okE e.2) = true := by decide +kernel
theorem ok_19 : ((rowC tabC 19).all fun e => okE e.2) = true := by decide +kernel
theorem ok_20 : ((rowC tabC 20).all fun e => okE e.2) = true := by decide +kernel
end Go.Proofs.Ytnanfoahimccpaa.Lb
