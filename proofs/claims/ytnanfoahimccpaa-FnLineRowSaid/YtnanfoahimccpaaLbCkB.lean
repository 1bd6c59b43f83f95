/- The automaton of lines against the reference, one step for all contexts: by computation. No program in sight. -/
import Derived.Test.YtnanfoahimccpaaLbCtx
namespace Go.Proofs.Ytnanfoahimccpaa.Lb
theorem ok_21 : ((rowC tabC 21).all fun e => okE e.2) = true := by decide +kernel
theorem ok_22 : ((rowC tabC 22).all fun e => okE e.2) = true := by decide +kernel
theorem ok_23 : ((rowC tabC 23).all fun e => okE e.2) = true := by decide +kernel
theorem ok_24 : ((rowC tabC 24).all fun e => okE e.2) = true := by decide +kernel
theorem ok_25 : ((rowC tabC 25).all fun e => okE e.2) = true := by decide +kernel
theorem ok_26 : ((rowC tabC 26).all fun e => okE e.2) = true := by decide +kernel
theorem ok_27 : ((rowC tabC 27).all fun e => okE e.2) = true := by decide +kernel
theorem ok_28 : ((rowC tabC 28).all fun e => okE e.2) = true := by decide +kernel
theorem ok_29 : ((rowC tabC 29).all fun e => okE e.2) = true := by decide +kernel
theorem ok_30 : ((rowC tabC 30).all fun e => okE e.2) = true := by decide +kernel
theorem ok_31 : ((rowC tabC 31).all fun e => okE e.2) = true := by decide +kernel
theorem ok_32 : ((rowC tabC 32).all fun e => okE e.2) = true := by decide +kernel
theorem ok_33 : ((rowC tabC 33).all fun e => okE e.2) = true := by decide +kernel
theorem ok_34 : ((rowC tabC 34).all fun e => okE e.2) = true := by decide +kernel
theorem ok_35 : ((rowC tabC 35).all fun e => okE e.2) = true := by decide +kernel
theorem ok_36 : ((rowC tabC 36).all fun e => okE e.2) = true := by decide +kernel
theorem ok_37 : ((rowC tabC 37).all fun e => okE e.2) = true := by decide +kernel
theorem ok_38 : ((rowC tabC 38).all fun e => okE e.2) = true := by decide +kernel
theorem ok_39 : ((rowC tabC 39).all fun e => okE e.2) = true := by decide +kernel
theorem ok_40 : ((rowC tabC 40).all fun e => okE e.2) = true := by decide +kernel
theorem ok_41 : ((rowC tabC 41).all fun e => okE e.2) = true := by decide +kernel
theorem ok_42 : ((rowC tabC 42).all fun e => okE e.2) = true := by decide +kernel
theorem ok_43 : ((rowC tabC 43).all fun e => okE e.2) = true := by decide +kernel
end Go.Proofs.Ytnanfoahimccpaa.Lb
