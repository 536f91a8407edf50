/-
  The law at an argument of more than 1024 elements: it answers at once.
-/
import Derived.Test.YbulkcgeuEq
namespace Go.Proofs.Ybulkcgeu
open Go.RowKit

set_option maxRecDepth 100000 in
set_option maxHeartbeats 1000000 in
theorem law_long (nu ru fu : Int) (aI aC aV aO aIV aIG : Option Addr) (LI cI LC cC LV cV LO cO LIV cIV LIG cIG : Nat) (w : World) (h : 1024 < LI ∨ 1024 < LC ∨ 1024 < LV ∨ 1024 < LO ∨ 1024 < LIV ∨ 1024 < LIG) :
    Calls Yba.prog 3 #[.int .u8 nu, .int .u8 ru, .int .u8 fu, .slice aI LI cI, .slice aC LC cC, .slice aV LV cV, .slice aO LO cO, .slice aIV LIV cIV, .slice aIG LIG cIG] w fun e w' => e = .returned (.bool true) ∧ Below w.heap.size w w' := by
  by_cases h1 : 1024 < LI
  · clear h
    have d1 : decide (1024 < (LI : Int)) = true := by simp; omega
    go_enter Yba.func3, Yba.ntmps3
    go_wp2
    go_ret
    exact ⟨rfl, Below.refl _ _⟩
  have d1 : decide (1024 < (LI : Int)) = false := by simp; omega
  by_cases h2 : 1024 < LC
  · clear h
    have d2 : decide (1024 < (LC : Int)) = true := by simp; omega
    go_enter Yba.func3, Yba.ntmps3
    go_wp2
    go_ret
    exact ⟨rfl, Below.refl _ _⟩
  have d2 : decide (1024 < (LC : Int)) = false := by simp; omega
  by_cases h3 : 1024 < LV
  · clear h
    have d3 : decide (1024 < (LV : Int)) = true := by simp; omega
    go_enter Yba.func3, Yba.ntmps3
    go_wp2
    go_ret
    exact ⟨rfl, Below.refl _ _⟩
  have d3 : decide (1024 < (LV : Int)) = false := by simp; omega
  by_cases h4 : 1024 < LO
  · clear h
    have d4 : decide (1024 < (LO : Int)) = true := by simp; omega
    go_enter Yba.func3, Yba.ntmps3
    go_wp2
    go_ret
    exact ⟨rfl, Below.refl _ _⟩
  have d4 : decide (1024 < (LO : Int)) = false := by simp; omega
  by_cases h5 : 1024 < LIV
  · clear h
    have d5 : decide (1024 < (LIV : Int)) = true := by simp; omega
    go_enter Yba.func3, Yba.ntmps3
    go_wp2
    go_ret
    exact ⟨rfl, Below.refl _ _⟩
  have d5 : decide (1024 < (LIV : Int)) = false := by simp; omega
  have h6 : 1024 < LIG := by omega
  clear h
  have d6 : decide (1024 < (LIG : Int)) = true := by simp; omega
  go_enter Yba.func3, Yba.ntmps3
  go_wp2
  go_ret
  exact ⟨rfl, Below.refl _ _⟩

#print axioms law_long
end Go.Proofs.Ybulkcgeu
