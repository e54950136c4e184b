/-
  Walks: the program's tables of first bytes and of words.
-/
import Derived.Test.YtillamhoakohdaaGreatDoorM11
set_option linter.unusedVariables false
set_option linter.unusedSimpArgs false
namespace Go.Proofs.YtillamhoakohdaaGreatDoor
open Go.RowKit

def hintOf (c : UInt8) : Int := if c = 43 ∨ c = 45 then 83 else if isDig c = true then 68 else if c = 121 ∨ c = 89 ∨ c = 110 ∨ c = 78 ∨ c = 116 ∨ c = 84 ∨ c = 102 ∨ c = 70 ∨ c = 111 ∨ c = 79 ∨ c = 126 then 77 else if c = 46 then 46 else 0
theorem resolveTable_any (c : UInt8) (w : World) : Calls Tryz.prog 35 #[.int .u8 c.toNat] w fun e w' => e = .returned (.int .u8 (hintOf c)) ∧ w = w' := by
 by_cases h0 : c = 43
 ·have hh : hintOf c = 83 := by rw [h0]; decide
  rw [hh]
  have e0 : ((c.toNat : Int) == 43) = true := by rw [h0]; decide
  clear hh h0
  go_enter Tryz.func35, Tryz.ntmps35
  go_wp2
  go_ret
  exact ⟨rfl, rfl⟩
 by_cases h1 : c = 45
 ·have hh : hintOf c = 83 := by rw [h1]; decide
  rw [hh]
  have e0 : ((c.toNat : Int) == 43) = false := by rw [h1]; decide
  have e1 : ((c.toNat : Int) == 45) = true := by rw [h1]; decide
  clear hh h0 h1
  go_enter Tryz.func35, Tryz.ntmps35
  go_wp2
  go_ret
  exact ⟨rfl, rfl⟩
 by_cases h2 : c = 48
 ·have hh : hintOf c = 68 := by rw [h2]; decide
  rw [hh]
  have e0 : ((c.toNat : Int) == 43) = false := by rw [h2]; decide
  have e1 : ((c.toNat : Int) == 45) = false := by rw [h2]; decide
  have e2 : ((c.toNat : Int) == 48) = true := by rw [h2]; decide
  clear hh h0 h1 h2
  go_enter Tryz.func35, Tryz.ntmps35
  go_wp2
  go_ret
  exact ⟨rfl, rfl⟩
 by_cases h3 : c = 49
 ·have hh : hintOf c = 68 := by rw [h3]; decide
  rw [hh]
  have e0 : ((c.toNat : Int) == 43) = false := by rw [h3]; decide
  have e1 : ((c.toNat : Int) == 45) = false := by rw [h3]; decide
  have e2 : ((c.toNat : Int) == 48) = false := by rw [h3]; decide
  have e3 : ((c.toNat : Int) == 49) = true := by rw [h3]; decide
  clear hh h0 h1 h2 h3
  go_enter Tryz.func35, Tryz.ntmps35
  go_wp2
  go_ret
  exact ⟨rfl, rfl⟩
 by_cases h4 : c = 50
 ·have hh : hintOf c = 68 := by rw [h4]; decide
  rw [hh]
  have e0 : ((c.toNat : Int) == 43) = false := by rw [h4]; decide
  have e1 : ((c.toNat : Int) == 45) = false := by rw [h4]; decide
  have e2 : ((c.toNat : Int) == 48) = false := by rw [h4]; decide
  have e3 : ((c.toNat : Int) == 49) = false := by rw [h4]; decide
  have e4 : ((c.toNat : Int) == 50) = true := by rw [h4]; decide
  clear hh h0 h1 h2 h3 h4
  go_enter Tryz.func35, Tryz.ntmps35
  go_wp2
  go_ret
  exact ⟨rfl, rfl⟩
 by_cases h5 : c = 51
 ·have hh : hintOf c = 68 := by rw [h5]; decide
  rw [hh]
  have e0 : ((c.toNat : Int) == 43) = false := by rw [h5]; decide
  have e1 : ((c.toNat : Int) == 45) = false := by rw [h5]; decide
  have e2 : ((c.toNat : Int) == 48) = false := by rw [h5]; decide
  have e3 : ((c.toNat : Int) == 49) = false := by rw [h5]; decide
  have e4 : ((c.toNat : Int) == 50) = false := by rw [h5]; decide
  have e5 : ((c.toNat : Int) == 51) = true := by rw [h5]; decide
  clear hh h0 h1 h2 h3 h4 h5
  go_enter Tryz.func35, Tryz.ntmps35
  go_wp2
  go_ret
  exact ⟨rfl, rfl⟩
 by_cases h6 : c = 52
 ·have hh : hintOf c = 68 := by rw [h6]; decide
  rw [hh]
  have e0 : ((c.toNat : Int) == 43) = false := by rw [h6]; decide
  have e1 : ((c.toNat : Int) == 45) = false := by rw [h6]; decide
  have e2 : ((c.toNat : Int) == 48) = false := by rw [h6]; decide
  have e3 : ((c.toNat : Int) == 49) = false := by rw [h6]; decide
  have e4 : ((c.toNat : Int) == 50) = false := by rw [h6]; decide
  have e5 : ((c.toNat : Int) == 51) = false := by rw [h6]; decide
  have e6 : ((c.toNat : Int) == 52) = true := by rw [h6]; decide
  clear hh h0 h1 h2 h3 h4 h5 h6
  go_enter Tryz.func35, Tryz.ntmps35
  go_wp2
  go_ret
  exact ⟨rfl, rfl⟩
 by_cases h7 : c = 53
 ·have hh : hintOf c = 68 := by rw [h7]; decide
  rw [hh]
  have e0 : ((c.toNat : Int) == 43) = false := by rw [h7]; decide
  have e1 : ((c.toNat : Int) == 45) = false := by rw [h7]; decide
  have e2 : ((c.toNat : Int) == 48) = false := by rw [h7]; decide
  have e3 : ((c.toNat : Int) == 49) = false := by rw [h7]; decide
  have e4 : ((c.toNat : Int) == 50) = false := by rw [h7]; decide
  have e5 : ((c.toNat : Int) == 51) = false := by rw [h7]; decide
  have e6 : ((c.toNat : Int) == 52) = false := by rw [h7]; decide
  have e7 : ((c.toNat : Int) == 53) = true := by rw [h7]; decide
  clear hh h0 h1 h2 h3 h4 h5 h6 h7
  go_enter Tryz.func35, Tryz.ntmps35
  go_wp2
  go_ret
  exact ⟨rfl, rfl⟩
 by_cases h8 : c = 54
 ·have hh : hintOf c = 68 := by rw [h8]; decide
  rw [hh]
  have e0 : ((c.toNat : Int) == 43) = false := by rw [h8]; decide
  have e1 : ((c.toNat : Int) == 45) = false := by rw [h8]; decide
  have e2 : ((c.toNat : Int) == 48) = false := by rw [h8]; decide
  have e3 : ((c.toNat : Int) == 49) = false := by rw [h8]; decide
  have e4 : ((c.toNat : Int) == 50) = false := by rw [h8]; decide
  have e5 : ((c.toNat : Int) == 51) = false := by rw [h8]; decide
  have e6 : ((c.toNat : Int) == 52) = false := by rw [h8]; decide
  have e7 : ((c.toNat : Int) == 53) = false := by rw [h8]; decide
  have e8 : ((c.toNat : Int) == 54) = true := by rw [h8]; decide
  clear hh h0 h1 h2 h3 h4 h5 h6 h7 h8
  go_enter Tryz.func35, Tryz.ntmps35
  go_wp2
  go_ret
  exact ⟨rfl, rfl⟩
 by_cases h9 : c = 55
 ·have hh : hintOf c = 68 := by rw [h9]; decide
  rw [hh]
  have e0 : ((c.toNat : Int) == 43) = false := by rw [h9]; decide
  have e1 : ((c.toNat : Int) == 45) = false := by rw [h9]; decide
  have e2 : ((c.toNat : Int) == 48) = false := by rw [h9]; decide
  have e3 : ((c.toNat : Int) == 49) = false := by rw [h9]; decide
  have e4 : ((c.toNat : Int) == 50) = false := by rw [h9]; decide
  have e5 : ((c.toNat : Int) == 51) = false := by rw [h9]; decide
  have e6 : ((c.toNat : Int) == 52) = false := by rw [h9]; decide
  have e7 : ((c.toNat : Int) == 53) = false := by rw [h9]; decide
  have e8 : ((c.toNat : Int) == 54) = false := by rw [h9]; decide
  have e9 : ((c.toNat : Int) == 55) = true := by rw [h9]; decide
  clear hh h0 h1 h2 h3 h4 h5 h6 h7 h8 h9
  go_enter Tryz.func35, Tryz.ntmps35
  go_wp2
  go_ret
  exact ⟨rfl, rfl⟩
 by_cases h10 : c = 56
 ·have hh : hintOf c = 68 := by rw [h10]; decide
  rw [hh]
  have e0 : ((c.toNat : Int) == 43) = false := by rw [h10]; decide
  have e1 : ((c.toNat : Int) == 45) = false := by rw [h10]; decide
  have e2 : ((c.toNat : Int) == 48) = false := by rw [h10]; decide
  have e3 : ((c.toNat : Int) == 49) = false := by rw [h10]; decide
  have e4 : ((c.toNat : Int) == 50) = false := by rw [h10]; decide
  have e5 : ((c.toNat : Int) == 51) = false := by rw [h10]; decide
  have e6 : ((c.toNat : Int) == 52) = false := by rw [h10]; decide
  have e7 : ((c.toNat : Int) == 53) = false := by rw [h10]; decide
  have e8 : ((c.toNat : Int) == 54) = false := by rw [h10]; decide
  have e9 : ((c.toNat : Int) == 55) = false := by rw [h10]; decide
  have e10 : ((c.toNat : Int) == 56) = true := by rw [h10]; decide
  clear hh h0 h1 h2 h3 h4 h5 h6 h7 h8 h9 h10
  go_enter Tryz.func35, Tryz.ntmps35
  go_wp2
  go_ret
  exact ⟨rfl, rfl⟩
 by_cases h11 : c = 57
 ·have hh : hintOf c = 68 := by rw [h11]; decide
  rw [hh]
  have e0 : ((c.toNat : Int) == 43) = false := by rw [h11]; decide
  have e1 : ((c.toNat : Int) == 45) = false := by rw [h11]; decide
  have e2 : ((c.toNat : Int) == 48) = false := by rw [h11]; decide
  have e3 : ((c.toNat : Int) == 49) = false := by rw [h11]; decide
  have e4 : ((c.toNat : Int) == 50) = false := by rw [h11]; decide
  have e5 : ((c.toNat : Int) == 51) = false := by rw [h11]; decide
  have e6 : ((c.toNat : Int) == 52) = false := by rw [h11]; decide
  have e7 : ((c.toNat : Int) == 53) = false := by rw [h11]; decide
  have e8 : ((c.toNat : Int) == 54) = false := by rw [h11]; decide
  have e9 : ((c.toNat : Int) == 55) = false := by rw [h11]; decide
  have e10 : ((c.toNat : Int) == 56) = false := by rw [h11]; decide
  have e11 : ((c.toNat : Int) == 57) = true := by rw [h11]; decide
  clear hh h0 h1 h2 h3 h4 h5 h6 h7 h8 h9 h10 h11
  go_enter Tryz.func35, Tryz.ntmps35
  go_wp2
  go_ret
  exact ⟨rfl, rfl⟩
 by_cases h12 : c = 121
 ·have hh : hintOf c = 77 := by rw [h12]; decide
  rw [hh]
  have e0 : ((c.toNat : Int) == 43) = false := by rw [h12]; decide
  have e1 : ((c.toNat : Int) == 45) = false := by rw [h12]; decide
  have e2 : ((c.toNat : Int) == 48) = false := by rw [h12]; decide
  have e3 : ((c.toNat : Int) == 49) = false := by rw [h12]; decide
  have e4 : ((c.toNat : Int) == 50) = false := by rw [h12]; decide
  have e5 : ((c.toNat : Int) == 51) = false := by rw [h12]; decide
  have e6 : ((c.toNat : Int) == 52) = false := by rw [h12]; decide
  have e7 : ((c.toNat : Int) == 53) = false := by rw [h12]; decide
  have e8 : ((c.toNat : Int) == 54) = false := by rw [h12]; decide
  have e9 : ((c.toNat : Int) == 55) = false := by rw [h12]; decide
  have e10 : ((c.toNat : Int) == 56) = false := by rw [h12]; decide
  have e11 : ((c.toNat : Int) == 57) = false := by rw [h12]; decide
  have e12 : ((c.toNat : Int) == 121) = true := by rw [h12]; decide
  clear hh h0 h1 h2 h3 h4 h5 h6 h7 h8 h9 h10 h11 h12
  go_enter Tryz.func35, Tryz.ntmps35
  go_wp2
  go_ret
  exact ⟨rfl, rfl⟩
 by_cases h13 : c = 89
 ·have hh : hintOf c = 77 := by rw [h13]; decide
  rw [hh]
  have e0 : ((c.toNat : Int) == 43) = false := by rw [h13]; decide
  have e1 : ((c.toNat : Int) == 45) = false := by rw [h13]; decide
  have e2 : ((c.toNat : Int) == 48) = false := by rw [h13]; decide
  have e3 : ((c.toNat : Int) == 49) = false := by rw [h13]; decide
  have e4 : ((c.toNat : Int) == 50) = false := by rw [h13]; decide
  have e5 : ((c.toNat : Int) == 51) = false := by rw [h13]; decide
  have e6 : ((c.toNat : Int) == 52) = false := by rw [h13]; decide
  have e7 : ((c.toNat : Int) == 53) = false := by rw [h13]; decide
  have e8 : ((c.toNat : Int) == 54) = false := by rw [h13]; decide
  have e9 : ((c.toNat : Int) == 55) = false := by rw [h13]; decide
  have e10 : ((c.toNat : Int) == 56) = false := by rw [h13]; decide
  have e11 : ((c.toNat : Int) == 57) = false := by rw [h13]; decide
  have e12 : ((c.toNat : Int) == 121) = false := by rw [h13]; decide
  have e13 : ((c.toNat : Int) == 89) = true := by rw [h13]; decide
  clear hh h0 h1 h2 h3 h4 h5 h6 h7 h8 h9 h10 h11 h12 h13
  go_enter Tryz.func35, Tryz.ntmps35
  go_wp2
  go_ret
  exact ⟨rfl, rfl⟩
 by_cases h14 : c = 110
 ·have hh : hintOf c = 77 := by rw [h14]; decide
  rw [hh]
  have e0 : ((c.toNat : Int) == 43) = false := by rw [h14]; decide
  have e1 : ((c.toNat : Int) == 45) = false := by rw [h14]; decide
  have e2 : ((c.toNat : Int) == 48) = false := by rw [h14]; decide
  have e3 : ((c.toNat : Int) == 49) = false := by rw [h14]; decide
  have e4 : ((c.toNat : Int) == 50) = false := by rw [h14]; decide
  have e5 : ((c.toNat : Int) == 51) = false := by rw [h14]; decide
  have e6 : ((c.toNat : Int) == 52) = false := by rw [h14]; decide
  have e7 : ((c.toNat : Int) == 53) = false := by rw [h14]; decide
  have e8 : ((c.toNat : Int) == 54) = false := by rw [h14]; decide
  have e9 : ((c.toNat : Int) == 55) = false := by rw [h14]; decide
  have e10 : ((c.toNat : Int) == 56) = false := by rw [h14]; decide
  have e11 : ((c.toNat : Int) == 57) = false := by rw [h14]; decide
  have e12 : ((c.toNat : Int) == 121) = false := by rw [h14]; decide
  have e13 : ((c.toNat : Int) == 89) = false := by rw [h14]; decide
  have e14 : ((c.toNat : Int) == 110) = true := by rw [h14]; decide
  clear hh h0 h1 h2 h3 h4 h5 h6 h7 h8 h9 h10 h11 h12 h13 h14
  go_enter Tryz.func35, Tryz.ntmps35
  go_wp2
  go_ret
  exact ⟨rfl, rfl⟩
 by_cases h15 : c = 78
 ·have hh : hintOf c = 77 := by rw [h15]; decide
  rw [hh]
  have e0 : ((c.toNat : Int) == 43) = false := by rw [h15]; decide
  have e1 : ((c.toNat : Int) == 45) = false := by rw [h15]; decide
  have e2 : ((c.toNat : Int) == 48) = false := by rw [h15]; decide
  have e3 : ((c.toNat : Int) == 49) = false := by rw [h15]; decide
  have e4 : ((c.toNat : Int) == 50) = false := by rw [h15]; decide
  have e5 : ((c.toNat : Int) == 51) = false := by rw [h15]; decide
  have e6 : ((c.toNat : Int) == 52) = false := by rw [h15]; decide
  have e7 : ((c.toNat : Int) == 53) = false := by rw [h15]; decide
  have e8 : ((c.toNat : Int) == 54) = false := by rw [h15]; decide
  have e9 : ((c.toNat : Int) == 55) = false := by rw [h15]; decide
  have e10 : ((c.toNat : Int) == 56) = false := by rw [h15]; decide
  have e11 : ((c.toNat : Int) == 57) = false := by rw [h15]; decide
  have e12 : ((c.toNat : Int) == 121) = false := by rw [h15]; decide
  have e13 : ((c.toNat : Int) == 89) = false := by rw [h15]; decide
  have e14 : ((c.toNat : Int) == 110) = false := by rw [h15]; decide
  have e15 : ((c.toNat : Int) == 78) = true := by rw [h15]; decide
  clear hh h0 h1 h2 h3 h4 h5 h6 h7 h8 h9 h10 h11 h12 h13 h14 h15
  go_enter Tryz.func35, Tryz.ntmps35
  go_wp2
  go_ret
  exact ⟨rfl, rfl⟩
 by_cases h16 : c = 116
 ·have hh : hintOf c = 77 := by rw [h16]; decide
  rw [hh]
  have e0 : ((c.toNat : Int) == 43) = false := by rw [h16]; decide
  have e1 : ((c.toNat : Int) == 45) = false := by rw [h16]; decide
  have e2 : ((c.toNat : Int) == 48) = false := by rw [h16]; decide
  have e3 : ((c.toNat : Int) == 49) = false := by rw [h16]; decide
  have e4 : ((c.toNat : Int) == 50) = false := by rw [h16]; decide
  have e5 : ((c.toNat : Int) == 51) = false := by rw [h16]; decide
  have e6 : ((c.toNat : Int) == 52) = false := by rw [h16]; decide
  have e7 : ((c.toNat : Int) == 53) = false := by rw [h16]; decide
  have e8 : ((c.toNat : Int) == 54) = false := by rw [h16]; decide
  have e9 : ((c.toNat : Int) == 55) = false := by rw [h16]; decide
  have e10 : ((c.toNat : Int) == 56) = false := by rw [h16]; decide
  have e11 : ((c.toNat : Int) == 57) = false := by rw [h16]; decide
  have e12 : ((c.toNat : Int) == 121) = false := by rw [h16]; decide
  have e13 : ((c.toNat : Int) == 89) = false := by rw [h16]; decide
  have e14 : ((c.toNat : Int) == 110) = false := by rw [h16]; decide
  have e15 : ((c.toNat : Int) == 78) = false := by rw [h16]; decide
  have e16 : ((c.toNat : Int) == 116) = true := by rw [h16]; decide
  clear hh h0 h1 h2 h3 h4 h5 h6 h7 h8 h9 h10 h11 h12 h13 h14 h15 h16
  go_enter Tryz.func35, Tryz.ntmps35
  go_wp2
  go_ret
  exact ⟨rfl, rfl⟩
 by_cases h17 : c = 84
 ·have hh : hintOf c = 77 := by rw [h17]; decide
  rw [hh]
  have e0 : ((c.toNat : Int) == 43) = false := by rw [h17]; decide
  have e1 : ((c.toNat : Int) == 45) = false := by rw [h17]; decide
  have e2 : ((c.toNat : Int) == 48) = false := by rw [h17]; decide
  have e3 : ((c.toNat : Int) == 49) = false := by rw [h17]; decide
  have e4 : ((c.toNat : Int) == 50) = false := by rw [h17]; decide
  have e5 : ((c.toNat : Int) == 51) = false := by rw [h17]; decide
  have e6 : ((c.toNat : Int) == 52) = false := by rw [h17]; decide
  have e7 : ((c.toNat : Int) == 53) = false := by rw [h17]; decide
  have e8 : ((c.toNat : Int) == 54) = false := by rw [h17]; decide
  have e9 : ((c.toNat : Int) == 55) = false := by rw [h17]; decide
  have e10 : ((c.toNat : Int) == 56) = false := by rw [h17]; decide
  have e11 : ((c.toNat : Int) == 57) = false := by rw [h17]; decide
  have e12 : ((c.toNat : Int) == 121) = false := by rw [h17]; decide
  have e13 : ((c.toNat : Int) == 89) = false := by rw [h17]; decide
  have e14 : ((c.toNat : Int) == 110) = false := by rw [h17]; decide
  have e15 : ((c.toNat : Int) == 78) = false := by rw [h17]; decide
  have e16 : ((c.toNat : Int) == 116) = false := by rw [h17]; decide
  have e17 : ((c.toNat : Int) == 84) = true := by rw [h17]; decide
  clear hh h0 h1 h2 h3 h4 h5 h6 h7 h8 h9 h10 h11 h12 h13 h14 h15 h16 h17
  go_enter Tryz.func35, Tryz.ntmps35
  go_wp2
  go_ret
  exact ⟨rfl, rfl⟩
 by_cases h18 : c = 102
 ·have hh : hintOf c = 77 := by rw [h18]; decide
  rw [hh]
  have e0 : ((c.toNat : Int) == 43) = false := by rw [h18]; decide
  have e1 : ((c.toNat : Int) == 45) = false := by rw [h18]; decide
  have e2 : ((c.toNat : Int) == 48) = false := by rw [h18]; decide
  have e3 : ((c.toNat : Int) == 49) = false := by rw [h18]; decide
  have e4 : ((c.toNat : Int) == 50) = false := by rw [h18]; decide
  have e5 : ((c.toNat : Int) == 51) = false := by rw [h18]; decide
  have e6 : ((c.toNat : Int) == 52) = false := by rw [h18]; decide
  have e7 : ((c.toNat : Int) == 53) = false := by rw [h18]; decide
  have e8 : ((c.toNat : Int) == 54) = false := by rw [h18]; decide
  have e9 : ((c.toNat : Int) == 55) = false := by rw [h18]; decide
  have e10 : ((c.toNat : Int) == 56) = false := by rw [h18]; decide
  have e11 : ((c.toNat : Int) == 57) = false := by rw [h18]; decide
  have e12 : ((c.toNat : Int) == 121) = false := by rw [h18]; decide
  have e13 : ((c.toNat : Int) == 89) = false := by rw [h18]; decide
  have e14 : ((c.toNat : Int) == 110) = false := by rw [h18]; decide
  have e15 : ((c.toNat : Int) == 78) = false := by rw [h18]; decide
  have e16 : ((c.toNat : Int) == 116) = false := by rw [h18]; decide
  have e17 : ((c.toNat : Int) == 84) = false := by rw [h18]; decide
  have e18 : ((c.toNat : Int) == 102) = true := by rw [h18]; decide
  clear hh h0 h1 h2 h3 h4 h5 h6 h7 h8 h9 h10 h11 h12 h13 h14 h15 h16 h17 h18
  go_enter Tryz.func35, Tryz.ntmps35
  go_wp2
  go_ret
  exact ⟨rfl, rfl⟩
 by_cases h19 : c = 70
 ·have hh : hintOf c = 77 := by rw [h19]; decide
  rw [hh]
  have e0 : ((c.toNat : Int) == 43) = false := by rw [h19]; decide
  have e1 : ((c.toNat : Int) == 45) = false := by rw [h19]; decide
  have e2 : ((c.toNat : Int) == 48) = false := by rw [h19]; decide
  have e3 : ((c.toNat : Int) == 49) = false := by rw [h19]; decide
  have e4 : ((c.toNat : Int) == 50) = false := by rw [h19]; decide
  have e5 : ((c.toNat : Int) == 51) = false := by rw [h19]; decide
  have e6 : ((c.toNat : Int) == 52) = false := by rw [h19]; decide
  have e7 : ((c.toNat : Int) == 53) = false := by rw [h19]; decide
  have e8 : ((c.toNat : Int) == 54) = false := by rw [h19]; decide
  have e9 : ((c.toNat : Int) == 55) = false := by rw [h19]; decide
  have e10 : ((c.toNat : Int) == 56) = false := by rw [h19]; decide
  have e11 : ((c.toNat : Int) == 57) = false := by rw [h19]; decide
  have e12 : ((c.toNat : Int) == 121) = false := by rw [h19]; decide
  have e13 : ((c.toNat : Int) == 89) = false := by rw [h19]; decide
  have e14 : ((c.toNat : Int) == 110) = false := by rw [h19]; decide
  have e15 : ((c.toNat : Int) == 78) = false := by rw [h19]; decide
  have e16 : ((c.toNat : Int) == 116) = false := by rw [h19]; decide
  have e17 : ((c.toNat : Int) == 84) = false := by rw [h19]; decide
  have e18 : ((c.toNat : Int) == 102) = false := by rw [h19]; decide
  have e19 : ((c.toNat : Int) == 70) = true := by rw [h19]; decide
  clear hh h0 h1 h2 h3 h4 h5 h6 h7 h8 h9 h10 h11 h12 h13 h14 h15 h16 h17 h18 h19
  go_enter Tryz.func35, Tryz.ntmps35
  go_wp2
  go_ret
  exact ⟨rfl, rfl⟩
 by_cases h20 : c = 111
 ·have hh : hintOf c = 77 := by rw [h20]; decide
  rw [hh]
  have e0 : ((c.toNat : Int) == 43) = false := by rw [h20]; decide
  have e1 : ((c.toNat : Int) == 45) = false := by rw [h20]; decide
  have e2 : ((c.toNat : Int) == 48) = false := by rw [h20]; decide
  have e3 : ((c.toNat : Int) == 49) = false := by rw [h20]; decide
  have e4 : ((c.toNat : Int) == 50) = false := by rw [h20]; decide
  have e5 : ((c.toNat : Int) == 51) = false := by rw [h20]; decide
  have e6 : ((c.toNat : Int) == 52) = false := by rw [h20]; decide
  have e7 : ((c.toNat : Int) == 53) = false := by rw [h20]; decide
  have e8 : ((c.toNat : Int) == 54) = false := by rw [h20]; decide
  have e9 : ((c.toNat : Int) == 55) = false := by rw [h20]; decide
  have e10 : ((c.toNat : Int) == 56) = false := by rw [h20]; decide
  have e11 : ((c.toNat : Int) == 57) = false := by rw [h20]; decide
  have e12 : ((c.toNat : Int) == 121) = false := by rw [h20]; decide
  have e13 : ((c.toNat : Int) == 89) = false := by rw [h20]; decide
  have e14 : ((c.toNat : Int) == 110) = false := by rw [h20]; decide
  have e15 : ((c.toNat : Int) == 78) = false := by rw [h20]; decide
  have e16 : ((c.toNat : Int) == 116) = false := by rw [h20]; decide
  have e17 : ((c.toNat : Int) == 84) = false := by rw [h20]; decide
  have e18 : ((c.toNat : Int) == 102) = false := by rw [h20]; decide
  have e19 : ((c.toNat : Int) == 70) = false := by rw [h20]; decide
  have e20 : ((c.toNat : Int) == 111) = true := by rw [h20]; decide
  clear hh h0 h1 h2 h3 h4 h5 h6 h7 h8 h9 h10 h11 h12 h13 h14 h15 h16 h17 h18 h19 h20
  go_enter Tryz.func35, Tryz.ntmps35
  go_wp2
  go_ret
  exact ⟨rfl, rfl⟩
 by_cases h21 : c = 79
 ·have hh : hintOf c = 77 := by rw [h21]; decide
  rw [hh]
  have e0 : ((c.toNat : Int) == 43) = false := by rw [h21]; decide
  have e1 : ((c.toNat : Int) == 45) = false := by rw [h21]; decide
  have e2 : ((c.toNat : Int) == 48) = false := by rw [h21]; decide
  have e3 : ((c.toNat : Int) == 49) = false := by rw [h21]; decide
  have e4 : ((c.toNat : Int) == 50) = false := by rw [h21]; decide
  have e5 : ((c.toNat : Int) == 51) = false := by rw [h21]; decide
  have e6 : ((c.toNat : Int) == 52) = false := by rw [h21]; decide
  have e7 : ((c.toNat : Int) == 53) = false := by rw [h21]; decide
  have e8 : ((c.toNat : Int) == 54) = false := by rw [h21]; decide
  have e9 : ((c.toNat : Int) == 55) = false := by rw [h21]; decide
  have e10 : ((c.toNat : Int) == 56) = false := by rw [h21]; decide
  have e11 : ((c.toNat : Int) == 57) = false := by rw [h21]; decide
  have e12 : ((c.toNat : Int) == 121) = false := by rw [h21]; decide
  have e13 : ((c.toNat : Int) == 89) = false := by rw [h21]; decide
  have e14 : ((c.toNat : Int) == 110) = false := by rw [h21]; decide
  have e15 : ((c.toNat : Int) == 78) = false := by rw [h21]; decide
  have e16 : ((c.toNat : Int) == 116) = false := by rw [h21]; decide
  have e17 : ((c.toNat : Int) == 84) = false := by rw [h21]; decide
  have e18 : ((c.toNat : Int) == 102) = false := by rw [h21]; decide
  have e19 : ((c.toNat : Int) == 70) = false := by rw [h21]; decide
  have e20 : ((c.toNat : Int) == 111) = false := by rw [h21]; decide
  have e21 : ((c.toNat : Int) == 79) = true := by rw [h21]; decide
  clear hh h0 h1 h2 h3 h4 h5 h6 h7 h8 h9 h10 h11 h12 h13 h14 h15 h16 h17 h18 h19 h20 h21
  go_enter Tryz.func35, Tryz.ntmps35
  go_wp2
  go_ret
  exact ⟨rfl, rfl⟩
 by_cases h22 : c = 126
 ·have hh : hintOf c = 77 := by rw [h22]; decide
  rw [hh]
  have e0 : ((c.toNat : Int) == 43) = false := by rw [h22]; decide
  have e1 : ((c.toNat : Int) == 45) = false := by rw [h22]; decide
  have e2 : ((c.toNat : Int) == 48) = false := by rw [h22]; decide
  have e3 : ((c.toNat : Int) == 49) = false := by rw [h22]; decide
  have e4 : ((c.toNat : Int) == 50) = false := by rw [h22]; decide
  have e5 : ((c.toNat : Int) == 51) = false := by rw [h22]; decide
  have e6 : ((c.toNat : Int) == 52) = false := by rw [h22]; decide
  have e7 : ((c.toNat : Int) == 53) = false := by rw [h22]; decide
  have e8 : ((c.toNat : Int) == 54) = false := by rw [h22]; decide
  have e9 : ((c.toNat : Int) == 55) = false := by rw [h22]; decide
  have e10 : ((c.toNat : Int) == 56) = false := by rw [h22]; decide
  have e11 : ((c.toNat : Int) == 57) = false := by rw [h22]; decide
  have e12 : ((c.toNat : Int) == 121) = false := by rw [h22]; decide
  have e13 : ((c.toNat : Int) == 89) = false := by rw [h22]; decide
  have e14 : ((c.toNat : Int) == 110) = false := by rw [h22]; decide
  have e15 : ((c.toNat : Int) == 78) = false := by rw [h22]; decide
  have e16 : ((c.toNat : Int) == 116) = false := by rw [h22]; decide
  have e17 : ((c.toNat : Int) == 84) = false := by rw [h22]; decide
  have e18 : ((c.toNat : Int) == 102) = false := by rw [h22]; decide
  have e19 : ((c.toNat : Int) == 70) = false := by rw [h22]; decide
  have e20 : ((c.toNat : Int) == 111) = false := by rw [h22]; decide
  have e21 : ((c.toNat : Int) == 79) = false := by rw [h22]; decide
  have e22 : ((c.toNat : Int) == 126) = true := by rw [h22]; decide
  clear hh h0 h1 h2 h3 h4 h5 h6 h7 h8 h9 h10 h11 h12 h13 h14 h15 h16 h17 h18 h19 h20 h21 h22
  go_enter Tryz.func35, Tryz.ntmps35
  go_wp2
  go_ret
  exact ⟨rfl, rfl⟩
 by_cases h23 : c = 46
 ·have hh : hintOf c = 46 := by rw [h23]; decide
  rw [hh]
  have e0 : ((c.toNat : Int) == 43) = false := by rw [h23]; decide
  have e1 : ((c.toNat : Int) == 45) = false := by rw [h23]; decide
  have e2 : ((c.toNat : Int) == 48) = false := by rw [h23]; decide
  have e3 : ((c.toNat : Int) == 49) = false := by rw [h23]; decide
  have e4 : ((c.toNat : Int) == 50) = false := by rw [h23]; decide
  have e5 : ((c.toNat : Int) == 51) = false := by rw [h23]; decide
  have e6 : ((c.toNat : Int) == 52) = false := by rw [h23]; decide
  have e7 : ((c.toNat : Int) == 53) = false := by rw [h23]; decide
  have e8 : ((c.toNat : Int) == 54) = false := by rw [h23]; decide
  have e9 : ((c.toNat : Int) == 55) = false := by rw [h23]; decide
  have e10 : ((c.toNat : Int) == 56) = false := by rw [h23]; decide
  have e11 : ((c.toNat : Int) == 57) = false := by rw [h23]; decide
  have e12 : ((c.toNat : Int) == 121) = false := by rw [h23]; decide
  have e13 : ((c.toNat : Int) == 89) = false := by rw [h23]; decide
  have e14 : ((c.toNat : Int) == 110) = false := by rw [h23]; decide
  have e15 : ((c.toNat : Int) == 78) = false := by rw [h23]; decide
  have e16 : ((c.toNat : Int) == 116) = false := by rw [h23]; decide
  have e17 : ((c.toNat : Int) == 84) = false := by rw [h23]; decide
  have e18 : ((c.toNat : Int) == 102) = false := by rw [h23]; decide
  have e19 : ((c.toNat : Int) == 70) = false := by rw [h23]; decide
  have e20 : ((c.toNat : Int) == 111) = false := by rw [h23]; decide
  have e21 : ((c.toNat : Int) == 79) = false := by rw [h23]; decide
  have e22 : ((c.toNat : Int) == 126) = false := by rw [h23]; decide
  have e23 : ((c.toNat : Int) == 46) = true := by rw [h23]; decide
  clear hh h0 h1 h2 h3 h4 h5 h6 h7 h8 h9 h10 h11 h12 h13 h14 h15 h16 h17 h18 h19 h20 h21 h22 h23
  go_enter Tryz.func35, Tryz.ntmps35
  go_wp2
  go_ret
  exact ⟨rfl, rfl⟩
 have hd : isDig c = false := by
  simp only [isDig, decide_eq_false_iff_not]
  intro hx
  have : c = UInt8.ofNat c.toNat := by simp
  have hy : c.toNat = 48 ∨ c.toNat = 49 ∨ c.toNat = 50 ∨ c.toNat = 51 ∨ c.toNat = 52 ∨ c.toNat = 53 ∨ c.toNat = 54 ∨ c.toNat = 55 ∨ c.toNat = 56 ∨ c.toNat = 57 := by omega
  rcases hy with hy | hy | hy | hy | hy | hy | hy | hy | hy | hy <;> rw [hy] at this
  ·exact h2 (by rw [this]; rfl)
  ·exact h3 (by rw [this]; rfl)
  ·exact h4 (by rw [this]; rfl)
  ·exact h5 (by rw [this]; rfl)
  ·exact h6 (by rw [this]; rfl)
  ·exact h7 (by rw [this]; rfl)
  ·exact h8 (by rw [this]; rfl)
  ·exact h9 (by rw [this]; rfl)
  ·exact h10 (by rw [this]; rfl)
  ·exact h11 (by rw [this]; rfl)
 have hh : hintOf c = 0 := by
  unfold hintOf; rw [if_neg (by simp [h0, h1]), hd, if_neg (by simp), if_neg (by simp [h12, h13, h14, h15, h16, h17, h18, h19, h20, h21, h22]), if_neg h23]
 rw [hh]
 have e0 : ((c.toNat : Int) == 43) = false := byte_ne (d := 43) h0
 have e1 : ((c.toNat : Int) == 45) = false := byte_ne (d := 45) h1
 have e2 : ((c.toNat : Int) == 48) = false := byte_ne (d := 48) h2
 have e3 : ((c.toNat : Int) == 49) = false := byte_ne (d := 49) h3
 have e4 : ((c.toNat : Int) == 50) = false := byte_ne (d := 50) h4
 have e5 : ((c.toNat : Int) == 51) = false := byte_ne (d := 51) h5
 have e6 : ((c.toNat : Int) == 52) = false := byte_ne (d := 52) h6
 have e7 : ((c.toNat : Int) == 53) = false := byte_ne (d := 53) h7
 have e8 : ((c.toNat : Int) == 54) = false := byte_ne (d := 54) h8
 have e9 : ((c.toNat : Int) == 55) = false := byte_ne (d := 55) h9
 have e10 : ((c.toNat : Int) == 56) = false := byte_ne (d := 56) h10
 have e11 : ((c.toNat : Int) == 57) = false := byte_ne (d := 57) h11
 have e12 : ((c.toNat : Int) == 121) = false := byte_ne (d := 121) h12
 have e13 : ((c.toNat : Int) == 89) = false := byte_ne (d := 89) h13
 have e14 : ((c.toNat : Int) == 110) = false := byte_ne (d := 110) h14
 have e15 : ((c.toNat : Int) == 78) = false := byte_ne (d := 78) h15
 have e16 : ((c.toNat : Int) == 116) = false := byte_ne (d := 116) h16
 have e17 : ((c.toNat : Int) == 84) = false := byte_ne (d := 84) h17
 have e18 : ((c.toNat : Int) == 102) = false := byte_ne (d := 102) h18
 have e19 : ((c.toNat : Int) == 70) = false := byte_ne (d := 70) h19
 have e20 : ((c.toNat : Int) == 111) = false := byte_ne (d := 111) h20
 have e21 : ((c.toNat : Int) == 79) = false := byte_ne (d := 79) h21
 have e22 : ((c.toNat : Int) == 126) = false := byte_ne (d := 126) h22
 have e23 : ((c.toNat : Int) == 46) = false := byte_ne (d := 46) h23
 clear hh hd h0 h1 h2 h3 h4 h5 h6 h7 h8 h9 h10 h11 h12 h13 h14 h15 h16 h17 h18 h19 h20 h21 h22 h23
 go_enter Tryz.func35, Tryz.ntmps35
 go_wp2
 go_ret
 exact ⟨rfl, rfl⟩

theorem info90 : (Tryz.prog.info? 90).map (·.size) = some 2 := by kernel_rfl
theorem store90 {ops : Array Oper} {rest : List Oper} {o : Oper} {a : Act} {w : World} {Q : Exit → Act → World → Prop} (hgd : o.guard = none) (x y : Operand) (ho : o.op = .store 90 x y)
  (g : Nat) (cells : Array Value) (hx : a.eval x = .pointer (some ⟨g, 0, none⟩)) (hy : a.eval y = .agg cells) (hc : cells.size = 2) (h1 : cells.toList.all (·.oneCell') = true)
  (t : TypeId) (old : Array Value) (hg : w.heap[g]? = some (.cells old t (0, 0))) (hold : old.size = 2)
  (h : wpList Tryz.prog ops Q rest (a.put o.dst undef) (w.setRow g cells)) : wpList Tryz.prog ops Q (o :: rest) a w :=
 wpList_store_row hgd 90 x y ho g cells hx hy t old hg (by rw [info90, hc]) (by rw [hold, hc]) (by rw [← Array.all_toList]; exact h1) h
theorem results_90x {fn : Func} {p u : Tmp} (h : fn.results = #[.cell p 90, .tmp u]) (tmps : Array Value) (w : World) (g : Nat) (t : TypeId) (cs : Array Value) (fr : Nat × Nat)
  (hp : tmps.getD p undef = .pointer (some ⟨g, 0, none⟩)) (hg : w.heap[g]? = some (.cells cs t fr)) (hn : cs.size = 2) :
  (results fn tmps).run Tryz.prog w = .ok (.tuple #[.agg cs, tmps.getD u undef]) w := by
 rw [results_cell_tmp h, hp]
 have h2 := run_loadVar_row (P := Tryz.prog) w g t 90 cs fr _ hg Tryz.underlying90 rfl (by rw [info90, hn])
 simp [asAddr, Result.andThen, h2]

inductive AnyIs : PV → Value → Prop where
 | nul : AnyIs .nul .nilIface
 | bool (b) : AnyIs (.bool b) (.iface 4 (.bool b))
 | int (i) : AnyIs (.int i) (.iface 3 (.int .i64 i))
 | uint (n) : AnyIs (.uint n) (.iface 23 (.int .u64 n))
 | flt (n : Nat) : AnyIs (.flt n) (.iface 52 (.float .f64 n))
 | txt (s l) (h : StrIs s l) : AnyIs (.txt l) (.iface 9 (.string s))

def MapPost (l : Bs) (w : World) (e : Ending) (w' : World) : Prop := Below w.heap.size w w' ∧
  ((∃ t p s v, wordOf l = some (t, p) ∧ StrIs s t ∧ AnyIs p v ∧ e = .returned (.tuple #[.agg #[v, .string s], .bool true])) ∨
   (wordOf l = none ∧ e = .returned (.tuple #[.agg #[.nilIface, .string ⟨#[]⟩], .bool false])))
theorem mapPost_some {l : Bs} {w w' : World} {t : Bs} {p : PV} {s : ByteArray} {v : Value} (hw : Below w.heap.size w w') (h1 : wordOf l = some (t, p)) (h2 : StrIs s t) (h3 : AnyIs p v) : MapPost l w (.returned (.tuple #[.agg #[v, .string s], .bool true])) w' :=
 ⟨hw, .inl ⟨t, p, s, v, h1, h2, h3, rfl⟩⟩

set_option maxHeartbeats 4000000 in
theorem resolveMap_any (s : ByteArray) (l : Bs) (w : World) (hl : StrIs s l) (hm : l ≠ [60, 60]) : Calls Tryz.prog 36 #[.string s] w (MapPost l w) := by
 have hst : s.toList = l := by rw [Lib.toList_data]; exact hl
 have HST := Lib.hid hst
 clear hst hl
 by_cases h0 : l = [116, 114, 117, 101]
 ·have T : Hid (wordOf l = some ([33, 33, 98, 111, 111, 108], .bool true)) := Lib.hid (by rw [h0]; rfl)
  have e0 : (s.toList == [116, 114, 117, 101]) = true := by rw [HST.out, h0]; decide
  clear HST hm h0
  go_enter Tryz.func36, Tryz.ntmps36
  go_wp2_with (refine store90 rfl _ _ rfl _ _ rfl rfl (by rfl) (by rfl) 90 _ (heap_alloc_new _ _) (by rfl) ?_)
  exact bodyPost_ret (v := .tuple #[.agg #[.iface 4 (.bool true), .string ⟨#[33, 33, 98, 111, 111, 108]⟩], .bool true]) (results_90x Tryz.results36 _ _ _ _ _ _ rfl (row28_set _ _ _ _ (heap_alloc_new _ _)) rfl) rfl (mapPost_some (below_setRow ((Below.refl _ _).alloc (Nat.le_refl _) _) (Nat.le_refl _)) T.out rfl (AnyIs.bool true))
 by_cases h1 : l = [84, 114, 117, 101]
 ·have T : Hid (wordOf l = some ([33, 33, 98, 111, 111, 108], .bool true)) := Lib.hid (by rw [h1]; rfl)
  have e0 : (s.toList == [116, 114, 117, 101]) = false := by rw [HST.out, h1]; decide
  have e1 : (s.toList == [84, 114, 117, 101]) = true := by rw [HST.out, h1]; decide
  clear HST hm h0 h1
  go_enter Tryz.func36, Tryz.ntmps36
  go_wp2_with (refine store90 rfl _ _ rfl _ _ rfl rfl (by rfl) (by rfl) 90 _ (heap_alloc_new _ _) (by rfl) ?_)
  exact bodyPost_ret (v := .tuple #[.agg #[.iface 4 (.bool true), .string ⟨#[33, 33, 98, 111, 111, 108]⟩], .bool true]) (results_90x Tryz.results36 _ _ _ _ _ _ rfl (row28_set _ _ _ _ (heap_alloc_new _ _)) rfl) rfl (mapPost_some (below_setRow ((Below.refl _ _).alloc (Nat.le_refl _) _) (Nat.le_refl _)) T.out rfl (AnyIs.bool true))
 by_cases h2 : l = [84, 82, 85, 69]
 ·have T : Hid (wordOf l = some ([33, 33, 98, 111, 111, 108], .bool true)) := Lib.hid (by rw [h2]; rfl)
  have e0 : (s.toList == [116, 114, 117, 101]) = false := by rw [HST.out, h2]; decide
  have e1 : (s.toList == [84, 114, 117, 101]) = false := by rw [HST.out, h2]; decide
  have e2 : (s.toList == [84, 82, 85, 69]) = true := by rw [HST.out, h2]; decide
  clear HST hm h0 h1 h2
  go_enter Tryz.func36, Tryz.ntmps36
  go_wp2_with (refine store90 rfl _ _ rfl _ _ rfl rfl (by rfl) (by rfl) 90 _ (heap_alloc_new _ _) (by rfl) ?_)
  exact bodyPost_ret (v := .tuple #[.agg #[.iface 4 (.bool true), .string ⟨#[33, 33, 98, 111, 111, 108]⟩], .bool true]) (results_90x Tryz.results36 _ _ _ _ _ _ rfl (row28_set _ _ _ _ (heap_alloc_new _ _)) rfl) rfl (mapPost_some (below_setRow ((Below.refl _ _).alloc (Nat.le_refl _) _) (Nat.le_refl _)) T.out rfl (AnyIs.bool true))
 by_cases h3 : l = [102, 97, 108, 115, 101]
 ·have T : Hid (wordOf l = some ([33, 33, 98, 111, 111, 108], .bool false)) := Lib.hid (by rw [h3]; rfl)
  have e0 : (s.toList == [116, 114, 117, 101]) = false := by rw [HST.out, h3]; decide
  have e1 : (s.toList == [84, 114, 117, 101]) = false := by rw [HST.out, h3]; decide
  have e2 : (s.toList == [84, 82, 85, 69]) = false := by rw [HST.out, h3]; decide
  have e3 : (s.toList == [102, 97, 108, 115, 101]) = true := by rw [HST.out, h3]; decide
  clear HST hm h0 h1 h2 h3
  go_enter Tryz.func36, Tryz.ntmps36
  go_wp2_with (refine store90 rfl _ _ rfl _ _ rfl rfl (by rfl) (by rfl) 90 _ (heap_alloc_new _ _) (by rfl) ?_)
  exact bodyPost_ret (v := .tuple #[.agg #[.iface 4 (.bool false), .string ⟨#[33, 33, 98, 111, 111, 108]⟩], .bool true]) (results_90x Tryz.results36 _ _ _ _ _ _ rfl (row28_set _ _ _ _ (heap_alloc_new _ _)) rfl) rfl (mapPost_some (below_setRow ((Below.refl _ _).alloc (Nat.le_refl _) _) (Nat.le_refl _)) T.out rfl (AnyIs.bool false))
 by_cases h4 : l = [70, 97, 108, 115, 101]
 ·have T : Hid (wordOf l = some ([33, 33, 98, 111, 111, 108], .bool false)) := Lib.hid (by rw [h4]; rfl)
  have e0 : (s.toList == [116, 114, 117, 101]) = false := by rw [HST.out, h4]; decide
  have e1 : (s.toList == [84, 114, 117, 101]) = false := by rw [HST.out, h4]; decide
  have e2 : (s.toList == [84, 82, 85, 69]) = false := by rw [HST.out, h4]; decide
  have e3 : (s.toList == [102, 97, 108, 115, 101]) = false := by rw [HST.out, h4]; decide
  have e4 : (s.toList == [70, 97, 108, 115, 101]) = true := by rw [HST.out, h4]; decide
  clear HST hm h0 h1 h2 h3 h4
  go_enter Tryz.func36, Tryz.ntmps36
  go_wp2_with (refine store90 rfl _ _ rfl _ _ rfl rfl (by rfl) (by rfl) 90 _ (heap_alloc_new _ _) (by rfl) ?_)
  exact bodyPost_ret (v := .tuple #[.agg #[.iface 4 (.bool false), .string ⟨#[33, 33, 98, 111, 111, 108]⟩], .bool true]) (results_90x Tryz.results36 _ _ _ _ _ _ rfl (row28_set _ _ _ _ (heap_alloc_new _ _)) rfl) rfl (mapPost_some (below_setRow ((Below.refl _ _).alloc (Nat.le_refl _) _) (Nat.le_refl _)) T.out rfl (AnyIs.bool false))
 by_cases h5 : l = [70, 65, 76, 83, 69]
 ·have T : Hid (wordOf l = some ([33, 33, 98, 111, 111, 108], .bool false)) := Lib.hid (by rw [h5]; rfl)
  have e0 : (s.toList == [116, 114, 117, 101]) = false := by rw [HST.out, h5]; decide
  have e1 : (s.toList == [84, 114, 117, 101]) = false := by rw [HST.out, h5]; decide
  have e2 : (s.toList == [84, 82, 85, 69]) = false := by rw [HST.out, h5]; decide
  have e3 : (s.toList == [102, 97, 108, 115, 101]) = false := by rw [HST.out, h5]; decide
  have e4 : (s.toList == [70, 97, 108, 115, 101]) = false := by rw [HST.out, h5]; decide
  have e5 : (s.toList == [70, 65, 76, 83, 69]) = true := by rw [HST.out, h5]; decide
  clear HST hm h0 h1 h2 h3 h4 h5
  go_enter Tryz.func36, Tryz.ntmps36
  go_wp2_with (refine store90 rfl _ _ rfl _ _ rfl rfl (by rfl) (by rfl) 90 _ (heap_alloc_new _ _) (by rfl) ?_)
  exact bodyPost_ret (v := .tuple #[.agg #[.iface 4 (.bool false), .string ⟨#[33, 33, 98, 111, 111, 108]⟩], .bool true]) (results_90x Tryz.results36 _ _ _ _ _ _ rfl (row28_set _ _ _ _ (heap_alloc_new _ _)) rfl) rfl (mapPost_some (below_setRow ((Below.refl _ _).alloc (Nat.le_refl _) _) (Nat.le_refl _)) T.out rfl (AnyIs.bool false))
 by_cases h6 : l = []
 ·have T : Hid (wordOf l = some ([33, 33, 110, 117, 108, 108], .nul)) := Lib.hid (by rw [h6]; rfl)
  have e0 : (s.toList == [116, 114, 117, 101]) = false := by rw [HST.out, h6]; decide
  have e1 : (s.toList == [84, 114, 117, 101]) = false := by rw [HST.out, h6]; decide
  have e2 : (s.toList == [84, 82, 85, 69]) = false := by rw [HST.out, h6]; decide
  have e3 : (s.toList == [102, 97, 108, 115, 101]) = false := by rw [HST.out, h6]; decide
  have e4 : (s.toList == [70, 97, 108, 115, 101]) = false := by rw [HST.out, h6]; decide
  have e5 : (s.toList == [70, 65, 76, 83, 69]) = false := by rw [HST.out, h6]; decide
  have e6 : s.toList.isEmpty = true := by rw [HST.out, h6]; rfl
  clear HST hm h0 h1 h2 h3 h4 h5 h6
  go_enter Tryz.func36, Tryz.ntmps36
  go_wp2_with (refine store90 rfl _ _ rfl _ _ rfl rfl (by rfl) (by rfl) 90 _ (heap_alloc_new _ _) (by rfl) ?_)
  exact bodyPost_ret (v := .tuple #[.agg #[.nilIface, .string ⟨#[33, 33, 110, 117, 108, 108]⟩], .bool true]) (results_90x Tryz.results36 _ _ _ _ _ _ rfl (row28_set _ _ _ _ (heap_alloc_new _ _)) rfl) rfl (mapPost_some (below_setRow ((Below.refl _ _).alloc (Nat.le_refl _) _) (Nat.le_refl _)) T.out rfl (AnyIs.nul))
 by_cases h7 : l = [126]
 ·have T : Hid (wordOf l = some ([33, 33, 110, 117, 108, 108], .nul)) := Lib.hid (by rw [h7]; rfl)
  have e0 : (s.toList == [116, 114, 117, 101]) = false := by rw [HST.out, h7]; decide
  have e1 : (s.toList == [84, 114, 117, 101]) = false := by rw [HST.out, h7]; decide
  have e2 : (s.toList == [84, 82, 85, 69]) = false := by rw [HST.out, h7]; decide
  have e3 : (s.toList == [102, 97, 108, 115, 101]) = false := by rw [HST.out, h7]; decide
  have e4 : (s.toList == [70, 97, 108, 115, 101]) = false := by rw [HST.out, h7]; decide
  have e5 : (s.toList == [70, 65, 76, 83, 69]) = false := by rw [HST.out, h7]; decide
  have e6 : s.toList.isEmpty = false := by rw [HST.out, h7]; rfl
  have e7 : (s.toList == [126]) = true := by rw [HST.out, h7]; decide
  clear HST hm h0 h1 h2 h3 h4 h5 h6 h7
  go_enter Tryz.func36, Tryz.ntmps36
  go_wp2_with (refine store90 rfl _ _ rfl _ _ rfl rfl (by rfl) (by rfl) 90 _ (heap_alloc_new _ _) (by rfl) ?_)
  exact bodyPost_ret (v := .tuple #[.agg #[.nilIface, .string ⟨#[33, 33, 110, 117, 108, 108]⟩], .bool true]) (results_90x Tryz.results36 _ _ _ _ _ _ rfl (row28_set _ _ _ _ (heap_alloc_new _ _)) rfl) rfl (mapPost_some (below_setRow ((Below.refl _ _).alloc (Nat.le_refl _) _) (Nat.le_refl _)) T.out rfl (AnyIs.nul))
 by_cases h8 : l = [110, 117, 108, 108]
 ·have T : Hid (wordOf l = some ([33, 33, 110, 117, 108, 108], .nul)) := Lib.hid (by rw [h8]; rfl)
  have e0 : (s.toList == [116, 114, 117, 101]) = false := by rw [HST.out, h8]; decide
  have e1 : (s.toList == [84, 114, 117, 101]) = false := by rw [HST.out, h8]; decide
  have e2 : (s.toList == [84, 82, 85, 69]) = false := by rw [HST.out, h8]; decide
  have e3 : (s.toList == [102, 97, 108, 115, 101]) = false := by rw [HST.out, h8]; decide
  have e4 : (s.toList == [70, 97, 108, 115, 101]) = false := by rw [HST.out, h8]; decide
  have e5 : (s.toList == [70, 65, 76, 83, 69]) = false := by rw [HST.out, h8]; decide
  have e6 : s.toList.isEmpty = false := by rw [HST.out, h8]; rfl
  have e7 : (s.toList == [126]) = false := by rw [HST.out, h8]; decide
  have e8 : (s.toList == [110, 117, 108, 108]) = true := by rw [HST.out, h8]; decide
  clear HST hm h0 h1 h2 h3 h4 h5 h6 h7 h8
  go_enter Tryz.func36, Tryz.ntmps36
  go_wp2_with (refine store90 rfl _ _ rfl _ _ rfl rfl (by rfl) (by rfl) 90 _ (heap_alloc_new _ _) (by rfl) ?_)
  exact bodyPost_ret (v := .tuple #[.agg #[.nilIface, .string ⟨#[33, 33, 110, 117, 108, 108]⟩], .bool true]) (results_90x Tryz.results36 _ _ _ _ _ _ rfl (row28_set _ _ _ _ (heap_alloc_new _ _)) rfl) rfl (mapPost_some (below_setRow ((Below.refl _ _).alloc (Nat.le_refl _) _) (Nat.le_refl _)) T.out rfl (AnyIs.nul))
 by_cases h9 : l = [78, 117, 108, 108]
 ·have T : Hid (wordOf l = some ([33, 33, 110, 117, 108, 108], .nul)) := Lib.hid (by rw [h9]; rfl)
  have e0 : (s.toList == [116, 114, 117, 101]) = false := by rw [HST.out, h9]; decide
  have e1 : (s.toList == [84, 114, 117, 101]) = false := by rw [HST.out, h9]; decide
  have e2 : (s.toList == [84, 82, 85, 69]) = false := by rw [HST.out, h9]; decide
  have e3 : (s.toList == [102, 97, 108, 115, 101]) = false := by rw [HST.out, h9]; decide
  have e4 : (s.toList == [70, 97, 108, 115, 101]) = false := by rw [HST.out, h9]; decide
  have e5 : (s.toList == [70, 65, 76, 83, 69]) = false := by rw [HST.out, h9]; decide
  have e6 : s.toList.isEmpty = false := by rw [HST.out, h9]; rfl
  have e7 : (s.toList == [126]) = false := by rw [HST.out, h9]; decide
  have e8 : (s.toList == [110, 117, 108, 108]) = false := by rw [HST.out, h9]; decide
  have e9 : (s.toList == [78, 117, 108, 108]) = true := by rw [HST.out, h9]; decide
  clear HST hm h0 h1 h2 h3 h4 h5 h6 h7 h8 h9
  go_enter Tryz.func36, Tryz.ntmps36
  go_wp2_with (refine store90 rfl _ _ rfl _ _ rfl rfl (by rfl) (by rfl) 90 _ (heap_alloc_new _ _) (by rfl) ?_)
  exact bodyPost_ret (v := .tuple #[.agg #[.nilIface, .string ⟨#[33, 33, 110, 117, 108, 108]⟩], .bool true]) (results_90x Tryz.results36 _ _ _ _ _ _ rfl (row28_set _ _ _ _ (heap_alloc_new _ _)) rfl) rfl (mapPost_some (below_setRow ((Below.refl _ _).alloc (Nat.le_refl _) _) (Nat.le_refl _)) T.out rfl (AnyIs.nul))
 by_cases h10 : l = [78, 85, 76, 76]
 ·have T : Hid (wordOf l = some ([33, 33, 110, 117, 108, 108], .nul)) := Lib.hid (by rw [h10]; rfl)
  have e0 : (s.toList == [116, 114, 117, 101]) = false := by rw [HST.out, h10]; decide
  have e1 : (s.toList == [84, 114, 117, 101]) = false := by rw [HST.out, h10]; decide
  have e2 : (s.toList == [84, 82, 85, 69]) = false := by rw [HST.out, h10]; decide
  have e3 : (s.toList == [102, 97, 108, 115, 101]) = false := by rw [HST.out, h10]; decide
  have e4 : (s.toList == [70, 97, 108, 115, 101]) = false := by rw [HST.out, h10]; decide
  have e5 : (s.toList == [70, 65, 76, 83, 69]) = false := by rw [HST.out, h10]; decide
  have e6 : s.toList.isEmpty = false := by rw [HST.out, h10]; rfl
  have e7 : (s.toList == [126]) = false := by rw [HST.out, h10]; decide
  have e8 : (s.toList == [110, 117, 108, 108]) = false := by rw [HST.out, h10]; decide
  have e9 : (s.toList == [78, 117, 108, 108]) = false := by rw [HST.out, h10]; decide
  have e10 : (s.toList == [78, 85, 76, 76]) = true := by rw [HST.out, h10]; decide
  clear HST hm h0 h1 h2 h3 h4 h5 h6 h7 h8 h9 h10
  go_enter Tryz.func36, Tryz.ntmps36
  go_wp2_with (refine store90 rfl _ _ rfl _ _ rfl rfl (by rfl) (by rfl) 90 _ (heap_alloc_new _ _) (by rfl) ?_)
  exact bodyPost_ret (v := .tuple #[.agg #[.nilIface, .string ⟨#[33, 33, 110, 117, 108, 108]⟩], .bool true]) (results_90x Tryz.results36 _ _ _ _ _ _ rfl (row28_set _ _ _ _ (heap_alloc_new _ _)) rfl) rfl (mapPost_some (below_setRow ((Below.refl _ _).alloc (Nat.le_refl _) _) (Nat.le_refl _)) T.out rfl (AnyIs.nul))
 by_cases h11 : l = [46, 110, 97, 110]
 ·have T : Hid (wordOf l = some ([33, 33, 102, 108, 111, 97, 116], .flt 9221120237041090561)) := Lib.hid (by rw [h11]; rfl)
  have e0 : (s.toList == [116, 114, 117, 101]) = false := by rw [HST.out, h11]; decide
  have e1 : (s.toList == [84, 114, 117, 101]) = false := by rw [HST.out, h11]; decide
  have e2 : (s.toList == [84, 82, 85, 69]) = false := by rw [HST.out, h11]; decide
  have e3 : (s.toList == [102, 97, 108, 115, 101]) = false := by rw [HST.out, h11]; decide
  have e4 : (s.toList == [70, 97, 108, 115, 101]) = false := by rw [HST.out, h11]; decide
  have e5 : (s.toList == [70, 65, 76, 83, 69]) = false := by rw [HST.out, h11]; decide
  have e6 : s.toList.isEmpty = false := by rw [HST.out, h11]; rfl
  have e7 : (s.toList == [126]) = false := by rw [HST.out, h11]; decide
  have e8 : (s.toList == [110, 117, 108, 108]) = false := by rw [HST.out, h11]; decide
  have e9 : (s.toList == [78, 117, 108, 108]) = false := by rw [HST.out, h11]; decide
  have e10 : (s.toList == [78, 85, 76, 76]) = false := by rw [HST.out, h11]; decide
  have e11 : (s.toList == [46, 110, 97, 110]) = true := by rw [HST.out, h11]; decide
  clear HST hm h0 h1 h2 h3 h4 h5 h6 h7 h8 h9 h10 h11
  go_enter Tryz.func36, Tryz.ntmps36
  go_wp2_with fail
  refine (nan_any _).mono ?_
  rintro e w' ⟨rfl, rfl⟩
  go_wp2_with (refine store90 rfl _ _ rfl _ _ rfl rfl (by rfl) (by rfl) 90 _ (heap_alloc_new _ _) (by rfl) ?_)
  exact bodyPost_ret (v := .tuple #[.agg #[.iface 52 (.float .f64 9221120237041090561), .string ⟨#[33, 33, 102, 108, 111, 97, 116]⟩], .bool true]) (results_90x Tryz.results36 _ _ _ _ _ _ rfl (row28_set _ _ _ _ (heap_alloc_new _ _)) rfl) rfl (mapPost_some (below_setRow ((Below.refl _ _).alloc (Nat.le_refl _) _) (Nat.le_refl _)) T.out rfl (AnyIs.flt _))
 by_cases h12 : l = [46, 78, 97, 78]
 ·have T : Hid (wordOf l = some ([33, 33, 102, 108, 111, 97, 116], .flt 9221120237041090561)) := Lib.hid (by rw [h12]; rfl)
  have e0 : (s.toList == [116, 114, 117, 101]) = false := by rw [HST.out, h12]; decide
  have e1 : (s.toList == [84, 114, 117, 101]) = false := by rw [HST.out, h12]; decide
  have e2 : (s.toList == [84, 82, 85, 69]) = false := by rw [HST.out, h12]; decide
  have e3 : (s.toList == [102, 97, 108, 115, 101]) = false := by rw [HST.out, h12]; decide
  have e4 : (s.toList == [70, 97, 108, 115, 101]) = false := by rw [HST.out, h12]; decide
  have e5 : (s.toList == [70, 65, 76, 83, 69]) = false := by rw [HST.out, h12]; decide
  have e6 : s.toList.isEmpty = false := by rw [HST.out, h12]; rfl
  have e7 : (s.toList == [126]) = false := by rw [HST.out, h12]; decide
  have e8 : (s.toList == [110, 117, 108, 108]) = false := by rw [HST.out, h12]; decide
  have e9 : (s.toList == [78, 117, 108, 108]) = false := by rw [HST.out, h12]; decide
  have e10 : (s.toList == [78, 85, 76, 76]) = false := by rw [HST.out, h12]; decide
  have e11 : (s.toList == [46, 110, 97, 110]) = false := by rw [HST.out, h12]; decide
  have e12 : (s.toList == [46, 78, 97, 78]) = true := by rw [HST.out, h12]; decide
  clear HST hm h0 h1 h2 h3 h4 h5 h6 h7 h8 h9 h10 h11 h12
  go_enter Tryz.func36, Tryz.ntmps36
  go_wp2_with fail
  refine (nan_any _).mono ?_
  rintro e w' ⟨rfl, rfl⟩
  go_wp2_with (refine store90 rfl _ _ rfl _ _ rfl rfl (by rfl) (by rfl) 90 _ (heap_alloc_new _ _) (by rfl) ?_)
  exact bodyPost_ret (v := .tuple #[.agg #[.iface 52 (.float .f64 9221120237041090561), .string ⟨#[33, 33, 102, 108, 111, 97, 116]⟩], .bool true]) (results_90x Tryz.results36 _ _ _ _ _ _ rfl (row28_set _ _ _ _ (heap_alloc_new _ _)) rfl) rfl (mapPost_some (below_setRow ((Below.refl _ _).alloc (Nat.le_refl _) _) (Nat.le_refl _)) T.out rfl (AnyIs.flt _))
 by_cases h13 : l = [46, 78, 65, 78]
 ·have T : Hid (wordOf l = some ([33, 33, 102, 108, 111, 97, 116], .flt 9221120237041090561)) := Lib.hid (by rw [h13]; rfl)
  have e0 : (s.toList == [116, 114, 117, 101]) = false := by rw [HST.out, h13]; decide
  have e1 : (s.toList == [84, 114, 117, 101]) = false := by rw [HST.out, h13]; decide
  have e2 : (s.toList == [84, 82, 85, 69]) = false := by rw [HST.out, h13]; decide
  have e3 : (s.toList == [102, 97, 108, 115, 101]) = false := by rw [HST.out, h13]; decide
  have e4 : (s.toList == [70, 97, 108, 115, 101]) = false := by rw [HST.out, h13]; decide
  have e5 : (s.toList == [70, 65, 76, 83, 69]) = false := by rw [HST.out, h13]; decide
  have e6 : s.toList.isEmpty = false := by rw [HST.out, h13]; rfl
  have e7 : (s.toList == [126]) = false := by rw [HST.out, h13]; decide
  have e8 : (s.toList == [110, 117, 108, 108]) = false := by rw [HST.out, h13]; decide
  have e9 : (s.toList == [78, 117, 108, 108]) = false := by rw [HST.out, h13]; decide
  have e10 : (s.toList == [78, 85, 76, 76]) = false := by rw [HST.out, h13]; decide
  have e11 : (s.toList == [46, 110, 97, 110]) = false := by rw [HST.out, h13]; decide
  have e12 : (s.toList == [46, 78, 97, 78]) = false := by rw [HST.out, h13]; decide
  have e13 : (s.toList == [46, 78, 65, 78]) = true := by rw [HST.out, h13]; decide
  clear HST hm h0 h1 h2 h3 h4 h5 h6 h7 h8 h9 h10 h11 h12 h13
  go_enter Tryz.func36, Tryz.ntmps36
  go_wp2_with fail
  refine (nan_any _).mono ?_
  rintro e w' ⟨rfl, rfl⟩
  go_wp2_with (refine store90 rfl _ _ rfl _ _ rfl rfl (by rfl) (by rfl) 90 _ (heap_alloc_new _ _) (by rfl) ?_)
  exact bodyPost_ret (v := .tuple #[.agg #[.iface 52 (.float .f64 9221120237041090561), .string ⟨#[33, 33, 102, 108, 111, 97, 116]⟩], .bool true]) (results_90x Tryz.results36 _ _ _ _ _ _ rfl (row28_set _ _ _ _ (heap_alloc_new _ _)) rfl) rfl (mapPost_some (below_setRow ((Below.refl _ _).alloc (Nat.le_refl _) _) (Nat.le_refl _)) T.out rfl (AnyIs.flt _))
 by_cases h14 : l = [46, 105, 110, 102]
 ·have T : Hid (wordOf l = some ([33, 33, 102, 108, 111, 97, 116], .flt 9218868437227405312)) := Lib.hid (by rw [h14]; rfl)
  have e0 : (s.toList == [116, 114, 117, 101]) = false := by rw [HST.out, h14]; decide
  have e1 : (s.toList == [84, 114, 117, 101]) = false := by rw [HST.out, h14]; decide
  have e2 : (s.toList == [84, 82, 85, 69]) = false := by rw [HST.out, h14]; decide
  have e3 : (s.toList == [102, 97, 108, 115, 101]) = false := by rw [HST.out, h14]; decide
  have e4 : (s.toList == [70, 97, 108, 115, 101]) = false := by rw [HST.out, h14]; decide
  have e5 : (s.toList == [70, 65, 76, 83, 69]) = false := by rw [HST.out, h14]; decide
  have e6 : s.toList.isEmpty = false := by rw [HST.out, h14]; rfl
  have e7 : (s.toList == [126]) = false := by rw [HST.out, h14]; decide
  have e8 : (s.toList == [110, 117, 108, 108]) = false := by rw [HST.out, h14]; decide
  have e9 : (s.toList == [78, 117, 108, 108]) = false := by rw [HST.out, h14]; decide
  have e10 : (s.toList == [78, 85, 76, 76]) = false := by rw [HST.out, h14]; decide
  have e11 : (s.toList == [46, 110, 97, 110]) = false := by rw [HST.out, h14]; decide
  have e12 : (s.toList == [46, 78, 97, 78]) = false := by rw [HST.out, h14]; decide
  have e13 : (s.toList == [46, 78, 65, 78]) = false := by rw [HST.out, h14]; decide
  have e14 : (s.toList == [46, 105, 110, 102]) = true := by rw [HST.out, h14]; decide
  clear HST hm h0 h1 h2 h3 h4 h5 h6 h7 h8 h9 h10 h11 h12 h13 h14
  go_enter Tryz.func36, Tryz.ntmps36
  go_wp2_with fail
  refine (inf_pos _).mono ?_
  rintro e w' ⟨rfl, rfl⟩
  go_wp2_with (refine store90 rfl _ _ rfl _ _ rfl rfl (by rfl) (by rfl) 90 _ (heap_alloc_new _ _) (by rfl) ?_)
  exact bodyPost_ret (v := .tuple #[.agg #[.iface 52 (.float .f64 9218868437227405312), .string ⟨#[33, 33, 102, 108, 111, 97, 116]⟩], .bool true]) (results_90x Tryz.results36 _ _ _ _ _ _ rfl (row28_set _ _ _ _ (heap_alloc_new _ _)) rfl) rfl (mapPost_some (below_setRow ((Below.refl _ _).alloc (Nat.le_refl _) _) (Nat.le_refl _)) T.out rfl (AnyIs.flt _))
 by_cases h15 : l = [46, 73, 110, 102]
 ·have T : Hid (wordOf l = some ([33, 33, 102, 108, 111, 97, 116], .flt 9218868437227405312)) := Lib.hid (by rw [h15]; rfl)
  have e0 : (s.toList == [116, 114, 117, 101]) = false := by rw [HST.out, h15]; decide
  have e1 : (s.toList == [84, 114, 117, 101]) = false := by rw [HST.out, h15]; decide
  have e2 : (s.toList == [84, 82, 85, 69]) = false := by rw [HST.out, h15]; decide
  have e3 : (s.toList == [102, 97, 108, 115, 101]) = false := by rw [HST.out, h15]; decide
  have e4 : (s.toList == [70, 97, 108, 115, 101]) = false := by rw [HST.out, h15]; decide
  have e5 : (s.toList == [70, 65, 76, 83, 69]) = false := by rw [HST.out, h15]; decide
  have e6 : s.toList.isEmpty = false := by rw [HST.out, h15]; rfl
  have e7 : (s.toList == [126]) = false := by rw [HST.out, h15]; decide
  have e8 : (s.toList == [110, 117, 108, 108]) = false := by rw [HST.out, h15]; decide
  have e9 : (s.toList == [78, 117, 108, 108]) = false := by rw [HST.out, h15]; decide
  have e10 : (s.toList == [78, 85, 76, 76]) = false := by rw [HST.out, h15]; decide
  have e11 : (s.toList == [46, 110, 97, 110]) = false := by rw [HST.out, h15]; decide
  have e12 : (s.toList == [46, 78, 97, 78]) = false := by rw [HST.out, h15]; decide
  have e13 : (s.toList == [46, 78, 65, 78]) = false := by rw [HST.out, h15]; decide
  have e14 : (s.toList == [46, 105, 110, 102]) = false := by rw [HST.out, h15]; decide
  have e15 : (s.toList == [46, 73, 110, 102]) = true := by rw [HST.out, h15]; decide
  clear HST hm h0 h1 h2 h3 h4 h5 h6 h7 h8 h9 h10 h11 h12 h13 h14 h15
  go_enter Tryz.func36, Tryz.ntmps36
  go_wp2_with fail
  refine (inf_pos _).mono ?_
  rintro e w' ⟨rfl, rfl⟩
  go_wp2_with (refine store90 rfl _ _ rfl _ _ rfl rfl (by rfl) (by rfl) 90 _ (heap_alloc_new _ _) (by rfl) ?_)
  exact bodyPost_ret (v := .tuple #[.agg #[.iface 52 (.float .f64 9218868437227405312), .string ⟨#[33, 33, 102, 108, 111, 97, 116]⟩], .bool true]) (results_90x Tryz.results36 _ _ _ _ _ _ rfl (row28_set _ _ _ _ (heap_alloc_new _ _)) rfl) rfl (mapPost_some (below_setRow ((Below.refl _ _).alloc (Nat.le_refl _) _) (Nat.le_refl _)) T.out rfl (AnyIs.flt _))
 by_cases h16 : l = [46, 73, 78, 70]
 ·have T : Hid (wordOf l = some ([33, 33, 102, 108, 111, 97, 116], .flt 9218868437227405312)) := Lib.hid (by rw [h16]; rfl)
  have e0 : (s.toList == [116, 114, 117, 101]) = false := by rw [HST.out, h16]; decide
  have e1 : (s.toList == [84, 114, 117, 101]) = false := by rw [HST.out, h16]; decide
  have e2 : (s.toList == [84, 82, 85, 69]) = false := by rw [HST.out, h16]; decide
  have e3 : (s.toList == [102, 97, 108, 115, 101]) = false := by rw [HST.out, h16]; decide
  have e4 : (s.toList == [70, 97, 108, 115, 101]) = false := by rw [HST.out, h16]; decide
  have e5 : (s.toList == [70, 65, 76, 83, 69]) = false := by rw [HST.out, h16]; decide
  have e6 : s.toList.isEmpty = false := by rw [HST.out, h16]; rfl
  have e7 : (s.toList == [126]) = false := by rw [HST.out, h16]; decide
  have e8 : (s.toList == [110, 117, 108, 108]) = false := by rw [HST.out, h16]; decide
  have e9 : (s.toList == [78, 117, 108, 108]) = false := by rw [HST.out, h16]; decide
  have e10 : (s.toList == [78, 85, 76, 76]) = false := by rw [HST.out, h16]; decide
  have e11 : (s.toList == [46, 110, 97, 110]) = false := by rw [HST.out, h16]; decide
  have e12 : (s.toList == [46, 78, 97, 78]) = false := by rw [HST.out, h16]; decide
  have e13 : (s.toList == [46, 78, 65, 78]) = false := by rw [HST.out, h16]; decide
  have e14 : (s.toList == [46, 105, 110, 102]) = false := by rw [HST.out, h16]; decide
  have e15 : (s.toList == [46, 73, 110, 102]) = false := by rw [HST.out, h16]; decide
  have e16 : (s.toList == [46, 73, 78, 70]) = true := by rw [HST.out, h16]; decide
  clear HST hm h0 h1 h2 h3 h4 h5 h6 h7 h8 h9 h10 h11 h12 h13 h14 h15 h16
  go_enter Tryz.func36, Tryz.ntmps36
  go_wp2_with fail
  refine (inf_pos _).mono ?_
  rintro e w' ⟨rfl, rfl⟩
  go_wp2_with (refine store90 rfl _ _ rfl _ _ rfl rfl (by rfl) (by rfl) 90 _ (heap_alloc_new _ _) (by rfl) ?_)
  exact bodyPost_ret (v := .tuple #[.agg #[.iface 52 (.float .f64 9218868437227405312), .string ⟨#[33, 33, 102, 108, 111, 97, 116]⟩], .bool true]) (results_90x Tryz.results36 _ _ _ _ _ _ rfl (row28_set _ _ _ _ (heap_alloc_new _ _)) rfl) rfl (mapPost_some (below_setRow ((Below.refl _ _).alloc (Nat.le_refl _) _) (Nat.le_refl _)) T.out rfl (AnyIs.flt _))
 by_cases h17 : l = [43, 46, 105, 110, 102]
 ·have T : Hid (wordOf l = some ([33, 33, 102, 108, 111, 97, 116], .flt 9218868437227405312)) := Lib.hid (by rw [h17]; rfl)
  have e0 : (s.toList == [116, 114, 117, 101]) = false := by rw [HST.out, h17]; decide
  have e1 : (s.toList == [84, 114, 117, 101]) = false := by rw [HST.out, h17]; decide
  have e2 : (s.toList == [84, 82, 85, 69]) = false := by rw [HST.out, h17]; decide
  have e3 : (s.toList == [102, 97, 108, 115, 101]) = false := by rw [HST.out, h17]; decide
  have e4 : (s.toList == [70, 97, 108, 115, 101]) = false := by rw [HST.out, h17]; decide
  have e5 : (s.toList == [70, 65, 76, 83, 69]) = false := by rw [HST.out, h17]; decide
  have e6 : s.toList.isEmpty = false := by rw [HST.out, h17]; rfl
  have e7 : (s.toList == [126]) = false := by rw [HST.out, h17]; decide
  have e8 : (s.toList == [110, 117, 108, 108]) = false := by rw [HST.out, h17]; decide
  have e9 : (s.toList == [78, 117, 108, 108]) = false := by rw [HST.out, h17]; decide
  have e10 : (s.toList == [78, 85, 76, 76]) = false := by rw [HST.out, h17]; decide
  have e11 : (s.toList == [46, 110, 97, 110]) = false := by rw [HST.out, h17]; decide
  have e12 : (s.toList == [46, 78, 97, 78]) = false := by rw [HST.out, h17]; decide
  have e13 : (s.toList == [46, 78, 65, 78]) = false := by rw [HST.out, h17]; decide
  have e14 : (s.toList == [46, 105, 110, 102]) = false := by rw [HST.out, h17]; decide
  have e15 : (s.toList == [46, 73, 110, 102]) = false := by rw [HST.out, h17]; decide
  have e16 : (s.toList == [46, 73, 78, 70]) = false := by rw [HST.out, h17]; decide
  have e17 : (s.toList == [43, 46, 105, 110, 102]) = true := by rw [HST.out, h17]; decide
  clear HST hm h0 h1 h2 h3 h4 h5 h6 h7 h8 h9 h10 h11 h12 h13 h14 h15 h16 h17
  go_enter Tryz.func36, Tryz.ntmps36
  go_wp2_with fail
  refine (inf_pos _).mono ?_
  rintro e w' ⟨rfl, rfl⟩
  go_wp2_with (refine store90 rfl _ _ rfl _ _ rfl rfl (by rfl) (by rfl) 90 _ (heap_alloc_new _ _) (by rfl) ?_)
  exact bodyPost_ret (v := .tuple #[.agg #[.iface 52 (.float .f64 9218868437227405312), .string ⟨#[33, 33, 102, 108, 111, 97, 116]⟩], .bool true]) (results_90x Tryz.results36 _ _ _ _ _ _ rfl (row28_set _ _ _ _ (heap_alloc_new _ _)) rfl) rfl (mapPost_some (below_setRow ((Below.refl _ _).alloc (Nat.le_refl _) _) (Nat.le_refl _)) T.out rfl (AnyIs.flt _))
 by_cases h18 : l = [43, 46, 73, 110, 102]
 ·have T : Hid (wordOf l = some ([33, 33, 102, 108, 111, 97, 116], .flt 9218868437227405312)) := Lib.hid (by rw [h18]; rfl)
  have e0 : (s.toList == [116, 114, 117, 101]) = false := by rw [HST.out, h18]; decide
  have e1 : (s.toList == [84, 114, 117, 101]) = false := by rw [HST.out, h18]; decide
  have e2 : (s.toList == [84, 82, 85, 69]) = false := by rw [HST.out, h18]; decide
  have e3 : (s.toList == [102, 97, 108, 115, 101]) = false := by rw [HST.out, h18]; decide
  have e4 : (s.toList == [70, 97, 108, 115, 101]) = false := by rw [HST.out, h18]; decide
  have e5 : (s.toList == [70, 65, 76, 83, 69]) = false := by rw [HST.out, h18]; decide
  have e6 : s.toList.isEmpty = false := by rw [HST.out, h18]; rfl
  have e7 : (s.toList == [126]) = false := by rw [HST.out, h18]; decide
  have e8 : (s.toList == [110, 117, 108, 108]) = false := by rw [HST.out, h18]; decide
  have e9 : (s.toList == [78, 117, 108, 108]) = false := by rw [HST.out, h18]; decide
  have e10 : (s.toList == [78, 85, 76, 76]) = false := by rw [HST.out, h18]; decide
  have e11 : (s.toList == [46, 110, 97, 110]) = false := by rw [HST.out, h18]; decide
  have e12 : (s.toList == [46, 78, 97, 78]) = false := by rw [HST.out, h18]; decide
  have e13 : (s.toList == [46, 78, 65, 78]) = false := by rw [HST.out, h18]; decide
  have e14 : (s.toList == [46, 105, 110, 102]) = false := by rw [HST.out, h18]; decide
  have e15 : (s.toList == [46, 73, 110, 102]) = false := by rw [HST.out, h18]; decide
  have e16 : (s.toList == [46, 73, 78, 70]) = false := by rw [HST.out, h18]; decide
  have e17 : (s.toList == [43, 46, 105, 110, 102]) = false := by rw [HST.out, h18]; decide
  have e18 : (s.toList == [43, 46, 73, 110, 102]) = true := by rw [HST.out, h18]; decide
  clear HST hm h0 h1 h2 h3 h4 h5 h6 h7 h8 h9 h10 h11 h12 h13 h14 h15 h16 h17 h18
  go_enter Tryz.func36, Tryz.ntmps36
  go_wp2_with fail
  refine (inf_pos _).mono ?_
  rintro e w' ⟨rfl, rfl⟩
  go_wp2_with (refine store90 rfl _ _ rfl _ _ rfl rfl (by rfl) (by rfl) 90 _ (heap_alloc_new _ _) (by rfl) ?_)
  exact bodyPost_ret (v := .tuple #[.agg #[.iface 52 (.float .f64 9218868437227405312), .string ⟨#[33, 33, 102, 108, 111, 97, 116]⟩], .bool true]) (results_90x Tryz.results36 _ _ _ _ _ _ rfl (row28_set _ _ _ _ (heap_alloc_new _ _)) rfl) rfl (mapPost_some (below_setRow ((Below.refl _ _).alloc (Nat.le_refl _) _) (Nat.le_refl _)) T.out rfl (AnyIs.flt _))
 by_cases h19 : l = [43, 46, 73, 78, 70]
 ·have T : Hid (wordOf l = some ([33, 33, 102, 108, 111, 97, 116], .flt 9218868437227405312)) := Lib.hid (by rw [h19]; rfl)
  have e0 : (s.toList == [116, 114, 117, 101]) = false := by rw [HST.out, h19]; decide
  have e1 : (s.toList == [84, 114, 117, 101]) = false := by rw [HST.out, h19]; decide
  have e2 : (s.toList == [84, 82, 85, 69]) = false := by rw [HST.out, h19]; decide
  have e3 : (s.toList == [102, 97, 108, 115, 101]) = false := by rw [HST.out, h19]; decide
  have e4 : (s.toList == [70, 97, 108, 115, 101]) = false := by rw [HST.out, h19]; decide
  have e5 : (s.toList == [70, 65, 76, 83, 69]) = false := by rw [HST.out, h19]; decide
  have e6 : s.toList.isEmpty = false := by rw [HST.out, h19]; rfl
  have e7 : (s.toList == [126]) = false := by rw [HST.out, h19]; decide
  have e8 : (s.toList == [110, 117, 108, 108]) = false := by rw [HST.out, h19]; decide
  have e9 : (s.toList == [78, 117, 108, 108]) = false := by rw [HST.out, h19]; decide
  have e10 : (s.toList == [78, 85, 76, 76]) = false := by rw [HST.out, h19]; decide
  have e11 : (s.toList == [46, 110, 97, 110]) = false := by rw [HST.out, h19]; decide
  have e12 : (s.toList == [46, 78, 97, 78]) = false := by rw [HST.out, h19]; decide
  have e13 : (s.toList == [46, 78, 65, 78]) = false := by rw [HST.out, h19]; decide
  have e14 : (s.toList == [46, 105, 110, 102]) = false := by rw [HST.out, h19]; decide
  have e15 : (s.toList == [46, 73, 110, 102]) = false := by rw [HST.out, h19]; decide
  have e16 : (s.toList == [46, 73, 78, 70]) = false := by rw [HST.out, h19]; decide
  have e17 : (s.toList == [43, 46, 105, 110, 102]) = false := by rw [HST.out, h19]; decide
  have e18 : (s.toList == [43, 46, 73, 110, 102]) = false := by rw [HST.out, h19]; decide
  have e19 : (s.toList == [43, 46, 73, 78, 70]) = true := by rw [HST.out, h19]; decide
  clear HST hm h0 h1 h2 h3 h4 h5 h6 h7 h8 h9 h10 h11 h12 h13 h14 h15 h16 h17 h18 h19
  go_enter Tryz.func36, Tryz.ntmps36
  go_wp2_with fail
  refine (inf_pos _).mono ?_
  rintro e w' ⟨rfl, rfl⟩
  go_wp2_with (refine store90 rfl _ _ rfl _ _ rfl rfl (by rfl) (by rfl) 90 _ (heap_alloc_new _ _) (by rfl) ?_)
  exact bodyPost_ret (v := .tuple #[.agg #[.iface 52 (.float .f64 9218868437227405312), .string ⟨#[33, 33, 102, 108, 111, 97, 116]⟩], .bool true]) (results_90x Tryz.results36 _ _ _ _ _ _ rfl (row28_set _ _ _ _ (heap_alloc_new _ _)) rfl) rfl (mapPost_some (below_setRow ((Below.refl _ _).alloc (Nat.le_refl _) _) (Nat.le_refl _)) T.out rfl (AnyIs.flt _))
 by_cases h20 : l = [45, 46, 105, 110, 102]
 ·have T : Hid (wordOf l = some ([33, 33, 102, 108, 111, 97, 116], .flt 18442240474082181120)) := Lib.hid (by rw [h20]; rfl)
  have e0 : (s.toList == [116, 114, 117, 101]) = false := by rw [HST.out, h20]; decide
  have e1 : (s.toList == [84, 114, 117, 101]) = false := by rw [HST.out, h20]; decide
  have e2 : (s.toList == [84, 82, 85, 69]) = false := by rw [HST.out, h20]; decide
  have e3 : (s.toList == [102, 97, 108, 115, 101]) = false := by rw [HST.out, h20]; decide
  have e4 : (s.toList == [70, 97, 108, 115, 101]) = false := by rw [HST.out, h20]; decide
  have e5 : (s.toList == [70, 65, 76, 83, 69]) = false := by rw [HST.out, h20]; decide
  have e6 : s.toList.isEmpty = false := by rw [HST.out, h20]; rfl
  have e7 : (s.toList == [126]) = false := by rw [HST.out, h20]; decide
  have e8 : (s.toList == [110, 117, 108, 108]) = false := by rw [HST.out, h20]; decide
  have e9 : (s.toList == [78, 117, 108, 108]) = false := by rw [HST.out, h20]; decide
  have e10 : (s.toList == [78, 85, 76, 76]) = false := by rw [HST.out, h20]; decide
  have e11 : (s.toList == [46, 110, 97, 110]) = false := by rw [HST.out, h20]; decide
  have e12 : (s.toList == [46, 78, 97, 78]) = false := by rw [HST.out, h20]; decide
  have e13 : (s.toList == [46, 78, 65, 78]) = false := by rw [HST.out, h20]; decide
  have e14 : (s.toList == [46, 105, 110, 102]) = false := by rw [HST.out, h20]; decide
  have e15 : (s.toList == [46, 73, 110, 102]) = false := by rw [HST.out, h20]; decide
  have e16 : (s.toList == [46, 73, 78, 70]) = false := by rw [HST.out, h20]; decide
  have e17 : (s.toList == [43, 46, 105, 110, 102]) = false := by rw [HST.out, h20]; decide
  have e18 : (s.toList == [43, 46, 73, 110, 102]) = false := by rw [HST.out, h20]; decide
  have e19 : (s.toList == [43, 46, 73, 78, 70]) = false := by rw [HST.out, h20]; decide
  have e20 : (s.toList == [45, 46, 105, 110, 102]) = true := by rw [HST.out, h20]; decide
  clear HST hm h0 h1 h2 h3 h4 h5 h6 h7 h8 h9 h10 h11 h12 h13 h14 h15 h16 h17 h18 h19 h20
  go_enter Tryz.func36, Tryz.ntmps36
  go_wp2_with fail
  refine (inf_neg _).mono ?_
  rintro e w' ⟨rfl, rfl⟩
  go_wp2_with (refine store90 rfl _ _ rfl _ _ rfl rfl (by rfl) (by rfl) 90 _ (heap_alloc_new _ _) (by rfl) ?_)
  exact bodyPost_ret (v := .tuple #[.agg #[.iface 52 (.float .f64 18442240474082181120), .string ⟨#[33, 33, 102, 108, 111, 97, 116]⟩], .bool true]) (results_90x Tryz.results36 _ _ _ _ _ _ rfl (row28_set _ _ _ _ (heap_alloc_new _ _)) rfl) rfl (mapPost_some (below_setRow ((Below.refl _ _).alloc (Nat.le_refl _) _) (Nat.le_refl _)) T.out rfl (AnyIs.flt _))
 by_cases h21 : l = [45, 46, 73, 110, 102]
 ·have T : Hid (wordOf l = some ([33, 33, 102, 108, 111, 97, 116], .flt 18442240474082181120)) := Lib.hid (by rw [h21]; rfl)
  have e0 : (s.toList == [116, 114, 117, 101]) = false := by rw [HST.out, h21]; decide
  have e1 : (s.toList == [84, 114, 117, 101]) = false := by rw [HST.out, h21]; decide
  have e2 : (s.toList == [84, 82, 85, 69]) = false := by rw [HST.out, h21]; decide
  have e3 : (s.toList == [102, 97, 108, 115, 101]) = false := by rw [HST.out, h21]; decide
  have e4 : (s.toList == [70, 97, 108, 115, 101]) = false := by rw [HST.out, h21]; decide
  have e5 : (s.toList == [70, 65, 76, 83, 69]) = false := by rw [HST.out, h21]; decide
  have e6 : s.toList.isEmpty = false := by rw [HST.out, h21]; rfl
  have e7 : (s.toList == [126]) = false := by rw [HST.out, h21]; decide
  have e8 : (s.toList == [110, 117, 108, 108]) = false := by rw [HST.out, h21]; decide
  have e9 : (s.toList == [78, 117, 108, 108]) = false := by rw [HST.out, h21]; decide
  have e10 : (s.toList == [78, 85, 76, 76]) = false := by rw [HST.out, h21]; decide
  have e11 : (s.toList == [46, 110, 97, 110]) = false := by rw [HST.out, h21]; decide
  have e12 : (s.toList == [46, 78, 97, 78]) = false := by rw [HST.out, h21]; decide
  have e13 : (s.toList == [46, 78, 65, 78]) = false := by rw [HST.out, h21]; decide
  have e14 : (s.toList == [46, 105, 110, 102]) = false := by rw [HST.out, h21]; decide
  have e15 : (s.toList == [46, 73, 110, 102]) = false := by rw [HST.out, h21]; decide
  have e16 : (s.toList == [46, 73, 78, 70]) = false := by rw [HST.out, h21]; decide
  have e17 : (s.toList == [43, 46, 105, 110, 102]) = false := by rw [HST.out, h21]; decide
  have e18 : (s.toList == [43, 46, 73, 110, 102]) = false := by rw [HST.out, h21]; decide
  have e19 : (s.toList == [43, 46, 73, 78, 70]) = false := by rw [HST.out, h21]; decide
  have e20 : (s.toList == [45, 46, 105, 110, 102]) = false := by rw [HST.out, h21]; decide
  have e21 : (s.toList == [45, 46, 73, 110, 102]) = true := by rw [HST.out, h21]; decide
  clear HST hm h0 h1 h2 h3 h4 h5 h6 h7 h8 h9 h10 h11 h12 h13 h14 h15 h16 h17 h18 h19 h20 h21
  go_enter Tryz.func36, Tryz.ntmps36
  go_wp2_with fail
  refine (inf_neg _).mono ?_
  rintro e w' ⟨rfl, rfl⟩
  go_wp2_with (refine store90 rfl _ _ rfl _ _ rfl rfl (by rfl) (by rfl) 90 _ (heap_alloc_new _ _) (by rfl) ?_)
  exact bodyPost_ret (v := .tuple #[.agg #[.iface 52 (.float .f64 18442240474082181120), .string ⟨#[33, 33, 102, 108, 111, 97, 116]⟩], .bool true]) (results_90x Tryz.results36 _ _ _ _ _ _ rfl (row28_set _ _ _ _ (heap_alloc_new _ _)) rfl) rfl (mapPost_some (below_setRow ((Below.refl _ _).alloc (Nat.le_refl _) _) (Nat.le_refl _)) T.out rfl (AnyIs.flt _))
 by_cases h22 : l = [45, 46, 73, 78, 70]
 ·have T : Hid (wordOf l = some ([33, 33, 102, 108, 111, 97, 116], .flt 18442240474082181120)) := Lib.hid (by rw [h22]; rfl)
  have e0 : (s.toList == [116, 114, 117, 101]) = false := by rw [HST.out, h22]; decide
  have e1 : (s.toList == [84, 114, 117, 101]) = false := by rw [HST.out, h22]; decide
  have e2 : (s.toList == [84, 82, 85, 69]) = false := by rw [HST.out, h22]; decide
  have e3 : (s.toList == [102, 97, 108, 115, 101]) = false := by rw [HST.out, h22]; decide
  have e4 : (s.toList == [70, 97, 108, 115, 101]) = false := by rw [HST.out, h22]; decide
  have e5 : (s.toList == [70, 65, 76, 83, 69]) = false := by rw [HST.out, h22]; decide
  have e6 : s.toList.isEmpty = false := by rw [HST.out, h22]; rfl
  have e7 : (s.toList == [126]) = false := by rw [HST.out, h22]; decide
  have e8 : (s.toList == [110, 117, 108, 108]) = false := by rw [HST.out, h22]; decide
  have e9 : (s.toList == [78, 117, 108, 108]) = false := by rw [HST.out, h22]; decide
  have e10 : (s.toList == [78, 85, 76, 76]) = false := by rw [HST.out, h22]; decide
  have e11 : (s.toList == [46, 110, 97, 110]) = false := by rw [HST.out, h22]; decide
  have e12 : (s.toList == [46, 78, 97, 78]) = false := by rw [HST.out, h22]; decide
  have e13 : (s.toList == [46, 78, 65, 78]) = false := by rw [HST.out, h22]; decide
  have e14 : (s.toList == [46, 105, 110, 102]) = false := by rw [HST.out, h22]; decide
  have e15 : (s.toList == [46, 73, 110, 102]) = false := by rw [HST.out, h22]; decide
  have e16 : (s.toList == [46, 73, 78, 70]) = false := by rw [HST.out, h22]; decide
  have e17 : (s.toList == [43, 46, 105, 110, 102]) = false := by rw [HST.out, h22]; decide
  have e18 : (s.toList == [43, 46, 73, 110, 102]) = false := by rw [HST.out, h22]; decide
  have e19 : (s.toList == [43, 46, 73, 78, 70]) = false := by rw [HST.out, h22]; decide
  have e20 : (s.toList == [45, 46, 105, 110, 102]) = false := by rw [HST.out, h22]; decide
  have e21 : (s.toList == [45, 46, 73, 110, 102]) = false := by rw [HST.out, h22]; decide
  have e22 : (s.toList == [45, 46, 73, 78, 70]) = true := by rw [HST.out, h22]; decide
  clear HST hm h0 h1 h2 h3 h4 h5 h6 h7 h8 h9 h10 h11 h12 h13 h14 h15 h16 h17 h18 h19 h20 h21 h22
  go_enter Tryz.func36, Tryz.ntmps36
  go_wp2_with fail
  refine (inf_neg _).mono ?_
  rintro e w' ⟨rfl, rfl⟩
  go_wp2_with (refine store90 rfl _ _ rfl _ _ rfl rfl (by rfl) (by rfl) 90 _ (heap_alloc_new _ _) (by rfl) ?_)
  exact bodyPost_ret (v := .tuple #[.agg #[.iface 52 (.float .f64 18442240474082181120), .string ⟨#[33, 33, 102, 108, 111, 97, 116]⟩], .bool true]) (results_90x Tryz.results36 _ _ _ _ _ _ rfl (row28_set _ _ _ _ (heap_alloc_new _ _)) rfl) rfl (mapPost_some (below_setRow ((Below.refl _ _).alloc (Nat.le_refl _) _) (Nat.le_refl _)) T.out rfl (AnyIs.flt _))
 have T : Hid (wordOf l = none) := Lib.hid (by unfold wordOf; rw [if_neg (by simp [h6, h7, h8, h9, h10])]; rw [if_neg (by simp [h0, h1, h2])]; rw [if_neg (by simp [h3, h4, h5])]; rw [if_neg (by simp [h14, h15, h16, h17, h18, h19])]; rw [if_neg (by simp [h20, h21, h22])]; rw [if_neg (by simp [h11, h12, h13])])
 have e0 : (s.toList == [116, 114, 117, 101]) = false := by rw [HST.out]; exact beq_false_of_ne h0
 have e1 : (s.toList == [84, 114, 117, 101]) = false := by rw [HST.out]; exact beq_false_of_ne h1
 have e2 : (s.toList == [84, 82, 85, 69]) = false := by rw [HST.out]; exact beq_false_of_ne h2
 have e3 : (s.toList == [102, 97, 108, 115, 101]) = false := by rw [HST.out]; exact beq_false_of_ne h3
 have e4 : (s.toList == [70, 97, 108, 115, 101]) = false := by rw [HST.out]; exact beq_false_of_ne h4
 have e5 : (s.toList == [70, 65, 76, 83, 69]) = false := by rw [HST.out]; exact beq_false_of_ne h5
 have e6 : s.toList.isEmpty = false := by rw [HST.out]; cases l with | nil => exact absurd rfl h6 | cons a b => rfl
 have e7 : (s.toList == [126]) = false := by rw [HST.out]; exact beq_false_of_ne h7
 have e8 : (s.toList == [110, 117, 108, 108]) = false := by rw [HST.out]; exact beq_false_of_ne h8
 have e9 : (s.toList == [78, 117, 108, 108]) = false := by rw [HST.out]; exact beq_false_of_ne h9
 have e10 : (s.toList == [78, 85, 76, 76]) = false := by rw [HST.out]; exact beq_false_of_ne h10
 have e11 : (s.toList == [46, 110, 97, 110]) = false := by rw [HST.out]; exact beq_false_of_ne h11
 have e12 : (s.toList == [46, 78, 97, 78]) = false := by rw [HST.out]; exact beq_false_of_ne h12
 have e13 : (s.toList == [46, 78, 65, 78]) = false := by rw [HST.out]; exact beq_false_of_ne h13
 have e14 : (s.toList == [46, 105, 110, 102]) = false := by rw [HST.out]; exact beq_false_of_ne h14
 have e15 : (s.toList == [46, 73, 110, 102]) = false := by rw [HST.out]; exact beq_false_of_ne h15
 have e16 : (s.toList == [46, 73, 78, 70]) = false := by rw [HST.out]; exact beq_false_of_ne h16
 have e17 : (s.toList == [43, 46, 105, 110, 102]) = false := by rw [HST.out]; exact beq_false_of_ne h17
 have e18 : (s.toList == [43, 46, 73, 110, 102]) = false := by rw [HST.out]; exact beq_false_of_ne h18
 have e19 : (s.toList == [43, 46, 73, 78, 70]) = false := by rw [HST.out]; exact beq_false_of_ne h19
 have e20 : (s.toList == [45, 46, 105, 110, 102]) = false := by rw [HST.out]; exact beq_false_of_ne h20
 have e21 : (s.toList == [45, 46, 73, 110, 102]) = false := by rw [HST.out]; exact beq_false_of_ne h21
 have e22 : (s.toList == [45, 46, 73, 78, 70]) = false := by rw [HST.out]; exact beq_false_of_ne h22
 have em : (s.toList == [60, 60]) = false := by rw [HST.out]; exact beq_false_of_ne hm
 clear HST hm h0 h1 h2 h3 h4 h5 h6 h7 h8 h9 h10 h11 h12 h13 h14 h15 h16 h17 h18 h19 h20 h21 h22
 go_enter Tryz.func36, Tryz.ntmps36
 go_wp2_with (refine store90 rfl _ _ rfl _ _ rfl rfl (by rfl) (by rfl) 90 _ (heap_alloc_new _ _) (by rfl) ?_)
 exact bodyPost_ret (v := .tuple #[.agg #[.nilIface, .string ⟨#[]⟩], .bool false]) (results_90x Tryz.results36 _ _ _ _ _ _ rfl (row28_set _ _ _ _ (heap_alloc_new _ _)) rfl) rfl ⟨below_setRow ((Below.refl _ _).alloc (Nat.le_refl _) _) (Nat.le_refl _), .inr ⟨T.out, rfl⟩⟩
end Go.Proofs.YtillamhoakohdaaGreatDoor
