/-
  laws.FnWriteChallenge: what the function computes, for any bytes.
-/
import Derived.Test.YtoiddialallcnaaGreatDoorWvK
import Derived.Test.YtoiddialallcnaaGreatDoorWvJ
set_option linter.unusedVariables false
set_option linter.unusedSimpArgs false
set_option maxRecDepth 100000
set_option maxHeartbeats 1000000
namespace Go.Ax
open Go.Proofs

theorem f4Z_ev (d : List UInt8) : evFun Tryz.prog noG Tryz.f4 [.bts d] [] [.bit true, .fin []] = some (.lit (.bool true), [], [decide ((↑d.length : Int) > (2147483647 : Int)) = true]) := by kernel_rfl
theorem f4Z (d : List UInt8) (h : d.length > 2147483647) : ACalls Tryz.prog noG 4 [.bts d] [] (.lit (.bool true)) [] :=
  ACalls_ev (by kernel_rfl) Tryz.func4 (by kernel_rfl) (f4Z_ev d) ⟨by simp; omega, trivial⟩

theorem outA97 : outA [97] = [0, 83, 66, 208, 0, 0, 0, 7, 0, 0, 0, 1, 160, 1, 97] := by decide

theorem fnWriteChallenge (d : List UInt8) : ACalls Tryz.prog noG 4 [.bts d] [] (.lit (.bool true)) [] := by
  have s1 := writeA [97] (by decide) (by decide)
  have s2 := challengeOf [97]
  have s3 := composedC [97] (outA [97]) (takeA [97] (by decide) (by decide))
  rw [outA97] at s1 s3
  by_cases z : d.length ≤ 2147483647
  · by_cases n : d.length = 0 ∨ d.length > 1000
    · have n' : d = [] ∨ (1000 : Int) < (↑d.length : Int) := by
        rcases n with n | n
        · exact .inl (List.eq_nil_of_length_eq_zero n)
        · exact .inr (by omega)
      exact f4N d z (by simp only [AllP]; repeat' (first | exact trivial | exact n' | with_reducible apply And.intro | exact s3 | exact s2 | exact s1 | omega))
    · have n' : ¬d = [] := fun h => n (.inl (by rw [h]; rfl))
      have c2 := challengeOf d
      by_cases a : d.length ≤ 255
      · have c1 := writeA d (by omega) a
        have c3 := composedC d (outA d) (takeA d (by omega) a)
        exact f4A d (outA d) (by omega) (by omega) (by simp only [AllP]; repeat' (first | exact trivial | exact n' | with_reducible apply And.intro | exact c3 | exact c2 | exact c1 | exact s3 | exact s2 | exact s1 | omega))
      · have c1 := writeB d (by omega) (by omega)
        have c3 := composedC d (outB d) (takeB d (by omega) (by omega))
        exact f4A d (outB d) (by omega) (by omega) (by simp only [AllP]; repeat' (first | exact trivial | exact n' | with_reducible apply And.intro | exact c3 | exact c2 | exact c1 | exact s3 | exact s2 | exact s1 | omega))
  · exact f4Z d (by omega)
end Go.Ax
