/-
  Runs of the abstract machine, printed by program.
-/
import Derived.Test.YtbdfpnhcincimaaDoorVaA
import Derived.Test.YtbdfpnhcincimaaDoorProg
import Derived.Test.YtbdfpnhcincimaaDoorAx33
set_option linter.unusedVariables false
set_option linter.unusedSimpArgs false
set_option maxRecDepth 100000
set_option maxHeartbeats 0
namespace Go.Ax
open Go.Proofs
theorem vzl (G : Env) (k u : Int) (t : ByteArray) (n : Nat) (f : Nat → ValT) (o : Int) (d : Nat) (g : Nat → ValT) (l : Int) (i : Nat) (hC : AllP [ACalls Tryd.prog G 81 [AV.agg (vcl (f i)), iL (l - (1 : Int))] [] (bL true) [], leAll [AV.agg (vcl (f (↑i : Int).toNat)), iL (IntKind.i64.wrap (l - (1 : Int)))] [AV.agg (vcl (f i)), iL (l - (1 : Int))], (0 : Int) ≤ (↑i : Int) ∧ (↑i : Int) < (↑n : Int), decide ((↑i : Int) < (↑n : Int)) = true]) : CodeC Tryd.prog G 161 (loopAt Tryd.f81 0) [(1, iL l), (2, .ptr 0 0), (147, kA n f), (148, iL n), (149, iL i)] [vR (vmk k u t n f o d g)] (AExit.normal) ([(1, iL l), (2, AV.ptr 0 0), (147, kA n f), (148, iL (↑n : Int)), (149, iL (IntKind.i64.wrap ((↑i : Int) + (1 : Int))))]) ([vR (vmk k u t n f o d g)]) :=
  CodeC_scr [0] [1, 2, 147, 148, 149] (Sg (Tf (SO (.call [] [AV.agg (vcl (f i)), iL (l - (1 : Int))] [] (bL true) []) (SP (getP 0 hC) (SP (getP 1 hC) (SU (SE 6 (SP (getP 2 hC) (SP (getP 3 hC) (Tt S0))))))))))
theorem vzr (G : Env) (k u : Int) (t : ByteArray) (n : Nat) (f : Nat → ValT) (o : Int) (d : Nat) (g : Nat → ValT) (l : Int) (i : Nat) (hC : AllP [ACalls Tryd.prog G 81 [AV.agg (vcl (f i)), iL (l - (1 : Int))] [] (bL false) [], leAll [AV.agg (vcl (f (↑i : Int).toNat)), iL (IntKind.i64.wrap (l - (1 : Int)))] [AV.agg (vcl (f i)), iL (l - (1 : Int))], (0 : Int) ≤ (↑i : Int) ∧ (↑i : Int) < (↑n : Int), decide ((↑i : Int) < (↑n : Int)) = true]) : CodeC Tryd.prog G 161 (loopAt Tryd.f81 0) [(1, iL l), (2, .ptr 0 0), (147, kA n f), (148, iL n), (149, iL i)] [vR (vmk k u t n f o d g)] (AExit.ret) ([(4, bL false)]) ([vR (vmk k u t n f o d g)]) :=
  CodeC_scr [0] [4] (Sr (Tt (SO (.call [] [AV.agg (vcl (f i)), iL (l - (1 : Int))] [] (bL false) []) (SP (getP 0 hC) (SP (getP 1 hC) (SU (SE 6 (SP (getP 2 hC) (SP (getP 3 hC) (Tt S0))))))))))
theorem vzx (G : Env) (k u : Int) (t : ByteArray) (n : Nat) (f : Nat → ValT) (o : Int) (d : Nat) (g : Nat → ValT) (l : Int) (i : Nat) (hC : AllP [decide ((↑i : Int) < (↑n : Int)) = false]) : CodeC Tryd.prog G 161 (loopAt Tryd.f81 0) [(1, iL l), (2, .ptr 0 0), (147, kA n f), (148, iL n), (149, iL i)] [vR (vmk k u t n f o d g)] (AExit.exit 0) ([(2, AV.ptr 0 0)]) ([vR (vmk k u t n f o d g)]) :=
  CodeC_scr [0] [2] (SP (getP 0 hC) (Tf S0))
theorem vya (G : Env) (p : ValT) (l m : Int) (hC : AllP [ACalls Tryd.prog G 80 [AV.agg (vcl p), AV.ptr 0 0] [Row.cells 3 1 [iL 2000]] (bL false) [Row.cells 3 1 [iL m]]]) : ACalls Tryd.prog G 46 [.agg (vcl p), iL l] [] (bL false) ([]) :=
  (fun (b0 z1 : Bool) (q0 : b0 = (false)) (q1 : z1 = (false)) (hC : AllP [ACalls Tryd.prog G 80 [AV.agg (vcl p), AV.ptr 0 0] [Row.cells 3 1 [iL 2000]] (bL false) [Row.cells 3 1 [iL m]]]) => ACalls_scr (ret := bL z1) [] Tryd.func46 (Sg (SN q1 (Sg (Tf (B0 q0 (B0 q0 (SK [128] (getP 0 hC) (SE 1 S0))))))))) _ _ rfl rfl hC
theorem vyb (G : Env) (p : ValT) (l m : Int) (b : Bool) (hC : AllP [ACalls Tryd.prog G 81 [AV.agg (vcl p), iL l] [] (bL b) [], ACalls Tryd.prog G 80 [AV.agg (vcl p), AV.ptr 0 0] [Row.cells 3 1 [iL 2000]] (bL true) [Row.cells 3 1 [iL m]]]) : ACalls Tryd.prog G 46 [.agg (vcl p), iL l] [] (bL b) ([]) :=
  (fun (b0 z1 : Bool) (q0 : b0 = (true)) (q1 : z1 = (b)) (hC : AllP [ACalls Tryd.prog G 81 [AV.agg (vcl p), iL l] [] (bL b) [], ACalls Tryd.prog G 80 [AV.agg (vcl p), AV.ptr 0 0] [Row.cells 3 1 [iL 2000]] (bL true) [Row.cells 3 1 [iL m]]]) => ACalls_scr (ret := bL z1) [] Tryd.func46 (SN q1 (SK [] (getP 0 hC) (SP q0 (SP q0 (Sr (Tt (B0 q0 (B0 q0 (SK [128] (getP 1 hC) (SE 1 S0))))))))))) _ _ rfl rfl hC
theorem vxs (G : Env) (u : Int) (t : ByteArray) (n : Nat) (f : Nat → ValT) (o : Int) (d : Nat) (g : Nat → ValT) (b : Bool) (hC : AllP [ACalls Tryd.prog G 122 [sL t] [] (bL b) [], ACalls Tryd.prog G 112 [iL 19] [] (iL (-1)) []]) : ACalls Tryd.prog G 106 [.agg (vmk 19 u t n f o d g)] [] (bL b) ([]) :=
  (fun (b0 z1 : Bool) (q0 : b0 = (false)) (q1 : z1 = (false)) (hC : AllP [ACalls Tryd.prog G 122 [sL t] [] (bL b) [], ACalls Tryd.prog G 112 [iL 19] [] (iL (-1)) []]) => ACalls_scr [] Tryd.func106 (SK [] (getP 0 hC) (Sr (Sg (Sg (Sg (Sg (Tt (Tf (Tf (Tf (Tf (Tf (SN q1 (SP (p := false = true → b0 = true) (k0 q0) (SP q1 (B1 q0 (B0 q0 (SK [] (getP 1 hC) S0))))))))))))))))))) _ _ rfl rfl hC
end Go.Ax
