/-
  Runs of the abstract machine, printed by program.
-/
import Derived.Test.YtbdfpnhcincimaaDoorVaA
import Derived.Test.YtbdfpnhcincimaaDoorProg
import Derived.Test.YtbdfpnhcincimaaDoorAx33
set_option linter.unusedVariables false
set_option linter.unusedSimpArgs false
set_option maxRecDepth 100000
set_option maxHeartbeats 0
namespace Go.Ax
open Go.Proofs
theorem asl (t : ByteArray) (i : Nat) (hC : AllP [decide ((↑(t.data.toList.getD (↑i : Int).toNat (0 : UInt8)).toNat : Int) ≥ (128 : Int)) = false, (0 : Int) ≤ (↑i : Int) ∧ (↑i : Int) < (↑t.size : Int), decide ((↑i : Int) < (↑t.size : Int)) = true]) : C0 14 (loopAt Tryd.f123 0) [(0, sL t), (3, iL i)] [] (AExit.normal) ([(0, sL t), (3, iL (IntKind.i64.wrap ((↑i : Int) + (1 : Int))))]) ([]) :=
  CodeC_scr [] [0, 3] (SP (getP 0 hC) (SP (getP 1 hC) (SP (getP 2 hC) (Tf (Tt S0)))))
theorem asr (t : ByteArray) (i : Nat) (hC : AllP [decide ((↑(t.data.toList.getD (↑i : Int).toNat (0 : UInt8)).toNat : Int) ≥ (128 : Int)) = true, (0 : Int) ≤ (↑i : Int) ∧ (↑i : Int) < (↑t.size : Int), decide ((↑i : Int) < (↑t.size : Int)) = true]) : C0 14 (loopAt Tryd.f123 0) [(0, sL t), (3, iL i)] [] (AExit.ret) ([(2, bL false)]) ([]) :=
  CodeC_scr [] [2] (SP (getP 0 hC) (SP (getP 1 hC) (SP (getP 2 hC) (Tt (Tt S0)))))
theorem asx (t : ByteArray) (i : Nat) (hC : AllP [decide ((↑i : Int) < (↑t.size : Int)) = false]) : C0 14 (loopAt Tryd.f123 0) [(0, sL t), (3, iL i)] [] (AExit.exit 0) ([]) ([]) :=
  CodeC_scr [] [] (SP (getP 0 hC) (Tf S0))
theorem asa (t : ByteArray) (hC : AllP [C0 14 (loopAt Tryd.f123 0).loop [(0, sL t), (3, iL 0)] [] (AExit.exit 0) [] []]) : A0 123 [sL t] [] (bL true) ([]) :=
  ACalls_scr [] Tryd.func123 (SL [] (getP 0 hC) S0)
theorem asb (t : ByteArray) (hC : AllP [C0 14 (loopAt Tryd.f123 0).loop [(0, sL t), (3, iL 0)] [] AExit.ret [(2, bL false)] []]) : A0 123 [sL t] [] (bL false) ([]) :=
  ACalls_scr [] Tryd.func123 (SL [] (getP 0 hC) S0)
theorem vsl (h : Nat → ValT) (m i : Nat) (c c1 : Int) (hC : AllP [A0 47 [AV.agg (vcl (h i))] [] (iL c1) [], leAll [AV.agg (vcl (h (↑i : Int).toNat))] [AV.agg (vcl (h i))], (0 : Int) ≤ (↑i : Int) ∧ (↑i : Int) < (↑m : Int), decide ((↑i : Int) < (↑m : Int)) = true]) : C0 24 (loopAt Tryd.f47 0) [(3, iL c), (12, kA m h), (13, iL m), (14, iL i)] [] (AExit.normal) ([(3, iL (IntKind.i64.wrap (c + c1))), (12, kA m h), (13, iL (↑m : Int)), (14, iL (IntKind.i64.wrap ((↑i : Int) + (1 : Int))))]) ([]) :=
  CodeC_scr [] [3, 12, 13, 14] (SO (.call [] [AV.agg (vcl (h i))] [] (iL c1) []) (SP (getP 0 hC) (SP (getP 1 hC) (SU (SE 6 (SP (getP 2 hC) (SP (getP 3 hC) (Tt S0))))))))
theorem vsx (h : Nat → ValT) (m i : Nat) (c c1 : Int) (hC : AllP [decide ((↑i : Int) < (↑m : Int)) = false]) : C0 24 (loopAt Tryd.f47 0) [(3, iL c), (12, kA m h), (13, iL m), (14, iL i)] [] (AExit.exit 0) ([(3, iL c)]) ([]) :=
  CodeC_scr [] [3] (SP (getP 0 hC) (Tf S0))
theorem vsa (k u : Int) (t : ByteArray) (n : Nat) (f : Nat → ValT) (o : Int) (d : Nat) (g : Nat → ValT) (c : Int) (cs : List AV) (hC : AllP [C0 24 (loopAt Tryd.f47 0).loop [(3, iL 1), (12, AV.own 0 0 (n + d) none), (13, iL (↑(n + d) : Int)), (14, iL 0)] [Row.cells 25 6 cs] (AExit.exit 0) [(3, iL c)] [Row.gone], Le (iL 1) (iL 1) ∧ Le (AV.own 0 0 (0 + n + d) none) (AV.own 0 0 (n + d) none) ∧ Le (iL (↑(0 + n + d) : Int)) (iL (↑(n + d) : Int)) ∧ Le (iL 0) (iL 0) ∧ True, RowLe (Row.cells 25 6 (AV.renL (idxIn [576] 0) (List.take ((0 + n) * 6) (List.drop 0 ([] ++ getsL (fun i => vcl (f i)) 0 n)) ++ getsL (fun i => vcl (g i)) 0 d))) (Row.cells 25 6 cs) ∧ True, 0 + n + d ≤ 140737488355328 ∧ (0 + n + d) * 88 ≤ 140737488355328 ∧ allOne (getsL (fun i => vcl (g i)) 0 d) = true, 0 + n ≤ 140737488355328 ∧ (0 + n) * 88 ≤ 140737488355328 ∧ allOne (getsL (fun i => vcl (f i)) 0 n) = true]) : A0 47 [.agg (vmk k u t n f o d g)] [] (iL c) ([]) :=
  ACalls_scr [] Tryd.func47 (SO (.loop [576] [(3, iL 1), (12, AV.own 0 0 (n + d) none), (13, iL (↑(n + d) : Int)), (14, iL 0)] [Row.cells (25 : Go.TypeId) 6 cs] (AExit.exit 0) [(3, iL c)] [Row.gone]) (SP (getP 0 hC) (SP (getP 1 hC) (SP (getP 2 hC) (SP (getP 3 hC) (SP (getP 4 hC) S0))))))
end Go.Ax
