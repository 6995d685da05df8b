/-
  The Go functions that laws.FnPutBool reaches, each by a contract.
-/
import Derived.Test.YtmaofopbhlcgkaaPbB
import Derived.Test.YtmaofopbhlcgkaaEnC
set_option linter.unusedVariables false
set_option linter.unusedSimpArgs false
set_option maxRecDepth 100000
namespace Go.Ax
open Go.Proofs



theorem copied (bs : List UInt8) (h : bs.length ≤ maxN) : ACalls Try.prog noG 31 [.bts bs] [] (.own 0 0 bs.length none) [.bytes 5 bs] :=
  (e31 bs (by simp [AllP]; simp [maxN] at h; omega)).cast rfl rfl (by simp) (by simp)

def codeB (b : Bool) : UInt8 := if b then 195 else 194

theorem appendBool (bs : List UInt8) (b : Bool) (h : bs.length ≤ maxN) : ACalls Try.prog noG 30 [.own 0 0 bs.length none, .lit (.bool b)] [.bytes 5 bs] (.own 1 0 (bs.length + 1) none) [.gone, .bytes 5 (bs ++ [codeB b])] := by
  simp [maxN] at h
  cases b with
  | true => exact (e30t bs (by simp [AllP]; omega)).cast rfl rfl (by simp) (by simp [codeB])
  | false => exact (e30f bs (by simp [AllP]; omega)).cast rfl rfl (by simp) (by simp [codeB])

theorem putBool (bs : List UInt8) (b : Bool) (h : bs.length ≤ maxN) : ACalls Try.prog noG 11 [.bts bs, .lit (.bool b)] [] (.bts (bs ++ [codeB b])) [] := by
  have h1 := e11 bs b (codeB b) (by simp [AllP, leAll, copied bs h, appendBool bs b h])
  have h2 := (h1.freezeRet 0 rfl rfl).only [] (by rfl)
  exact h2.cast rfl rfl (by simp [AV.frz, frzOwn, AV.ren, List.take_of_length_le]) rfl

theorem few (bs : List UInt8) : ACalls Try.prog noG 12 [.bts bs] [] (.lit (.bool (decide (bs.length ≤ 200)))) [] :=
  (e12 bs trivial).cast rfl rfl (by congr 3; simp; omega) rfl

def bitI (b : Bool) : Int := if b then 1 else 0

theorem bit (b : Bool) : ACalls Try.prog noG 14 [.lit (.bool b)] [] (.lit (.int .u64 (bitI b))) [] := by
  cases b with
  | true => exact (e14t ⟨rfl, trivial⟩).cast rfl rfl rfl rfl
  | false => exact (e14f ⟨rfl, trivial⟩).cast rfl rfl rfl rfl

theorem loop35 : CodeC Try.prog noG 32 (.loop (loopAt Try.f35 0)) [(17, .lit (.int .i64 0)), (18, .lit (.int .i64 0)), (0, .bts []), (1, .lit (.int .i64 0)), (7, .lit (.int .u64 0))] [] (.exit 0) [(0, .bts []), (1, .lit (.int .i64 0)), (7, .lit (.int .u64 0))] [] :=
  (LoopC.exit (p35x ⟨rfl, trivial⟩) (by simp)).code

theorem takeBig0 : ACalls Try.prog noG 35 [.bts [], .lit (.int .i64 0)] [] (.tup [.lit (.int .u64 0), .bts [], .lit (.bool true)]) [] :=
  (e35 (by simp [AllP, loop35])).cast rfl rfl (by simp) rfl

theorem takeCodedB (b : Bool) : ACalls Try.prog noG 50 [.lit (.int .i64 (codeB b).toNat), .bts [], .lit (.int .i64 1)] [] (.tup [zpack 1 (bitI b), .bts [], .lit (.bool true)]) [] := by
  cases b with
  | true => exact (e50t (by simp [AllP, leAll, takeBig0])).cast rfl rfl rfl rfl
  | false => exact (e50f (by simp [AllP, leAll, takeBig0])).cast rfl rfl rfl rfl

theorem takePackB (b : Bool) : ACalls Try.prog noG 32 [.bts [codeB b], .lit (.int .i64 1)] [] (.tup [zpack 1 (bitI b), .bts [], .lit (.bool true)]) [] := by
  have h := takeCodedB b
  cases b with
  | true => exact (e32t (by simp [AllP, leAll]; exact h)).cast rfl rfl rfl rfl
  | false => exact (e32f (by simp [AllP, leAll]; exact h)).cast rfl rfl rfl rfl

theorem samePack0 (n : Int) : ACalls Try.prog noG 33 [zpack 1 n, zpack 1 n] [] (.lit (.bool true)) [] :=
  e33 n (by
    have hl : CodeC Try.prog noG 80 (.loop (loopAt Try.f33 0)) [(63, .lit (.int .i64 0)), (64, .lit (.int .i64 0))] [] (.exit 0) [] [] := (LoopC.exit (p33x ⟨rfl, trivial⟩) (by simp)).code
    simp [AllP, hl])

theorem appendedB (bs : List UInt8) (b : Bool) (h : bs.length ≤ maxN) : ACalls Try.prog noG 13 [.bts bs, .bts (bs ++ [codeB b]), zpack 1 (bitI b), .lit (.int .i64 1)] [] (.lit (.bool true)) [] := by
  simp [maxN] at h
  have h1 := samePack0 (bitI b)
  have h2 := takePackB b
  have d1 : ¬ ((bs.length : Int) + 1 < bs.length) := by omega
  have d2 : (bs.length : Int) + 1 - bs.length = 1 := by omega
  have d3 : IntKind.i64.wrap 1 = 1 := by decide
  have d4 : (bs.length : Int) ≤ bs.length + 1 := by omega
  refine (e13 bs (codeB b) (bitI b) ?_).cast rfl rfl rfl rfl
  simp [AllP, leAll, zpack] at h1 h2 ⊢
  simp [h1, h2, d1, d2, d3, d4, List.take_of_length_le]

theorem fnPutBool (bs : List UInt8) (b : Bool) : ACalls Try.prog noG 3 [.bts bs, .lit (.bool b)] [] (.lit (.bool true)) [] := by
  by_cases h1 : (2147483647 : Int) < bs.length
  · exact e3a bs b (by simp [AllP, h1])
  · have h : bs.length ≤ maxN := by simp [maxN]; omega
    have p0 : ACalls Try.prog noG 11 [.bts [], .lit (.bool true)] [] (.bts [195]) [] := putBool [] true (by simp [maxN])
    have p2 := appendedB bs b h
    have p3 := few bs
    have p4 := bit b
    have p5 : ACalls Try.prog noG 11 [.own 0 0 bs.length none, .lit (.bool b)] [.bytes 5 bs] (.bts (bs ++ [codeB b])) [.gone] := by
      refine ACalls.freezeArg 0 (r := .bytes 5 bs) rfl rfl ?_
      refine ((putBool bs b h).frame [.gone] (by simp [leAll, AV.ren]) rfl).cast ?_ rfl rfl rfl
      simp [AV.frz, frzOwn]
    simp only [zpack, bytes_empty] at p2
    by_cases h2 : bs.length ≤ 200
    · simp only [h2, decide_true] at p3
      refine (e3c bs b (codeB b) (bitI b) ?_).cast rfl rfl rfl rfl
      simp [AllP, leAll, zpack, bytes_empty, p0, p2, p3, p4, p5]
      omega
    · simp only [h2, decide_false] at p3
      refine (e3b bs b ?_).cast rfl rfl rfl rfl
      simp [AllP, leAll, p0, p3]
      omega
end Go.Ax
