/-
  Integers that a Writer writes, each operation by a contract.
-/
import Derived.Test.YtdkiaokbiildaaaWuB
import Derived.Test.YtdkiaokbiildaaaWuB2
import Derived.Test.YtdkiaokbiildaaaWrD
import Derived.Test.YtdkiaokbiildaaaTkC
set_option linter.unusedVariables false
set_option linter.unusedSimpArgs false
set_option maxRecDepth 100000
namespace Go.Ax
open Go.Proofs

theorem fixP (v : Int) (h0 : 0 ≤ v) (h1 : v ≤ 127) : ACalls Try.prog noG 27 [.lit (.int .u8 v)] [] (.lit (.int .u8 v)) [] := by
  refine (fxp v trivial).cast rfl rfl ?_ rfl
  obtain ⟨n, rfl⟩ := Int.eq_ofNat_of_zero_le h0
  have hn : n < 128 := by omega
  congr 2
  have : ∀ n : Fin 128, IntKind.u8.wrap (((BitVec.ofInt IntKind.u8.bits (n.val : Int) &&& BitVec.ofInt IntKind.u8.bits 127).toNat : Nat) : Int) = (n.val : Int) := by decide
  exact this ⟨n, hn⟩

theorem fixN (v : Int) (h0 : -32 ≤ v) (h1 : v < 0) : ACalls Try.prog noG 34 [.lit (.int .i8 v)] [] (.lit (.int .u8 (v % 256))) [] := by
  refine (fxn v trivial).cast rfl rfl ?_ rfl
  congr 2
  have hn : ∃ n : Fin 32, v = (n.val : Int) - 32 := ⟨⟨(v + 32).toNat, by omega⟩, by simp; omega⟩
  obtain ⟨n, rfl⟩ := hn
  have : ∀ n : Fin 32, IntKind.u8.wrap (((BitVec.ofInt IntKind.u8.bits (IntKind.u8.wrap ((n.val : Int) - 32)) ||| BitVec.ofInt IntKind.u8.bits 224).toNat : Nat) : Int) = ((n.val : Int) - 32) % 256 := by decide
  exact this n

theorem writeU64 (v : Nat) (hv : v < 65536) : Writes 19 [.lit (.int .u64 v)] (encU v) := by
  by_cases h1 : v ≤ 127
  · have f := fixP v (by omega) (by omega)
    have w : IntKind.u8.wrap (v : Int) = v := by rw [wrapU8]; omega
    have d : (v : Int) ≤ 127 := by omega
    have p := writesPush (UInt8.ofNat v)
    rw [show (((UInt8.ofNat v).toNat : Nat) : Int) = (v : Int) by rw [UInt8.toNat_ofNat']; omega] at p
    rw [show encU v = [UInt8.ofNat v] by simp [encU, h1]]
    exact Writes.on p (fun N n n2 buf buf2 h => wuann N n n2 buf buf2 v v (by simp [AllP, leAll, w, d, f]; exact h)) (fun N n n2 buf buf2 out2 h => wuano N n n2 buf buf2 out2 v v (by simp [AllP, leAll, w, d, f]; exact h)) (fun N n n2 buf out buf2 out2 h => wuaoo N n n2 buf out buf2 out2 v v (by simp [AllP, leAll, w, d, f]; exact h))
  · by_cases h2 : v ≤ 255
    · have w : IntKind.u8.wrap (v : Int) = v := by rw [wrapU8]; omega
      have d : ¬ (v : Int) ≤ 127 := by omega
      have d2 : (v : Int) ≤ 255 := by omega
      rw [show encU v = [204, UInt8.ofNat v] by simp [encU, h1, h2]]
      exact Writes.on (writesPre65 204 v (by omega)) (fun N n n2 buf buf2 h => wubnn N n n2 buf buf2 v (by simp [AllP, leAll, w, d2]; exact ⟨h, by omega⟩)) (fun N n n2 buf buf2 out2 h => wubno N n n2 buf buf2 out2 v (by simp [AllP, leAll, w, d2]; exact ⟨h, by omega⟩)) (fun N n n2 buf out buf2 out2 h => wuboo N n n2 buf out buf2 out2 v (by simp [AllP, leAll, w, d2]; exact ⟨h, by omega⟩))
    · have w : IntKind.u16.wrap (v : Int) = v := by rw [wrapU16]; omega
      have d3 : (v : Int) ≤ 65535 := by omega
      have h3 : v ≤ 65535 := by omega
      rw [show encU v = [205, UInt8.ofNat (v / 256), UInt8.ofNat (v % 256)] by simp [encU, h1, h2, h3]]
      exact Writes.on (writesPre66 205 v (by omega)) (fun N n n2 buf buf2 h => wucnn N n n2 buf buf2 v (by simp [AllP, leAll, w, d3]; exact ⟨h, by omega⟩)) (fun N n n2 buf buf2 out2 h => wucno N n n2 buf buf2 out2 v (by simp [AllP, leAll, w, d3]; exact ⟨h, by omega⟩)) (fun N n n2 buf out buf2 out2 h => wucoo N n n2 buf out buf2 out2 v (by simp [AllP, leAll, w, d3]; exact ⟨h, by omega⟩))

theorem writeU16 (v : Nat) (hv : v < 65536) : Writes 11 [.lit (.int .u16 v)] (encU v) := by
  have w : IntKind.u64.wrap (v : Int) = v := by rw [wrapU64]; omega
  exact Writes.on (writeU64 v hv) (fun N n n2 buf buf2 h => wu6nn N n n2 buf buf2 v (by simp [AllP, leAll, w]; exact h)) (fun N n n2 buf buf2 out2 h => wu6no N n n2 buf buf2 out2 v (by simp [AllP, leAll, w]; exact h)) (fun N n n2 buf out buf2 out2 h => wu6oo N n n2 buf out buf2 out2 v (by simp [AllP, leAll, w]; exact h))

theorem cloU (v : Nat) (hv : v < 65536) : Writes 10 [.lit (.int .u16 v)] (encU v) :=
  Writes.on (writeU16 v hv) (fun N n n2 buf buf2 h => cunn N n n2 buf buf2 v (by simp [AllP, leAll]; exact h)) (fun N n n2 buf buf2 out2 h => cuno N n n2 buf buf2 out2 v (by simp [AllP, leAll]; exact h)) (fun N n n2 buf out buf2 out2 h => cuoo N n n2 buf out buf2 out2 v (by simp [AllP, leAll]; exact h))

theorem byteI_ofNat (v : Int) (n : Nat) (h : v % 256 = n) : byteI v = UInt8.ofNat n := by
  simp only [byteI]
  congr 1
  omega

theorem writeI64 (v : Int) (h0 : -32768 ≤ v) (h1 : v ≤ 32767) : Writes 23 [.lit (.int .i64 v)] (encI v) := by
  by_cases g0 : 0 ≤ v
  · by_cases g1 : v ≤ 127
    · have f := fixP v g0 g1
      have w : IntKind.u8.wrap v = v := by rw [wrapU8]; omega
      have p := writesPush (byteI v)
      rw [show (((byteI v).toNat : Nat) : Int) = v by rw [byteI_nat]; omega] at p
      rw [show encI v = [byteI v] by simp [encI, g0, g1]]
      exact Writes.on p (fun N n n2 buf buf2 h => wiann N n n2 buf buf2 v v (by simp [AllP, leAll, w, g0, g1, f]; exact h)) (fun N n n2 buf buf2 out2 h => wiano N n n2 buf buf2 out2 v v (by simp [AllP, leAll, w, g0, g1, f]; exact h)) (fun N n n2 buf out buf2 out2 h => wiaoo N n n2 buf out buf2 out2 v v (by simp [AllP, leAll, w, g0, g1, f]; exact h))
    · have w : IntKind.u16.wrap v = v := by rw [wrapU16]; omega
      obtain ⟨m, rfl⟩ := Int.eq_ofNat_of_zero_le g0
      have e : encI (m : Int) = [209, UInt8.ofNat (m / 256), UInt8.ofNat (m % 256)] := by
        simp only [encI, if_pos g0, if_neg g1, if_pos h1, enc3]
        rw [byteI_ofNat ((m : Int) / 256) (m / 256) (by omega), byteI_ofNat (m : Int) (m % 256) (by omega)]
      rw [e]
      exact Writes.on (writesPre66 209 m (by omega)) (fun N n n2 buf buf2 h => wibnn N n n2 buf buf2 m m (by simp [AllP, leAll, w, h1]; exact ⟨h, by omega⟩)) (fun N n n2 buf buf2 out2 h => wibno N n n2 buf buf2 out2 m m (by simp [AllP, leAll, w, h1]; exact ⟨h, by omega⟩)) (fun N n n2 buf out buf2 out2 h => wiboo N n n2 buf out buf2 out2 m m (by simp [AllP, leAll, w, h1]; exact ⟨h, by omega⟩))
  · by_cases g1 : -32 ≤ v
    · have f := fixN v g1 (by omega)
      have w : IntKind.i8.wrap v = v := wrap8 (by omega) (by omega)
      have p := writesPush (byteI v)
      rw [show (((byteI v).toNat : Nat) : Int) = v % 256 by rw [byteI_nat]; omega] at p
      rw [show encI v = [byteI v] by simp [encI, g0, g1]]
      exact Writes.on p (fun N n n2 buf buf2 h => wicnn N n n2 buf buf2 v (v % 256) (by simp [AllP, leAll, w, g1, f]; exact ⟨h, by omega⟩)) (fun N n n2 buf buf2 out2 h => wicno N n n2 buf buf2 out2 v (v % 256) (by simp [AllP, leAll, w, g1, f]; exact ⟨h, by omega⟩)) (fun N n n2 buf out buf2 out2 h => wicoo N n n2 buf out buf2 out2 v (v % 256) (by simp [AllP, leAll, w, g1, f]; exact ⟨h, by omega⟩))
    · by_cases g2 : -128 ≤ v
      · obtain ⟨m, hm⟩ : ∃ m : Nat, v % 256 = m := ⟨(v % 256).toNat, by omega⟩
        have w : IntKind.u8.wrap v = m := by rw [wrapU8]; omega
        have e : encI v = [208, UInt8.ofNat m] := by simp only [encI, if_neg g0, if_neg g1, if_pos g2]; rw [byteI_ofNat v m hm]
        rw [e]
        exact Writes.on (writesPre65 208 m (by omega)) (fun N n n2 buf buf2 h => widnn N n n2 buf buf2 v m (by simp [AllP, leAll, w, g2]; exact ⟨h, by omega⟩)) (fun N n n2 buf buf2 out2 h => widno N n n2 buf buf2 out2 v m (by simp [AllP, leAll, w, g2]; exact ⟨h, by omega⟩)) (fun N n n2 buf out buf2 out2 h => widoo N n n2 buf out buf2 out2 v m (by simp [AllP, leAll, w, g2]; exact ⟨h, by omega⟩))
      · obtain ⟨m, hm⟩ : ∃ m : Nat, v % 65536 = m := ⟨(v % 65536).toNat, by omega⟩
        have w : IntKind.u16.wrap v = m := by rw [wrapU16]; omega
        have e : encI v = [209, UInt8.ofNat (m / 256), UInt8.ofNat (m % 256)] := by
          simp only [encI, if_neg g0, if_neg g1, if_neg g2, if_pos h0, enc3]
          rw [byteI_ofNat (v / 256) (m / 256) (by omega), byteI_ofNat v (m % 256) (by omega)]
        rw [e]
        exact Writes.on (writesPre66 209 m (by omega)) (fun N n n2 buf buf2 h => wienn N n n2 buf buf2 v m (by simp [AllP, leAll, w, h0]; exact ⟨h, by omega⟩)) (fun N n n2 buf buf2 out2 h => wieno N n n2 buf buf2 out2 v m (by simp [AllP, leAll, w, h0]; exact ⟨h, by omega⟩)) (fun N n n2 buf out buf2 out2 h => wieoo N n n2 buf out buf2 out2 v m (by simp [AllP, leAll, w, h0]; exact ⟨h, by omega⟩))

theorem writeI16 (v : Int) (h0 : -32768 ≤ v) (h1 : v ≤ 32767) : Writes 16 [.lit (.int .i16 v)] (encI v) := by
  have w : IntKind.i64.wrap v = v := wrap64 (by omega) (by omega)
  exact Writes.on (writeI64 v h0 h1) (fun N n n2 buf buf2 h => wi6nn N n n2 buf buf2 v (by simp [AllP, leAll, w]; exact h)) (fun N n n2 buf buf2 out2 h => wi6no N n n2 buf buf2 out2 v (by simp [AllP, leAll, w]; exact h)) (fun N n n2 buf out buf2 out2 h => wi6oo N n n2 buf out buf2 out2 v (by simp [AllP, leAll, w]; exact h))

theorem cloI (v : Int) (h0 : -32768 ≤ v) (h1 : v ≤ 32767) : Writes 15 [.lit (.int .i16 v)] (encI v) :=
  Writes.on (writeI16 v h0 h1) (fun N n n2 buf buf2 h => cinn N n n2 buf buf2 v (by simp [AllP, leAll]; exact h)) (fun N n n2 buf buf2 out2 h => cino N n n2 buf buf2 out2 v (by simp [AllP, leAll]; exact h)) (fun N n n2 buf out buf2 out2 h => cioo N n n2 buf out buf2 out2 v (by simp [AllP, leAll]; exact h))
end Go.Ax
