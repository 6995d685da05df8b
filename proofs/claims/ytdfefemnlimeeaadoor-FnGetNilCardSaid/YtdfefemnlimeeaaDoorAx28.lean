/-
  An abstract machine for Go functions (part 28): numbers and bytes.
-/
import Derived.Test.YtdfefemnlimeeaaDoorAx27
set_option linter.unusedVariables false
set_option linter.unusedSimpArgs false
set_option maxRecDepth 100000
namespace Go.Ax

def bits : Nat → Bool → List Orc
  | 0, _ => []
  | n + 1, b => .bit b :: bits n b

def zpack (k n : Int) : AV := .agg [.lit (.int .i64 k), .lit (.int .u64 n), .lit (.string .empty), .lit (.int .i64 0), .lit (.slice none 0 0)]

def tpack (t : ByteArray) : AV := .agg [.lit (.int .i64 6), .lit (.int .u64 0), .lit (.string t), .lit (.int .i64 0), .lit (.slice none 0 0)]

def maxN : Nat := 1000000000000

theorem wrap64 {n : Int} (h1 : -9223372036854775808 ≤ n) (h2 : n < 9223372036854775808) : IntKind.i64.wrap n = n := by
  simp only [IntKind.wrap, IntKind.bits, IntKind.signed]
  simp
  omega

theorem renL_u8 (f : Nat → Option Nat) (bs : List UInt8) (k : Nat) : AV.renL f (bs.map u8 ++ List.replicate k .dead) = bs.map u8 ++ List.replicate k .dead := by
  simp [AV.renL_map, AV.ren, u8, Function.comp_def]

theorem fitL_all {k n s : Nat} : ∀ {l : List AV}, (∀ a ∈ l, AV.fit k n s a) → AV.fitL k n s l
  | [], _ => True.intro
  | a :: l, h => ⟨h a (by simp), fitL_all fun b hb => h b (List.mem_cons_of_mem _ hb)⟩

theorem setL_one (cs : List AV) (n : Nat) (x : AV) : setL cs n [x] = cs.set n x := rfl

theorem set_behind (bs : List UInt8) (l : List AV) (k : Nat) (x : AV) : (bs.map u8 ++ l).set (bs.length + k) x = bs.map u8 ++ l.set k x := by
  rw [List.set_append_right _ _ (by simp)]
  simp

theorem set_behind0 (bs : List UInt8) (l : List AV) (x : AV) : (bs.map u8 ++ l).set bs.length x = bs.map u8 ++ l.set 0 x := set_behind bs l 0 x

theorem nth_behind (bs : List UInt8) (l : List AV) (k : Nat) : nth (bs.map u8 ++ l) (bs.length + k) = l[k]? := by
  rw [nth_eq, List.getElem?_append_right (by simp)]
  simp

theorem renL_behind (f : Nat → Option Nat) (bs : List UInt8) (l : List AV) : AV.renL f (bs.map u8 ++ l) = bs.map u8 ++ AV.renL f l := by
  simp [AV.renL_map, AV.ren, u8, Function.comp_def]

theorem wrapU8 (n : Int) : IntKind.u8.wrap n = n % 256 := by
  simp only [IntKind.wrap, IntKind.bits, IntKind.signed]
  simp

theorem ACalls.asBytes {f : FuncId} {args : List AV} {H H' : List Row} {ret : AV} {e : TypeId} (k : Nat) (bs : List UInt8) {P : Program} {G : Env} (h : ACalls P G f args H ret H') (hkH : H.length ≤ k)
    (hk : H'[k]? = some (.cells e 1 (bs.map u8))) (hret : ret.fit k bs.length 1) (hrows : ∀ x ∈ H', rowFit k bs.length 1 x) : ACalls P G f args H ret (H'.set k (.bytes e bs)) :=
  h.weak k (.cells e 1 (bs.map u8)) (.bytes e bs) hkH hk rfl rfl rfl rfl rfl rfl (by simp [Row.len]) (fun j a a' ha ha' => by
    simp only [Row.cs] at ha ha'
    rw [ha] at ha'
    cases ha'
    exact Le.refl a) hret (fun j a ha => by
    simp only [Row.cs, List.getElem?_map] at ha
    obtain ⟨b, _, rfl⟩ := Option.map_eq_some_iff.1 ha
    exact True.intro) hrows

theorem fitL_u8 (k n s : Nat) : ∀ l : List UInt8, AV.fitL k n s (l.map u8)
  | [] => True.intro
  | b :: l => ⟨True.intro, fitL_u8 k n s l⟩

/-- The bytes of a number below 2^32, in MessagePack. -/

def encU (v : Nat) : List UInt8 :=
  if v ≤ 127 then [UInt8.ofNat v] else if v ≤ 255 then [204, UInt8.ofNat v] else if v ≤ 65535 then [205, UInt8.ofNat (v / 256), UInt8.ofNat (v % 256)]
  else [206, UInt8.ofNat (v / 16777216), UInt8.ofNat (v / 65536 % 256), UInt8.ofNat (v / 256 % 256), UInt8.ofNat (v % 256)]

theorem lit_u8 (n : Nat) (h : n < 256) : AV.lit (.int .u8 (n : Int)) = u8 (UInt8.ofNat n) := by
  simp only [u8, UInt8.toNat_ofNat']
  congr 2
  omega

def codeB (b : Bool) : UInt8 := if b then 195 else 194

def bitI (b : Bool) : Int := if b then 1 else 0

def bigA : Nat → List UInt8 → Nat
  | u, [] => u
  | u, b :: l => bigA ((u * 256 + b.toNat) % 18446744073709551616) l

theorem wrapU64 (n : Int) : IntKind.u64.wrap n = n % 18446744073709551616 := by
  simp only [IntKind.wrap, IntKind.bits, IntKind.signed]
  simp

theorem or64 (u : Nat) (b : UInt8) : IntKind.u64.wrap (((BitVec.ofInt IntKind.u64.bits (IntKind.u64.wrap ((u : Int) * 2 ^ min (Int.toNat 8) IntKind.u64.bits)) ||| BitVec.ofInt IntKind.u64.bits (IntKind.u64.wrap (b.toNat : Int))).toNat : Nat) : Int)
    = (((u * 256 + b.toNat) % 18446744073709551616 : Nat) : Int) := by
  have hb : b.toNat < 256 := b.toNat_lt
  have e1 : (BitVec.ofInt IntKind.u64.bits (IntKind.u64.wrap ((u : Int) * 2 ^ min (Int.toNat 8) IntKind.u64.bits))).toNat = (u * 256) % 18446744073709551616 := by
    rw [BitVec.toNat_ofInt, wrapU64]
    have : min (Int.toNat 8) IntKind.u64.bits = 8 := by decide
    rw [this]
    have h64 : (2 : Int) ^ IntKind.u64.bits = 18446744073709551616 := by decide
    have h64' : ((2 ^ IntKind.u64.bits : Nat) : Int) = 18446744073709551616 := by decide
    rw [h64']
    omega
  have e2 : (BitVec.ofInt IntKind.u64.bits (IntKind.u64.wrap (b.toNat : Int))).toNat = b.toNat := by
    rw [BitVec.toNat_ofInt, wrapU64]
    have h64' : ((2 ^ IntKind.u64.bits : Nat) : Int) = 18446744073709551616 := by decide
    rw [h64']
    omega
  rw [BitVec.toNat_or, e1, e2]
  have e3 : (u * 256) % 18446744073709551616 = (u % 72057594037927936) <<< 8 := by
    rw [Nat.shiftLeft_eq]
    omega
  rw [e3, ← Nat.shiftLeft_add_eq_or_of_lt (by simpa using hb), Nat.shiftLeft_eq, wrapU64]
  omega

theorem bigA_lt : ∀ (l : List UInt8) (u : Nat), u < 18446744073709551616 → bigA u l < 18446744073709551616
  | [], u, h => h
  | b :: l, u, h => bigA_lt l _ (Nat.mod_lt _ (by decide))

def byteI (x : Int) : UInt8 := UInt8.ofNat (x % 256).toNat

theorem lit_byte (x : Int) : AV.lit (.int .u8 (x % 256)) = u8 (byteI x) := by
  simp only [u8, byteI, UInt8.toNat_ofNat']
  congr 2
  omega

def enc3 (v : Int) : List UInt8 := [209, byteI (v / 256), byteI v]

def enc5 (v : Int) : List UInt8 := [210, byteI (v / 16777216), byteI (v / 65536), byteI (v / 256), byteI v]
/-- The bytes of a number of 32 bits with a sign, in MessagePack. -/

def encI (v : Int) : List UInt8 :=
  if 0 ≤ v then (if v ≤ 127 then [byteI v] else if v ≤ 32767 then enc3 v else enc5 v)
  else if -32 ≤ v then [byteI v] else if -128 ≤ v then [208, byteI v] else if -32768 ≤ v then enc3 v else enc5 v

theorem wrap16 {v : Int} (h0 : -32768 ≤ v) (h1 : v < 32768) : IntKind.i16.wrap v = v := by
  simp only [IntKind.wrap, IntKind.bits, IntKind.signed]; simp; omega

theorem wrap8 {v : Int} (h0 : -128 ≤ v) (h1 : v < 128) : IntKind.i8.wrap v = v := by
  simp only [IntKind.wrap, IntKind.bits, IntKind.signed]; simp; omega

theorem wrap32 {v : Int} (h0 : -2147483648 ≤ v) (h1 : v < 2147483648) : IntKind.i32.wrap v = v := by
  simp only [IntKind.wrap, IntKind.bits, IntKind.signed]; simp; omega

theorem encU_len (v : Nat) : (encU v).length ≤ 5 := by
  unfold encU
  split
  · simp
  · split
    · simp
    · split <;> simp

theorem wrapI64 (n : Int) : IntKind.i64.wrap n = (n + 9223372036854775808) % 18446744073709551616 - 9223372036854775808 := by
  simp only [IntKind.wrap, IntKind.bits, IntKind.signed]
  simp
  omega

theorem sx (v d : Int) (hd : d = 72057594037927936 ∨ d = 281474976710656 ∨ d = 4294967296) (n : Int) (hn : n = v % (18446744073709551616 / d)) (h0 : -(9223372036854775808 / d) ≤ v) (h1 : v < 9223372036854775808 / d) :
    (IntKind.i64.wrap (IntKind.u64.wrap (n * d))).fdiv d = v := by
  rw [Int.fdiv_eq_ediv_of_nonneg _ (by omega), wrapU64, wrapI64]
  rcases hd with rfl | rfl | rfl <;> omega

def kindI (v : Int) : Int := if 0 ≤ v then 3 else 2

theorem byteI_nat (x : Int) : (byteI x).toNat = (x % 256).toNat := by
  simp only [byteI, UInt8.toNat_ofNat']
  omega

theorem big16 (v : Int) : bigA 0 [byteI (v / 256), byteI v] = (v % 65536).toNat := by
  simp only [bigA, byteI_nat]
  omega

theorem big32 (v : Int) : bigA 0 [byteI (v / 16777216), byteI (v / 65536), byteI (v / 256), byteI v] = (v % 4294967296).toNat := by
  simp only [bigA, byteI_nat]
  omega

theorem big8 (v : Int) : bigA 0 [byteI v] = (v % 256).toNat := by
  simp only [bigA, byteI_nat]
  omega

theorem encI_len (v : Int) : (encI v).length ≤ 5 := by
  unfold encI
  split <;> (repeat' split) <;> simp [enc3, enc5]

def headB (v : Nat) : List UInt8 :=
  if v ≤ 255 then [196, UInt8.ofNat v] else if v ≤ 65535 then [197, UInt8.ofNat (v / 256), UInt8.ofNat (v % 256)]
  else [198, UInt8.ofNat (v / 16777216), UInt8.ofNat (v / 65536 % 256), UInt8.ofNat (v / 256 % 256), UInt8.ofNat (v % 256)]

theorem renL_dead (f : Nat → Option Nat) (m : Nat) : AV.renL f (List.replicate m .dead) = List.replicate m .dead := by
  simp [AV.renL_map, AV.ren]

theorem renL_u8s (f : Nat → Option Nat) (l : List UInt8) : AV.renL f (l.map u8) = l.map u8 := by
  simp [AV.renL_map, AV.ren, u8, Function.comp_def]

theorem renL_app (f : Nat → Option Nat) (a b : List AV) : AV.renL f (a ++ b) = AV.renL f a ++ AV.renL f b := by
  simp [AV.renL_map]

theorem renL_three (f : Nat → Option Nat) (a b : List UInt8) (n : Nat) : AV.renL f (a.map u8 ++ b.map u8 ++ List.replicate n .dead) = a.map u8 ++ b.map u8 ++ List.replicate n .dead := by
  rw [renL_app, renL_app, renL_u8s, renL_u8s, renL_dead]

theorem CodeC.slots {P : Program} {G : Env} {n : Nat} {c : Code} {vals vals0 vals' : List (Nat × AV)} {H H' : List Row} {ex : AExit} (h : CodeC P G n c vals H ex vals' H') (hs : ∀ t a, (t, a) ∈ vals → (t, a) ∈ vals0) : CodeC P G n c vals0 H ex vals' H' :=
  fun O ρ a w S hn hv => h O ρ a w S hn fun t av hm => hv t av (hs t av hm)

theorem Le_nil_tup (a : AV) : Le (.tup [.lit (.slice none 0 0), a]) (.tup [.bts [], a]) := fun ρ h O w v hv => by
  cases hv with
  | dr hd => cases hd
  | tup k1 k2 =>
    refine .tup k1 fun j c x hc hx => ?_
    match j with
    | 0 => simp at hc; subst hc; exact Le_nil _ _ _ _ _ (k2 0 _ x rfl hx)
    | 1 => simp at hc; subst hc; exact k2 1 _ x rfl hx
    | j + 2 => simp at hc

theorem headB_len (v : Nat) : (headB v).length ≤ 5 := by
  unfold headB
  split
  · simp
  · split <;> simp

def headT (n : Nat) : List UInt8 :=
  if n ≤ 31 then [UInt8.ofNat (160 + n)] else if n ≤ 255 then [217, UInt8.ofNat n] else if n ≤ 65535 then [218, UInt8.ofNat (n / 256), UInt8.ofNat (n % 256)]
  else [219, UInt8.ofNat (n / 16777216), UInt8.ofNat (n / 65536 % 256), UInt8.ofNat (n / 256 % 256), UInt8.ofNat (n % 256)]

def encT (s : List UInt8) : List UInt8 := headT s.length ++ s

theorem wrapU16 (n : Int) : IntKind.u16.wrap n = n % 65536 := by
  simp only [IntKind.wrap, IntKind.bits, IntKind.signed]
  simp
theorem wrapU32 (n : Int) : IntKind.u32.wrap n = n % 4294967296 := by
  simp only [IntKind.wrap, IntKind.bits, IntKind.signed]
  simp
end Go.Ax
