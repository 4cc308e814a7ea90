/- Own machinery, and laws of the functions that the statement reaches (part 21). -/
import Derived.Test.YtcfglgelckjpmaaGreatDoorB20
import Derived.Laws.Externs
set_option linter.all false
namespace Go.Proofs.YtcfglgelckjpmaaGreatDoor
set_option maxRecDepth 100000
set_option maxHeartbeats 8000000
theorem f32_call (n : Nat) (w : World) : (callFunc 194 #[.int .u32 (n : Nat)]).run Tryz.prog w = .ok (.value (.float .f32 n)) w := by
 rw [run_callFunc_extern Tryz.func194 (by kernel_rfl) (by kernel_rfl) (by kernel_rfl) (e := Extern.MathFloatBits.float32frombits) (by kernel_rfl)]
 rfl
theorem f64_call (n : Nat) (w : World) : (callFunc 195 #[.int .u64 (n : Nat)]).run Tryz.prog w = .ok (.value (.float .f64 n)) w := by
 rw [run_callFunc_extern Tryz.func195 (by kernel_rfl) (by kernel_rfl) (by kernel_rfl) (e := Extern.MathFloatBits.float64frombits) (by kernel_rfl)]
 rfl
theorem f32_bits (n : Nat) (w : World) : (callFunc 139 #[.float .f32 n]).run Tryz.prog w = .ok (.value (.int .u32 (n : Nat))) w := by
 rw [run_callFunc_extern Tryz.func139 (by kernel_rfl) (by kernel_rfl) (by kernel_rfl) (e := Extern.MathFloatBits.float32bits) (by kernel_rfl)]
 rfl
theorem f64_bits (n : Nat) (w : World) : (callFunc 140 #[.float .f64 n]).run Tryz.prog w = .ok (.value (.int .u64 (n : Nat))) w := by
 rw [run_callFunc_extern Tryz.func140 (by kernel_rfl) (by kernel_rfl) (by kernel_rfl) (e := Extern.MathFloatBits.float64bits) (by kernel_rfl)]
 rfl
section rd
variable {I : Imm} {b : Nat} {bs : List UInt8} {v : Value} {off : Nat} {Q : Qt}
inductive FloatE : Nat → List UInt8 → Prop where
 | s (y0 y1 y2 y3 : UInt8) : FloatE (y3.toNat + y2.toNat * 256 + y1.toNat * 65536 + y0.toNat * 16777216) [0x72, y0, y1, y2, y3]
theorem readFloat_law {n : Nat} {e r : List UInt8} (hv : BufAt I bs v) (he : FloatE n e) (hd : bs.drop off = e ++ r) (h : bs.drop (off + e.length) = r → Q (.tuple #[.float .f32 n, .nilIface]) [bufC v (off + e.length)] [] I) :
  WP Tryz.prog 109 #[.pointer (some ⟨b, 0, none⟩)] [(b, bufC v off)] [] I Q := by
 refine lw K109 [(0,1000)] _ Tryz.func109 ?_
 cases he with
 | s y0 y1 y2 y3 =>
  refine G ?_
  refine Cx [1000] ?_
  refine readType_law hv hd fun hr => ?_
  refine G ?_
  refine Cx [1000] ?_
  refine ReadUint32_law hv hr fun hr => ?_
  refine G ?_
  refine .inl ⟨_, f32_call _, ?_⟩
  refine G ?_
  refine L0 ?_
  exact h hr
inductive DoubleE : Nat → List UInt8 → Prop where
 | s (y0 y1 y2 y3 y4 y5 y6 y7 : UInt8) : DoubleE (y7.toNat + y6.toNat * 256 + y5.toNat * 65536 + y4.toNat * 16777216 + y3.toNat * 4294967296 + y2.toNat * 1099511627776 + y1.toNat * 281474976710656 + y0.toNat * 72057594037927936) [0x82, y0, y1, y2, y3, y4, y5, y6, y7]
theorem readDouble_law {n : Nat} {e r : List UInt8} (hv : BufAt I bs v) (he : DoubleE n e) (hd : bs.drop off = e ++ r) (h : bs.drop (off + e.length) = r → Q (.tuple #[.float .f64 n, .nilIface]) [bufC v (off + e.length)] [] I) :
  WP Tryz.prog 110 #[.pointer (some ⟨b, 0, none⟩)] [(b, bufC v off)] [] I Q := by
 refine lw K110 [(0,1000)] _ Tryz.func110 ?_
 cases he with
 | s y0 y1 y2 y3 y4 y5 y6 y7 =>
  refine G ?_
  refine Cx [1000] ?_
  refine readType_law hv hd fun hr => ?_
  refine G ?_
  refine Cx [1000] ?_
  refine ReadUint64_law hv hr fun hr => ?_
  refine G ?_
  refine .inl ⟨_, f64_call _, ?_⟩
  refine G ?_
  refine L0 ?_
  exact h hr
inductive BoolE : Bool → List UInt8 → Prop where
 | t : BoolE true [0x41]
 | f : BoolE false [0x42]
 | lt : BoolE true [0x56, 1]
 | lf : BoolE false [0x56, 0]
theorem readBool_law {n : Bool} {e r : List UInt8} (hv : BufAt I bs v) (he : BoolE n e) (hd : bs.drop off = e ++ r) (h : bs.drop (off + e.length) = r → Q (.tuple #[.bool n, .nilIface]) [bufC v (off + e.length)] [] I) :
  WP Tryz.prog 113 #[.pointer (some ⟨b, 0, none⟩)] [(b, bufC v off)] [] I Q := by
 refine lw K113 [(0,1000)] _ Tryz.func113 ?_
 cases he with
 | t =>
  refine G ?_
  refine Cx [1000] ?_
  refine readType_law hv hd fun hr => ?_
  refine G ?_
  refine L0 ?_
  exact h hr
 | f =>
  refine G ?_
  refine Cx [1000] ?_
  refine readType_law hv hd fun hr => ?_
  refine G ?_
  refine L0 ?_
  exact h hr
 | lt =>
  refine G ?_
  refine Cx [1000] ?_
  refine readType_law hv hd fun hr => ?_
  refine G ?_
  refine Cx [1000] ?_
  refine ReadByte_law hv hr fun hr => ?_
  refine G ?_
  refine L0 ?_
  exact h hr
 | lf =>
  refine G ?_
  refine Cx [1000] ?_
  refine readType_law hv hd fun hr => ?_
  refine G ?_
  refine Cx [1000] ?_
  refine ReadByte_law hv hr fun hr => ?_
  refine G ?_
  refine L0 ?_
  exact h hr
theorem tryReadNull_law {r : List UInt8} (hv : BufAt I bs v) (ho : off ≤ bs.length) (hd : bs.drop off = r) (hr : ∀ z r', r = z :: r' → z ≠ 0x40) (h : Q (.bool false) [bufC v off] [] I) :
  WP Tryz.prog 83 #[.pointer (some ⟨b, 0, none⟩)] [(b, bufC v off)] [] I Q := by
 refine lw K83 [(0,1000)] _ Tryz.func83 ?_
 refine G ?_
 refine Cx [1000] ?_
 refine Len_law hv ho ?_
 have hlen : r.length = bs.length - off := by rw [← hd]; simp
 cases r with
 | nil =>
  simp only [List.length_nil] at hlen
  rw [← hlen]
  refine G ?_
  refine L0 ?_
  exact h
 | cons z r' =>
  have hz := hr z r' rfl
  have hpos : 0 < bs.length - off := by simp at hlen; omega
  refine G ?_
  split
  ·refine G ?_
   refine Cx [1000] ?_
   refine Bytes_law hv ho fun sv hsv => ?_
   rw [hd] at hsv
   obtain ⟨base, cap, rfl⟩ := bytes_form hsv
   obtain ⟨vb, vo, rfl⟩ := bytes_some hsv (by simp)
   refine G ?_
   refine ⟨_, _, _, _, 0, rfl, rfl, by simp, ?_⟩
   refine G ?_
   refine ⟨_, .imm (bytes_cell hsv (y := z) rfl), ?_⟩
   refine G ?_
   split
   ·rename_i h64 _
    exfalso
    apply hz
    have : z.toNat = 64 := by exact_mod_cast h64
    exact UInt8.toNat_inj.1 this
   ·refine G ?_
    refine L0 ?_
    exact h
  ·omega
theorem tryReadNull_law' {r : List UInt8} (hv : BufAt I bs v) (hd : bs.drop off = 0x40 :: r) (h : bs.drop (off + 1) = r → Q (.bool true) [bufC v (off + 1)] [] I) :
  WP Tryz.prog 83 #[.pointer (some ⟨b, 0, none⟩)] [(b, bufC v off)] [] I Q := by
 refine lw K83 [(0,1000)] _ Tryz.func83 ?_
 obtain ⟨hlt, _, hr⟩ := drop_cons hd
 have hsm := hv.small
 refine G ?_
 refine Cx [1000] ?_
 refine Len_law hv (by omega) ?_
 have hpos : 0 < bs.length - off := by omega
 refine G ?_
 split
 ·refine G ?_
  refine Cx [1000] ?_
  refine Bytes_law hv (by omega) fun sv hsv => ?_
  rw [hd] at hsv
  obtain ⟨base, cap, rfl⟩ := bytes_form hsv
  obtain ⟨vb, vo, rfl⟩ := bytes_some hsv (by simp)
  refine G ?_
  refine ⟨_, _, _, _, 0, rfl, rfl, by simp, ?_⟩
  refine G ?_
  refine ⟨_, .imm (bytes_cell hsv (y := 0x40) rfl), ?_⟩
  refine G ?_
  refine Cx [1000] ?_
  refine Skip_law (n := 1) (by omega) (by omega) ?_
  refine G ?_
  refine L0 ?_
  exact h hr
 ·omega
end rd
def timeC (ms : Int) : List Value := [.int .i64 (ms / 1000), .int .i64 (ms % 1000 * 1000000)]
def timeV (ms : Int) : Value := .agg (timeC ms).toArray
theorem tdiv_facts (ms : Int) : 1000 * ms.tdiv 1000 + ms.tmod 1000 = ms ∧ ms.tmod 1000 < 1000 ∧ -1000 < ms.tmod 1000 ∧ (0 ≤ ms → 0 ≤ ms.tmod 1000) ∧ (ms ≤ 0 → ms.tmod 1000 ≤ 0) := by
 refine ⟨Int.mul_tdiv_add_tmod ms 1000, Int.tmod_lt_of_pos _ (by decide), ?_, fun h => Int.tmod_nonneg _ h, fun h => ?_⟩
 ·rcases Int.le_total 0 ms with h | h
  ·have := Int.tmod_nonneg 1000 h; omega
  ·have h1 := Int.tmod_lt_of_pos (-ms) (b := 1000) (by decide)
   rw [Int.neg_tmod] at h1
   omega
 ·have h1 := Int.tmod_nonneg (a := -ms) 1000 (by omega)
  rw [Int.neg_tmod] at h1
  omega
theorem wrap64_cases (x : Int) : (x % 18446744073709551616 < 9223372036854775808 ∧ IntKind.i64.wrap x = x % 18446744073709551616) ∨ (9223372036854775808 ≤ x % 18446744073709551616 ∧ IntKind.i64.wrap x = x % 18446744073709551616 - 18446744073709551616) := by
 have hm : x % 2 ^ IntKind.i64.bits = x % 18446744073709551616 := rfl
 have hb : (2 : Int) ^ (IntKind.i64.bits - 1) = 9223372036854775808 := rfl
 by_cases h : x % 18446744073709551616 < 9223372036854775808
 ·refine .inl ⟨h, ?_⟩
  simp only [IntKind.wrap, hm, hb]
  rw [if_neg (by simp [IntKind.signed]; omega)]
 ·refine .inr ⟨by omega, ?_⟩
  simp only [IntKind.wrap, hm, hb]
  rw [if_pos (by simp [IntKind.signed]; omega)]
  rfl
theorem wrap64_range (x : Int) : -9223372036854775808 ≤ IntKind.i64.wrap x ∧ IntKind.i64.wrap x < 9223372036854775808 := by
 rcases wrap64_cases x with ⟨h, e⟩ | ⟨h, e⟩ <;> rw [e] <;> omega
theorem wrap64_mod (x : Int) : ∃ k : Int, IntKind.i64.wrap x = x + 18446744073709551616 * k := by
 rcases wrap64_cases x with ⟨h, e⟩ | ⟨h, e⟩ <;> rw [e]
 ·exact ⟨-(x / 18446744073709551616), by omega⟩
 ·exact ⟨-(x / 18446744073709551616) - 1, by omega⟩
theorem wrap64_id {x y : Int} (hy : -9223372036854775808 ≤ y ∧ y < 9223372036854775808) (h : ∃ k : Int, x = y + 18446744073709551616 * k) : IntKind.i64.wrap x = y := by
 obtain ⟨k, h⟩ := h
 obtain ⟨j, hj⟩ := wrap64_mod x
 have := wrap64_range x
 omega
section rd
variable {I : Imm} {b : Nat} {bs : List UInt8} {v : Value} {off : Nat} {Q : Qt}
theorem At_law {ms q t : Int} (hms : -9223372036854775808 ≤ ms ∧ ms < 9223372036854775808) (h1 : 1000 * q + t = ms) (h2 : t < 1000 ∧ -1000 < t) (h3 : 0 ≤ ms → 0 ≤ t) (h4 : ms ≤ 0 → t ≤ 0)
  (h : Q (timeV ms) [] [] I) : WP Tryz.prog 200 #[.int .i64 q, .int .i64 (t * 1000000)] [] [] I Q := by
 refine lw K200 [] _ Tryz.func200 ?_
 refine G ?_
 intro b
 refine G ?_
 split
 ·rename_i hneg _
  refine G ?_
  have hq : (t * 1000000).tdiv 1000000000 = 0 := by
   rw [← Int.neg_neg (t * 1000000), Int.neg_tdiv, Int.tdiv_eq_zero_of_lt (by omega) (by omega)]; rfl
  refine ⟨by decide, _, w64 (by rw [hq]; decide), ?_⟩
  rw [hq]
  refine G ?_
  split
  ·refine G ?_
   refine L0 ?_
   have e1 : ms / 1000 = q + 0 - 1 := by omega
   have e2 : ms % 1000 * 1000000 = t * 1000000 - 0 * 1000000000 + 1000000000 := by omega
   rw [timeV, timeC, e1, e2] at h
   exact h
  ·omega
 ·rename_i hneg _
  refine G ?_
  split
  ·omega
  ·refine G ?_
   refine L0 ?_
   have e1 : ms / 1000 = q := by omega
   have e2 : ms % 1000 * 1000000 = t * 1000000 := by omega
   rw [timeV, timeC, e1, e2] at h
   exact h
theorem AtMilli_law {ms : Int} (hms : -9223372036854775808 ≤ ms ∧ ms < 9223372036854775808)
  (h : Q (timeV ms) [] [] I) : WP Tryz.prog 196 #[.int .i64 ms] [] [] I Q := by
 obtain ⟨f1, f2, f3, f4, f5⟩ := tdiv_facts ms
 refine lw K196 [] _ Tryz.func196 ?_
 refine G ?_
 intro b
 refine G ?_
 refine ⟨by decide, _, w64 (by omega), ?_⟩
 refine G ?_
 refine ⟨by decide, _, rfl, ?_⟩
 refine G ?_
 refine Cx [] ?_
 refine At_law hms f1 ⟨f2, f3⟩ f4 f5 ?_
 refine G ?_
 refine L0 ?_
 exact h
theorem UnixMilli_law {ms : Int} (hms : -9223372036854775808 ≤ ms ∧ ms < 9223372036854775808)
  (h : Q (.int .i64 ms) [] [] I) : WP Tryz.prog 141 #[timeV ms] [] [] I Q := by
 refine lw K141 [] _ Tryz.func141 ?_
 refine G ?_
 intro b
 refine G ?_
 refine ⟨by decide, _, w64 (by rw [Int.mul_tdiv_cancel _ (by decide)]; omega), ?_⟩
 rw [Int.mul_tdiv_cancel _ (by decide)]
 conv => whnf
 refine ⟨_, wrap64_id hms ?_, ?_⟩
 ·obtain ⟨k, hk⟩ := wrap64_mod (ms / 1000 * 1000)
  exact ⟨k, by rw [hk]; omega⟩
 refine G ?_
 refine L0 ?_
 exact h
inductive TimeE : Int → List UInt8 → Prop where
 | s (y0 y1 y2 y3 y4 y5 y6 y7 : UInt8) : TimeE (IntKind.i64.wrap ((y7.toNat + y6.toNat * 256 + y5.toNat * 65536 + y4.toNat * 16777216 + y3.toNat * 4294967296 + y2.toNat * 1099511627776 + y1.toNat * 281474976710656 + y0.toNat * 72057594037927936 : Nat) : Int)) [0x83, y0, y1, y2, y3, y4, y5, y6, y7]
theorem readTimestamp_law {n : Int} {e r : List UInt8} (hv : BufAt I bs v) (he : TimeE n e) (hd : bs.drop off = e ++ r) (h : bs.drop (off + e.length) = r → Q (.tuple #[timeV n, .nilIface]) [bufC v (off + e.length)] [] I) :
  WP Tryz.prog 114 #[.pointer (some ⟨b, 0, none⟩)] [(b, bufC v off)] [] I Q := by
 refine lw K114 [(0,1000)] _ Tryz.func114 ?_
 cases he with
 | s y0 y1 y2 y3 y4 y5 y6 y7 =>
  refine G ?_
  intro b2
  refine G ?_
  refine Cx [1000] ?_
  refine readType_law hv hd fun hr => ?_
  refine G ?_
  refine Cx [1000] ?_
  refine ReadUint64_law hv hr fun hr => ?_
  refine G ?_
  refine Cx [] ?_
  refine AtMilli_law (wrap64_range _) ?_
  refine G ?_
  refine L0 ?_
  exact h hr
end rd
def strV (t : List UInt8) : Value := .string ⟨t.toArray⟩
inductive TextE (c8 c32 : UInt8) : List UInt8 → List UInt8 → Prop where
 | s (t : List UInt8) (y : UInt8) (h : y.toNat = t.length) : TextE c8 c32 t (c8 :: y :: t)
 | l (t : List UInt8) (y0 y1 y2 y3 : UInt8) (h : y3.toNat + y2.toNat * 256 + y1.toNat * 65536 + y0.toNat * 16777216 = t.length) : TextE c8 c32 t (c32 :: y0 :: y1 :: y2 :: y3 :: t)
theorem take_of_drop {bs t r : List UInt8} {off : Nat} (h : bs.drop off = t ++ r) : (bs.drop off).take t.length = t ∧ off + t.length ≤ max off bs.length ∧ bs.drop (off + t.length) = r := by
 refine ⟨by rw [h]; simp, ?_, ?_⟩
 ·have := congrArg List.length h
  simp at this
  omega
 ·have := congrArg (List.drop t.length) h
  rw [List.drop_drop] at this
  simpa using this
theorem drop_le {bs r : List UInt8} {off : Nat} {y : UInt8} (h : bs.drop off = y :: r) : off < bs.length := (drop_cons h).1
section rd
variable {I : Imm} {b : Nat} {bs : List UInt8} {v : Value} {off : Nat} {Q : Qt}
theorem ReadString_law {t e r : List UInt8} (hv : BufAt I bs v) (he : TextE 0xa1 0xb1 t e ∨ TextE 0xa3 0xb3 t e) (hd : bs.drop off = e ++ r) (h : bs.drop (off + e.length) = r → Q (.tuple #[strV t, .nilIface]) [bufC v (off + e.length)] [] I) :
  WP Tryz.prog 111 #[.pointer (some ⟨b, 0, none⟩)] [(b, bufC v off)] [] I Q := by
 refine lw K111 [(0,1000)] _ Tryz.func111 ?_
 have hsm := hv.small
 have short : ∀ (y : UInt8) (c : UInt8), y.toNat = t.length → bs.drop off = c :: y :: (t ++ r) → bs.drop (off + 1 + 1) = t ++ r ∧ off + 1 + 1 + y.toNat ≤ bs.length ∧ (bs.drop (off + 1 + 1)).take y.toNat = t ∧ bs.drop (off + 1 + 1 + y.toNat) = r := fun y c hy hd => by
  have h1 := (drop_cons hd).2.2
  have h2 := drop_le h1
  have h3 := (drop_cons h1).2.2
  obtain ⟨g1, g2, g3⟩ := take_of_drop h3
  rw [hy]
  exact ⟨h3, by omega, g1, g3⟩
 have long : ∀ (y0 y1 y2 y3 : UInt8) (c : UInt8), y3.toNat + y2.toNat * 256 + y1.toNat * 65536 + y0.toNat * 16777216 = t.length → bs.drop off = c :: y0 :: y1 :: y2 :: y3 :: (t ++ r) → bs.drop (off + 1) = y0 :: y1 :: y2 :: y3 :: (t ++ r) ∧ off + 1 + 4 ≤ bs.length ∧
   off + 1 + 4 + t.length ≤ bs.length ∧ (bs.drop (off + 1 + 4)).take t.length = t ∧ bs.drop (off + 1 + 4 + t.length) = r := fun y0 y1 y2 y3 c hy hd => by
  have h1 := (drop_cons hd).2.2
  have h5 : bs.drop (off + 1 + 4) = t ++ r := by
   have := congrArg (List.drop 4) h1
   rw [List.drop_drop] at this
   exact this
  have hlen := congrArg List.length h1
  simp at hlen
  obtain ⟨g1, g2, g3⟩ := take_of_drop h5
  exact ⟨h1, by omega, by omega, g1, g3⟩
 have fin8 : ∀ (y : UInt8), y.toNat = t.length → off + 1 + 1 + y.toNat = off + (t.length + 1 + 1) := fun y hy => by omega
 rcases he with he | he <;> cases he
 case inl.s y hy | inr.s y hy =>
  obtain ⟨s1, s2, s3, s4⟩ := short y _ hy hd
  have := y.toNat_lt
  refine G ?_
  refine Cx [1000] ?_
  refine readType_law hv hd fun hr => ?_
  refine G ?_
  refine Cx [1000] ?_
  refine ReadByte_law hv hr fun hr => ?_
  refine G ?_
  refine Cx [1000] ?_
  refine Next_law (n := y.toNat) hv s2 fun sv hsv => ?_
  rw [s3] at hsv
  obtain ⟨base, cap, rfl⟩ := bytes_form hsv
  refine G ?_
  refine ⟨_, .imm hsv, ?_⟩
  refine G ?_
  refine L0 ?_
  simp only [List.length_cons] at h
  rw [← fin8 y hy] at h
  exact h s4
 case inl.l y0 y1 y2 y3 hy | inr.l y0 y1 y2 y3 hy =>
  obtain ⟨s1, s2, s3, s4, s5⟩ := long y0 y1 y2 y3 _ hy hd
  refine G ?_
  refine Cx [1000] ?_
  refine readType_law hv hd fun hr => ?_
  refine G ?_
  refine Cx [1000] ?_
  refine Next_law (n := 4) hv s2 fun sv hsv => ?_
  rw [s1] at hsv
  refine G ?_
  refine Cx [] ?_
  refine Uint32_law hsv (y0 := y0) (y1 := y1) (y2 := y2) (y3 := y3) rfl rfl rfl rfl ?_
  rw [hy]
  refine G ?_
  refine Cx [1000] ?_
  refine Next_law (n := t.length) hv s3 fun sv hsv => ?_
  rw [s4] at hsv
  obtain ⟨base, cap, rfl⟩ := bytes_form hsv
  refine G ?_
  refine ⟨_, .imm hsv, ?_⟩
  refine G ?_
  refine L0 ?_
  simp only [List.length_cons] at h
  rw [show off + (t.length + 1 + 1 + 1 + 1 + 1) = off + 1 + 4 + t.length by omega] at h
  exact h s5
end rd
theorem froz_bytes {I : Imm} {v : Value} {t : List UInt8} {n : Nat} (h : Froz I (.vec v 1 (t.map byteV))) (hv : ∃ base cap, v = .slice base n cap) (hn : n = t.length) : BytesAt I t v := by
 obtain ⟨base, cap, rfl⟩ := hv
 obtain ⟨m, h1, h2⟩ := h
 have : n = m := h1
 subst this
 subst hn
 exact h2
theorem list16 {t : List UInt8} (h : t.length = 16) : ∃ x0 x1 x2 x3 x4 x5 x6 x7 x8 x9 x10 x11 x12 x13 x14 x15, t = [x0, x1, x2, x3, x4, x5, x6, x7, x8, x9, x10, x11, x12, x13, x14, x15] := by
 match t, h with
 | [x0, x1, x2, x3, x4, x5, x6, x7, x8, x9, x10, x11, x12, x13, x14, x15], _ => exact ⟨_, _, _, _, _, _, _, _, _, _, _, _, _, _, _, _, rfl⟩
theorem oneAll_bytes : ∀ t : List UInt8, oneAll (t.map byteV) = true
 | [] => rfl
 | _ :: t => oneAll_bytes t
section rd
variable {I : Imm} {b : Nat} {bs : List UInt8} {v : Value} {off : Nat} {Q : Qt}
theorem readBinary_law {t e r : List UInt8} (hv : BufAt I bs v) (he : TextE 0xa0 0xb0 t e) (hd : bs.drop off = e ++ r) (h : ∀ I' sv, I.le I' → BytesAt I' t sv → bs.drop (off + e.length) = r → Q (.tuple #[sv, .nilIface]) [bufC v (off + e.length)] [] I') :
  WP Tryz.prog 112 #[.pointer (some ⟨b, 0, none⟩)] [(b, bufC v off)] [] I Q := by
 refine lw K112 [(0,1000)] _ Tryz.func112 ?_
 have hsm := hv.small
 cases he with
 | s y hy =>
  have h1 := (drop_cons hd).2.2
  have h2 := drop_le h1
  have h3 := (drop_cons h1).2.2
  obtain ⟨s3, s2, s4⟩ := take_of_drop h3
  have := y.toNat_lt
  refine G ?_
  refine Cx [1000] ?_
  refine readType_law hv hd fun hr => ?_
  refine G ?_
  refine Cx [1000] ?_
  refine ReadByte_law hv hr fun hr => ?_
  rw [show byteV y = .int .u8 (t.length : Nat) by rw [← hy]; rfl]
  refine G ?_
  split
  ·rename_i h0 _
   obtain rfl : t = [] := List.eq_nil_of_length_eq_zero (by omega)
   refine G ?_
   refine ⟨rfl, 0, rfl, rfl, by omega, by omega, fun vb => ?_⟩
   refine G ?_
   refine ⟨⟨[], [], [], [51], ?_⟩⟩
   intro I' hi hf
   exact h I' _ hi (froz_bytes (t := []) (n := 0) hf ⟨_, _, rfl⟩ rfl) s4
  ·refine G ?_
   refine Cx [1000] ?_
   refine Next_law (n := t.length) hv (by omega) fun sv hsv => ?_
   rw [s3] at hsv
   obtain ⟨base0, cap0, rfl⟩ := bytes_form hsv
   refine G ?_
   refine .nil _ _ rfl hsv (by rw [show ti5.bytes = 1 by kernel_rfl]; omega) fun base cap => ?_
   refine G ?_
   refine ⟨⟨[], [], [], [62], ?_⟩⟩
   intro I' hi hf
   simp only [List.length_cons] at h
   rw [show off + (t.length + 1 + 1) = off + 1 + 1 + t.length by omega] at h
   conv => whnf
   exact h I' _ hi (froz_bytes hf ⟨_, _, rfl⟩ rfl) s4
 | l y0 y1 y2 y3 hy =>
  have h1 := (drop_cons hd).2.2
  have h5 : bs.drop (off + 1 + 4) = t ++ r := by
   have := congrArg (List.drop 4) h1
   rw [List.drop_drop] at this
   exact this
  have hlen := congrArg List.length h1
  simp at hlen
  obtain ⟨s3, s2, s4⟩ := take_of_drop h5
  refine G ?_
  refine Cx [1000] ?_
  refine readType_law hv hd fun hr => ?_
  refine G ?_
  refine Cx [1000] ?_
  refine Next_law (n := 4) hv (by omega) fun sv hsv => ?_
  rw [h1] at hsv
  refine G ?_
  refine Cx [] ?_
  refine Uint32_law hsv (y0 := y0) (y1 := y1) (y2 := y2) (y3 := y3) rfl rfl rfl rfl ?_
  rw [hy]
  refine G ?_
  split
  ·rename_i h0 _
   obtain rfl : t = [] := List.eq_nil_of_length_eq_zero (by omega)
   refine G ?_
   refine ⟨rfl, 0, rfl, rfl, by omega, by omega, fun vb => ?_⟩
   refine G ?_
   refine ⟨⟨[], [], [], [51], ?_⟩⟩
   intro I' hi hf
   exact h I' _ hi (froz_bytes (t := []) (n := 0) hf ⟨_, _, rfl⟩ rfl) s4
  ·refine G ?_
   refine Cx [1000] ?_
   refine Next_law (n := t.length) hv (by omega) fun sv hsv => ?_
   rw [s3] at hsv
   obtain ⟨base0, cap0, rfl⟩ := bytes_form hsv
   refine G ?_
   refine .nil _ _ rfl hsv (by rw [show ti5.bytes = 1 by kernel_rfl]; omega) fun base cap => ?_
   refine G ?_
   refine ⟨⟨[], [], [], [62], ?_⟩⟩
   intro I' hi hf
   simp only [List.length_cons] at h
   rw [show off + (t.length + 1 + 1 + 1 + 1 + 1) = off + 1 + 4 + t.length by omega] at h
   conv => whnf
   exact h I' _ hi (froz_bytes hf ⟨_, _, rfl⟩ rfl) s4
inductive UuidE : List UInt8 → List UInt8 → Prop where
 | s (t : List UInt8) (h : t.length = 16) : UuidE t (0x98 :: t)
def uuidV (t : List UInt8) : Value := .agg (t.map byteV).toArray
theorem readUUID_law {t e r : List UInt8} (hv : BufAt I bs v) (he : UuidE t e) (hd : bs.drop off = e ++ r) (h : bs.drop (off + e.length) = r → Q (.tuple #[uuidV t, .nilIface]) [bufC v (off + e.length)] [] I) :
  WP Tryz.prog 207 #[.pointer (some ⟨b, 0, none⟩)] [(b, bufC v off)] [] I Q := by
 refine lw K207 [(0,1000)] _ Tryz.func207 ?_
 cases he with
 | s ht =>
  obtain ⟨x0, x1, x2, x3, x4, x5, x6, x7, x8, x9, x10, x11, x12, x13, x14, x15, rfl⟩ := list16 ht
  have h1 := (drop_cons hd).2.2
  have hlen := congrArg List.length h1
  simp at hlen
  obtain ⟨s3, s2, s4⟩ := take_of_drop h1
  refine G ?_
  intro b1
  refine G ?_
  intro b2
  refine G ?_
  refine Cx [1000] ?_
  refine readType_law hv hd fun hr => ?_
  refine G ?_
  refine Cx [1000] ?_
  refine Next_law (n := 16) hv (by omega) fun sv hsv => ?_
  rw [h1] at hsv
  replace hsv : BytesAt I [x0, x1, x2, x3, x4, x5, x6, x7, x8, x9, x10, x11, x12, x13, x14, x15] sv := hsv
  obtain ⟨base0, cap0, rfl⟩ := bytes_form hsv
  refine G ?_
  refine ⟨_, _, hsv, oneAll_bytes _, .loc 4 _ rfl (Nat.le_of_ble_eq_true (by kernel_rfl)) ?_⟩
  refine G ?_
  refine L0 ?_
  exact h s4
end rd
inductive HeadE (c8 c32 : UInt8) : Nat → List UInt8 → List UInt8 → Prop where
 | s (y z : UInt8) (body : List UInt8) (h1 : y.toNat = body.length + 1) (h2 : z.toNat ≤ body.length) : HeadE c8 c32 z.toNat [c8, y, z] body
 | l (y0 y1 y2 y3 z0 z1 z2 z3 : UInt8) (body : List UInt8) (n : Nat) (h1 : y3.toNat + y2.toNat * 256 + y1.toNat * 65536 + y0.toNat * 16777216 = body.length + 4)
   (h2 : z3.toNat + z2.toNat * 256 + z1.toNat * 65536 + z0.toNat * 16777216 = n) (h3 : n ≤ body.length) (h4 : n ≤ 65536) : HeadE c8 c32 n [c32, y0, y1, y2, y3, z0, z1, z2, z3] body
inductive ListH : Nat → List UInt8 → List UInt8 → Prop where
 | z : ListH 0 [0x45] []
 | h {n : Nat} {hd body : List UInt8} (h : HeadE 0xc0 0xd0 n hd body) : ListH n hd body
section rd
variable {I : Imm} {b : Nat} {bs : List UInt8} {v : Value} {off : Nat} {Q : Qt}
theorem readListHeader_law {n : Nat} {hd body r : List UInt8} (hv : BufAt I bs v) (he : ListH n hd body) (hdr : bs.drop off = hd ++ (body ++ r)) (h : bs.drop (off + hd.length) = body ++ r → Q (.tuple #[.int .i64 (n : Nat), .nilIface]) [bufC v (off + hd.length)] [] I) :
  WP Tryz.prog 98 #[.pointer (some ⟨b, 0, none⟩)] [(b, bufC v off)] [] I Q := by
 refine lw K98 [(0,1000)] _ Tryz.func98 ?_
 have hsm := hv.small
 cases he with
 | z =>
  have hl := drop_le hdr
  refine G ?_
  refine Cx [1000] ?_
  refine readType_law hv hdr fun hr => ?_
  refine G ?_
  refine Cx [1000] ?_
  refine Len_law hv (by omega) ?_
  refine G ?_
  refine L0 ?_
  exact h hr
 | h he =>
  cases he with
  | s y z h1 h2 =>
   have g1 := (drop_cons hdr).2.2
   have hlen := congrArg List.length g1
   simp at hlen
   have := y.toNat_lt
   have := z.toNat_lt
   have g2 := (drop_cons (drop_cons g1).2.2).2.2
   refine G ?_
   refine Cx [1000] ?_
   refine readType_law hv hdr fun hr => ?_
   refine G ?_
   refine Cx [1000] ?_
   refine Len_law hv (by omega) ?_
   refine G ?_
   refine Cx [1000] ?_
   refine Next_law (n := 2) hv (by omega) fun sv hsv => ?_
   rw [g1] at hsv
   replace hsv : BytesAt I [y, z] sv := hsv
   obtain ⟨base, cap, rfl⟩ := bytes_form hsv
   obtain ⟨vb, vo, rfl⟩ := bytes_some hsv (by simp)
   refine G ?_
   refine ⟨_, _, _, _, 1, rfl, rfl, by simp, ?_⟩
   refine G ?_
   refine ⟨_, .imm (bytes_cell hsv (y := z) rfl), ?_⟩
   refine G ?_
   refine ⟨_, _, _, _, 0, rfl, rfl, by simp, ?_⟩
   refine G ?_
   refine ⟨_, .imm (bytes_cell hsv (y := y) rfl), ?_⟩
   refine G ?_
   (split; omega); refine G ?_
   refine ⟨_, _, _, _, 1, rfl, rfl, by simp, ?_⟩
   refine G ?_
   refine ⟨_, .imm (bytes_cell hsv (y := z) rfl), ?_⟩
   refine G ?_
   repeat ((split; omega); refine G ?_)
   refine L0 ?_
   exact h g2
  | l y0 y1 y2 y3 z0 z1 z2 z3 body n h1 h2 h3 h4 =>
   have g1 := (drop_cons hdr).2.2
   have hlen := congrArg List.length g1
   simp at hlen
   have g2 : bs.drop (off + 1 + 8) = body ++ r := by
    have := congrArg (List.drop 8) g1
    rw [List.drop_drop] at this
    exact this
   refine G ?_
   refine Cx [1000] ?_
   refine readType_law hv hdr fun hr => ?_
   refine G ?_
   refine Cx [1000] ?_
   refine Len_law hv (by omega) ?_
   refine G ?_
   refine Cx [1000] ?_
   refine Next_law (n := 8) hv (by omega) fun sv hsv => ?_
   rw [g1] at hsv
   replace hsv : BytesAt I [y0, y1, y2, y3, z0, z1, z2, z3] sv := hsv
   obtain ⟨base, cap, rfl⟩ := bytes_form hsv
   obtain ⟨vb, vo, rfl⟩ := bytes_some hsv (by simp)
   have hcap := (bytes_le hsv).2
   simp only [List.length_cons, List.length_nil] at hcap
   refine G ?_
   refine ⟨_, _, _, _, 7, rfl, rfl, by simp, ?_⟩
   refine G ?_
   refine ⟨_, .imm (bytes_cell hsv (y := z3) rfl), ?_⟩
   refine G ?_
   refine ⟨[0,1,2,3,4,5], [], [], [], by kernel_rfl, ?_⟩
   refine G ?_
   refine ⟨0, 4, rfl, rfl, by omega, by omega, ?_⟩
   intro s1 hs1
   refine G ?_
   refine .inr ?_
   refine G ?_
   refine Uint32_law (hs1 ▸ bytes_cut hsv (l := 0) (u := 4) (by omega) (by simp)) (y0 := y0) (y1 := y1) (y2 := y2) (y3 := y3) rfl rfl rfl rfl ?_
   rw [h1]
   refine G ?_
   (split; omega); refine G ?_
   refine ⟨[0,1,2,3,4,5], [], [], [], by kernel_rfl, ?_⟩
   refine G ?_
   refine ⟨4, 8, rfl, rfl, by omega, by omega, ?_⟩
   intro s2 hs2
   refine G ?_
   refine .inr ?_
   refine G ?_
   refine Uint32_law (hs2 ▸ bytes_cut hsv (l := 4) (u := 8) (by omega) (by simp)) (y0 := z0) (y1 := z1) (y2 := z2) (y3 := z3) rfl rfl rfl rfl ?_
   rw [h2]
   refine G ?_
   repeat ((split; omega); refine G ?_)
   refine L0 ?_
   exact h g2
end rd
section rd
variable {I : Imm} {b : Nat} {bs : List UInt8} {v : Value} {off : Nat} {Q : Qt}
theorem readArrayHeader_law {n : Nat} {hd body r : List UInt8} (hv : BufAt I bs v) (he : HeadE 0xe0 0xf0 n hd body) (hdr : bs.drop off = hd ++ (body ++ r)) (h : bs.drop (off + hd.length) = body ++ r → Q (.tuple #[.int .i64 (n : Nat), .nilIface]) [bufC v (off + hd.length)] [] I) :
  WP Tryz.prog 197 #[.pointer (some ⟨b, 0, none⟩)] [(b, bufC v off)] [] I Q := by
 refine lw K197 [(0,1000)] _ Tryz.func197 ?_
 have hsm := hv.small
 cases he with
 | s y z h1 h2 =>
  have g1 := (drop_cons hdr).2.2
  have hlen := congrArg List.length g1
  simp at hlen
  have := y.toNat_lt
  have := z.toNat_lt
  have g2 := (drop_cons (drop_cons g1).2.2).2.2
  refine G ?_
  refine Cx [1000] ?_
  refine readType_law hv hdr fun hr => ?_
  refine G ?_
  refine Cx [1000] ?_
  refine Len_law hv (by omega) ?_
  refine G ?_
  refine Cx [1000] ?_
  refine Next_law (n := 2) hv (by omega) fun sv hsv => ?_
  rw [g1] at hsv
  replace hsv : BytesAt I [y, z] sv := hsv
  obtain ⟨base, cap, rfl⟩ := bytes_form hsv
  obtain ⟨vb, vo, rfl⟩ := bytes_some hsv (by simp)
  refine G ?_
  refine ⟨_, _, _, _, 1, rfl, rfl, by simp, ?_⟩
  refine G ?_
  refine ⟨_, .imm (bytes_cell hsv (y := z) rfl), ?_⟩
  refine G ?_
  refine ⟨_, _, _, _, 0, rfl, rfl, by simp, ?_⟩
  refine G ?_
  refine ⟨_, .imm (bytes_cell hsv (y := y) rfl), ?_⟩
  refine G ?_
  (split; omega); refine G ?_
  refine ⟨_, _, _, _, 1, rfl, rfl, by simp, ?_⟩
  refine G ?_
  refine ⟨_, .imm (bytes_cell hsv (y := z) rfl), ?_⟩
  refine G ?_
  repeat ((split; omega); refine G ?_)
  refine L0 ?_
  exact h g2
 | l y0 y1 y2 y3 z0 z1 z2 z3 body n h1 h2 h3 h4 =>
  have g1 := (drop_cons hdr).2.2
  have hlen := congrArg List.length g1
  simp at hlen
  have g2 : bs.drop (off + 1 + 8) = body ++ r := by
   have := congrArg (List.drop 8) g1
   rw [List.drop_drop] at this
   exact this
  refine G ?_
  refine Cx [1000] ?_
  refine readType_law hv hdr fun hr => ?_
  refine G ?_
  refine Cx [1000] ?_
  refine Len_law hv (by omega) ?_
  refine G ?_
  refine Cx [1000] ?_
  refine Next_law (n := 8) hv (by omega) fun sv hsv => ?_
  rw [g1] at hsv
  replace hsv : BytesAt I [y0, y1, y2, y3, z0, z1, z2, z3] sv := hsv
  obtain ⟨base, cap, rfl⟩ := bytes_form hsv
  obtain ⟨vb, vo, rfl⟩ := bytes_some hsv (by simp)
  have hcap := (bytes_le hsv).2
  simp only [List.length_cons, List.length_nil] at hcap
  refine G ?_
  refine ⟨_, _, _, _, 7, rfl, rfl, by simp, ?_⟩
  refine G ?_
  refine ⟨_, .imm (bytes_cell hsv (y := z3) rfl), ?_⟩
  refine G ?_
  refine ⟨[0,1,2,3,4,5], [], [], [], by kernel_rfl, ?_⟩
  refine G ?_
  refine ⟨0, 4, rfl, rfl, by omega, by omega, ?_⟩
  intro s1 hs1
  refine G ?_
  refine .inr ?_
  refine G ?_
  refine Uint32_law (hs1 ▸ bytes_cut hsv (l := 0) (u := 4) (by omega) (by simp)) (y0 := y0) (y1 := y1) (y2 := y2) (y3 := y3) rfl rfl rfl rfl ?_
  rw [h1]
  refine G ?_
  (split; omega); refine G ?_
  refine ⟨[0,1,2,3,4,5], [], [], [], by kernel_rfl, ?_⟩
  refine G ?_
  refine ⟨4, 8, rfl, rfl, by omega, by omega, ?_⟩
  intro s2 hs2
  refine G ?_
  refine .inr ?_
  refine G ?_
  refine Uint32_law (hs2 ▸ bytes_cut hsv (l := 4) (u := 8) (by omega) (by simp)) (y0 := z0) (y1 := z1) (y2 := z2) (y3 := z3) rfl rfl rfl rfl ?_
  rw [h2]
  refine G ?_
  repeat ((split; omega); refine G ?_)
  refine L0 ?_
  exact h g2
theorem readMap8Header_law {y z : UInt8} {body r : List UInt8} (hv : BufAt I bs v) (h1 : y.toNat = body.length + 1) (h2 : z.toNat ≤ body.length) (hdr : bs.drop off = y :: z :: (body ++ r)) (h : bs.drop (off + 2) = body ++ r → Q (.tuple #[.int .u32 (z.toNat : Nat), .nilIface]) [bufC v (off + 2)] [] I) :
  WP Tryz.prog 225 #[.pointer (some ⟨b, 0, none⟩)] [(b, bufC v off)] [] I Q := by
 refine lw K225 [(0,1000)] _ Tryz.func225 ?_
 have hsm := hv.small
 have hlen := congrArg List.length hdr
 simp at hlen
 have := y.toNat_lt
 have := z.toNat_lt
 have g2 := (drop_cons (drop_cons hdr).2.2).2.2
 refine G ?_
 refine Cx [1000] ?_
 refine Len_law hv (by omega) ?_
 refine G ?_
 refine Cx [1000] ?_
 refine Next_law (n := 2) hv (by omega) fun sv hsv => ?_
 rw [hdr] at hsv
 replace hsv : BytesAt I [y, z] sv := hsv
 obtain ⟨base, cap, rfl⟩ := bytes_form hsv
 obtain ⟨vb, vo, rfl⟩ := bytes_some hsv (by simp)
 refine G ?_
 refine ⟨_, _, _, _, 1, rfl, rfl, by simp, ?_⟩
 refine G ?_
 refine ⟨_, .imm (bytes_cell hsv (y := z) rfl), ?_⟩
 refine G ?_
 refine ⟨_, _, _, _, 0, rfl, rfl, by simp, ?_⟩
 refine G ?_
 refine ⟨_, .imm (bytes_cell hsv (y := y) rfl), ?_⟩
 refine G ?_
 (split; omega); refine G ?_
 refine ⟨_, _, _, _, 1, rfl, rfl, by simp, ?_⟩
 refine G ?_
 refine ⟨_, .imm (bytes_cell hsv (y := z) rfl), ?_⟩
 refine G ?_
 (split; omega); refine G ?_
 refine Cx [1000] ?_
 refine Len_law hv (by omega) ?_
 refine G ?_
 (split; omega); refine G ?_
 refine L0 ?_
 exact h g2
theorem readMap32Header_law {y0 y1 y2 y3 z0 z1 z2 z3 : UInt8} {n : Nat} {body r : List UInt8} (hv : BufAt I bs v) (h1 : y3.toNat + y2.toNat * 256 + y1.toNat * 65536 + y0.toNat * 16777216 = body.length + 4)
   (h2 : z3.toNat + z2.toNat * 256 + z1.toNat * 65536 + z0.toNat * 16777216 = n) (h3 : n ≤ body.length) (h4 : n ≤ 65536) (hdr : bs.drop off = y0 :: y1 :: y2 :: y3 :: z0 :: z1 :: z2 :: z3 :: (body ++ r))
   (h : bs.drop (off + 8) = body ++ r → Q (.tuple #[.int .u32 (n : Nat), .nilIface]) [bufC v (off + 8)] [] I) :
  WP Tryz.prog 226 #[.pointer (some ⟨b, 0, none⟩)] [(b, bufC v off)] [] I Q := by
 refine lw K226 [(0,1000)] _ Tryz.func226 ?_
 have hsm := hv.small
 have hlen := congrArg List.length hdr
 simp at hlen
 have g2 : bs.drop (off + 8) = body ++ r := by
  have := congrArg (List.drop 8) hdr
  rw [List.drop_drop] at this
  exact this
 refine G ?_
 refine Cx [1000] ?_
 refine Len_law hv (by omega) ?_
 refine G ?_
 refine Cx [1000] ?_
 refine Next_law (n := 8) hv (by omega) fun sv hsv => ?_
 rw [hdr] at hsv
 replace hsv : BytesAt I [y0, y1, y2, y3, z0, z1, z2, z3] sv := hsv
 obtain ⟨base, cap, rfl⟩ := bytes_form hsv
 obtain ⟨vb, vo, rfl⟩ := bytes_some hsv (by simp)
 have hcap := (bytes_le hsv).2
 simp only [List.length_cons, List.length_nil] at hcap
 refine G ?_
 refine ⟨_, _, _, _, 7, rfl, rfl, by simp, ?_⟩
 refine G ?_
 refine ⟨_, .imm (bytes_cell hsv (y := z3) rfl), ?_⟩
 refine G ?_
 refine ⟨[0,1,2,3,4,5], [], [], [], by kernel_rfl, ?_⟩
 refine G ?_
 refine ⟨0, 4, rfl, rfl, by omega, by omega, ?_⟩
 intro s1 hs1
 refine G ?_
 refine .inr ?_
 refine G ?_
 refine Uint32_law (hs1 ▸ bytes_cut hsv (l := 0) (u := 4) (by omega) (by simp)) (y0 := y0) (y1 := y1) (y2 := y2) (y3 := y3) rfl rfl rfl rfl ?_
 rw [h1]
 refine G ?_
 (split; omega); refine G ?_
 refine ⟨[0,1,2,3,4], [], [], [], by kernel_rfl, ?_⟩
 refine G ?_
 refine ⟨4, 8, rfl, rfl, by omega, by omega, ?_⟩
 intro s2 hs2
 refine G ?_
 refine .inr ?_
 refine G ?_
 refine Uint32_law (hs2 ▸ bytes_cut hsv (l := 4) (u := 8) (by omega) (by simp)) (y0 := z0) (y1 := z1) (y2 := z2) (y3 := z3) rfl rfl rfl rfl ?_
 rw [h2]
 refine G ?_
 (split; omega); refine G ?_
 refine Cx [1000] ?_
 refine Len_law hv (by omega) ?_
 refine G ?_
 (split; omega); refine G ?_
 refine L0 ?_
 exact h g2
theorem readMapHeader_law {n : Nat} {hd body r : List UInt8} (hv : BufAt I bs v) (he : HeadE 0xc1 0xd1 n hd body) (hdr : bs.drop off = hd ++ (body ++ r)) (h : bs.drop (off + hd.length) = body ++ r → Q (.tuple #[.int .u32 (n : Nat), .nilIface]) [bufC v (off + hd.length)] [] I) :
  WP Tryz.prog 204 #[.pointer (some ⟨b, 0, none⟩)] [(b, bufC v off)] [] I Q := by
 refine lw K204 [(0,1000)] _ Tryz.func204 ?_
 cases he with
 | s y z body h1 h2 =>
  refine G ?_
  refine Cx [1000] ?_
  refine peekType_law hv hdr ?_
  refine G ?_
  refine Cx [1000] ?_
  refine ReadByte_law hv hdr fun hr => ?_
  refine G ?_
  refine Cx [1000] ?_
  refine readMap8Header_law hv h1 h2 hr fun hr => ?_
  refine G ?_
  refine L0 ?_
  exact h hr
 | l y0 y1 y2 y3 z0 z1 z2 z3 body n h1 h2 h3 h4 =>
  refine G ?_
  refine Cx [1000] ?_
  refine peekType_law hv hdr ?_
  refine G ?_
  refine Cx [1000] ?_
  refine ReadByte_law hv hdr fun hr => ?_
  refine G ?_
  refine Cx [1000] ?_
  refine readMap32Header_law hv h1 h2 h3 h4 hr fun hr => ?_
  refine G ?_
  refine L0 ?_
  exact h hr
end rd
inductive V where
 | mk (kind : Int) (num : Nat) (text : List UInt8) (kids : List V) (of : Int) (desc : List V)
def V.kind : V → Int | .mk k _ _ _ _ _ => k
def V.num : V → Nat | .mk _ n _ _ _ _ => n
def V.text : V → List UInt8 | .mk _ _ t _ _ _ => t
def V.kids : V → List V | .mk _ _ _ l _ _ => l
def V.of : V → Int | .mk _ _ _ _ o _ => o
def V.desc : V → List V | .mk _ _ _ _ _ d => d
noncomputable def V.sz (a : V) : Nat := SizeOf.sizeOf a
theorem V.sz_kid {a x : V} (h : x ∈ a.kids) : x.sz < a.sz := by
 obtain ⟨k, n, t, ks, o, ds⟩ := a
 have := List.sizeOf_lt_of_mem (show x ∈ ks from h)
 simp only [V.sz, V.mk.sizeOf_spec]
 omega
theorem V.sz_desc {a x : V} (h : x ∈ a.desc) : x.sz < a.sz := by
 obtain ⟨k, n, t, ks, o, ds⟩ := a
 have := List.sizeOf_lt_of_mem (show x ∈ ds from h)
 simp only [V.sz, V.mk.sizeOf_spec]
 omega
theorem V.sz_pos (a : V) : 0 < a.sz := by
 obtain ⟨k, n, t, ks, o, ds⟩ := a
 simp only [V.sz, V.mk.sizeOf_spec]
 omega
inductive VRep (I : Imm) : V → List Value → Prop where
 | mk {k : Int} {n : Nat} {t : List UInt8} {ks : List V} {o : Int} {ds : List V} {kv dv : Value} {kc dc : List (List Value)}
   (hk : -9223372036854775808 ≤ k ∧ k < 9223372036854775808) (hn : n < 18446744073709551616) (ho : -9223372036854775808 ≤ o ∧ o < 9223372036854775808)
   (ht : t.length < 1099511627776) (hkl : ks.length < 1099511627776) (hdl : ds.length < 1099511627776)
   (h1 : SlAt I 6 ks.length kc.flatten kv) (h2 : kc.length = ks.length) (h3 : ∀ (i : Nat) (x : V) (c : List Value), ks[i]? = some x → kc[i]? = some c → VRep I x c)
   (h4 : SlAt I 6 ds.length dc.flatten dv) (h5 : dc.length = ds.length) (h6 : ∀ (i : Nat) (x : V) (c : List Value), ds[i]? = some x → dc[i]? = some c → VRep I x c) :
   VRep I (.mk k n t ks o ds) [.int .i64 k, .int .u64 (n : Nat), strV t, kv, .int .i64 o, dv]
def VsRep (I : Imm) (l : List V) (v : Value) : Prop := l.length < 1099511627776 ∧ ∃ cs : List (List Value), SlAt I 6 l.length cs.flatten v ∧ cs.length = l.length ∧ ∀ (i : Nat) (x : V) (c : List Value), l[i]? = some x → cs[i]? = some c → VRep I x c
theorem VRep.len {I : Imm} {x : V} {c : List Value} (h : VRep I x c) : c.length = 6 := by cases h; rfl
theorem VRep.mono {I J : Imm} (hi : I.le J) {x : V} {c : List Value} (h : VRep I x c) : VRep J x c := by
 induction h with
 | mk hk hn ho ht hkl hdl h1 h2 h3 h4 h5 h6 ih1 ih2 => exact .mk hk hn ho ht hkl hdl (SlAt.mono hi h1) h2 ih1 (SlAt.mono hi h4) h5 ih2
theorem VsRep.mono {I J : Imm} (hi : I.le J) {l : List V} {v : Value} (h : VsRep I l v) : VsRep J l v := by
 obtain ⟨hl, cs, h1, h2, h3⟩ := h
 exact ⟨hl, cs, SlAt.mono hi h1, h2, fun i x c hx hc => (h3 i x c hx hc).mono hi⟩
theorem VsRep.form {I : Imm} {l : List V} {v : Value} (h : VsRep I l v) : ∃ base cap, v = .slice base l.length cap := by
 obtain ⟨_, cs, h1, _, _⟩ := h; exact slAt_form h1
theorem VsRep.nil (I : Imm) : VsRep I [] (.slice none 0 0) := ⟨by decide, [], slAt_nil I 6, rfl, by simp⟩
theorem VRep.inv {I : Imm} {x : V} {c : List Value} (h : VRep I x c) : ∃ kv dv, c = [.int .i64 x.kind, .int .u64 (x.num : Nat), strV x.text, kv, .int .i64 x.of, dv] ∧ VsRep I x.kids kv ∧ VsRep I x.desc dv ∧
  (-9223372036854775808 ≤ x.kind ∧ x.kind < 9223372036854775808) ∧ x.num < 18446744073709551616 ∧ (-9223372036854775808 ≤ x.of ∧ x.of < 9223372036854775808) ∧ x.text.length < 1099511627776 := by
 cases h with
 | mk hk hn ho ht hkl hdl h1 h2 h3 h4 h5 h6 => exact ⟨_, _, rfl, ⟨hkl, _, h1, h2, h3⟩, ⟨hdl, _, h4, h5, h6⟩, hk, hn, ho, ht⟩
def cellsOf (x : V) (kb : Option Addr) (kc : Nat) (db : Option Addr) (dc : Nat) : List Value := [.int .i64 x.kind, .int .u64 (x.num : Nat), strV x.text, .slice kb x.kids.length kc, .int .i64 x.of, .slice db x.desc.length dc]
theorem VRep.inv2 {I : Imm} {x : V} {c : List Value} (h : VRep I x c) : ∃ kb kc db dc, c = cellsOf x kb kc db dc ∧ VsRep I x.kids (.slice kb x.kids.length kc) ∧ VsRep I x.desc (.slice db x.desc.length dc) ∧
  (-9223372036854775808 ≤ x.kind ∧ x.kind < 9223372036854775808) ∧ x.num < 18446744073709551616 ∧ (-9223372036854775808 ≤ x.of ∧ x.of < 9223372036854775808) ∧ x.text.length < 1099511627776 := by
 obtain ⟨kv, dv, rfl, h1, h2, h3⟩ := h.inv
 obtain ⟨kb, kc, rfl⟩ := h1.form
 obtain ⟨db, dc, rfl⟩ := h2.form
 exact ⟨kb, kc, db, dc, rfl, h1, h2, h3⟩
theorem VRep.intro {I : Imm} {k : Int} {n : Nat} {t : List UInt8} {ks : List V} {o : Int} {ds : List V} {kv dv : Value} (hk : -9223372036854775808 ≤ k ∧ k < 9223372036854775808) (hn : n < 18446744073709551616) (ho : -9223372036854775808 ≤ o ∧ o < 9223372036854775808)
  (ht : t.length < 1099511627776) (h1 : VsRep I ks kv) (h2 : VsRep I ds dv) : VRep I (.mk k n t ks o ds) [.int .i64 k, .int .u64 (n : Nat), strV t, kv, .int .i64 o, dv] := by
 obtain ⟨al, a, a1, a2, a3⟩ := h1
 obtain ⟨bl, b, b1, b2, b3⟩ := h2
 exact .mk hk hn ho ht al bl a1 a2 a3 b1 b2 b3
theorem flatten_get {cs : List (List Value)} {n : Nat} (hl : ∀ c ∈ cs, c.length = n) : ∀ {i : Nat} {c : List Value}, cs[i]? = some c → ∀ j x, c[j]? = some x → cs.flatten[i * n + j]? = some x := by
 induction cs with
 | nil => intro i c h; simp at h
 | cons d cs ih =>
  intro i c h j x hx
  have hd : d.length = n := hl d (by simp)
  cases i with
  | zero =>
   simp only [List.getElem?_cons_zero, Option.some.injEq] at h
   subst h
   rw [List.flatten_cons, Nat.zero_mul, Nat.zero_add, List.getElem?_append_left]
   ·exact hx
   ·exact (List.getElem?_eq_some_iff.1 hx).1
  | succ i =>
   simp only [List.getElem?_cons_succ] at h
   rw [List.flatten_cons, List.getElem?_append_right (by rw [hd, Nat.add_mul]; omega)]
   have := ih (fun c hc => hl c (by simp [hc])) h j x hx
   rw [hd, show (i + 1) * n + j - n = i * n + j by rw [Nat.add_mul]; omega]
   exact this
theorem VsRep.get {I : Imm} {l : List V} {b off m cap i : Nat} {x : V} (h : VsRep I l (.slice (some ⟨b, off, none⟩) m cap)) (hx : l[i]? = some x) : ∃ c, VRep I x c ∧ CellsAt I b (off + i * 6) c := by
 obtain ⟨_, cs, h1, h2, h3⟩ := h
 have hi : i < cs.length := by rw [h2]; exact (List.getElem?_eq_some_iff.1 hx).1
 refine ⟨cs[i], h3 i x _ hx (by simp [hi]), fun j y hy => ?_⟩
 have hl : ∀ c ∈ cs, c.length = 6 := fun c hc => by
  obtain ⟨k, hk⟩ := List.mem_iff_getElem?.1 hc
  have hkl : k < l.length := by rw [← h2]; exact (List.getElem?_eq_some_iff.1 hk).1
  exact (h3 k l[k] c (by simp [hkl]) hk).len
 have := h1.2.2.2 _ _ (flatten_get hl (show cs[i]? = some cs[i] by simp [hi]) j y hy)
 rw [Nat.add_assoc]
 exact this
theorem VsRep.some {I : Imm} {l : List V} {base : Option Addr} {m cap : Nat} (h : VsRep I l (.slice base m cap)) (hn : 0 < l.length) : ∃ b off, base = some ⟨b, off, none⟩ ∧ m = l.length := by
 obtain ⟨_, cs, h1, _, _⟩ := h
 obtain ⟨b, off, e, e2, _⟩ := slAt_some h1 hn
 exact ⟨b, off, e, e2⟩
inductive Same : V → V → Prop where
 | mk {k : Int} {n : Nat} {t : List UInt8} {ks ks' : List V} {o o' : Int} {ds ds' : List V} (h1 : ks.length = ks'.length) (h2 : ∀ (i : Nat) (x y : V), ks[i]? = some x → ks'[i]? = some y → Same x y)
   (h3 : ds.length = ds'.length) (h4 : ∀ (x y : V), ds[0]? = some x → ds'[0]? = some y → Same x y) : Same (.mk k n t ks o ds) (.mk k n t ks' o' ds')
theorem Same.inv {a b : V} (h : Same a b) : a.kind = b.kind ∧ a.num = b.num ∧ a.text = b.text ∧ a.kids.length = b.kids.length ∧ (∀ (i : Nat) (x y : V), a.kids[i]? = some x → b.kids[i]? = some y → Same x y) ∧ a.desc.length = b.desc.length ∧
  ∀ (x y : V), a.desc[0]? = some x → b.desc[0]? = some y → Same x y := by
 cases h with
 | mk h1 h2 h3 h4 => exact ⟨rfl, rfl, rfl, h1, h2, h3, h4⟩
theorem SameValue_law : ∀ (n : Nat) (a b : V) {ca cb : List Value} {I : Imm} {Q : Qt}, a.sz ≤ n → VRep I a ca → VRep I b cb →
  (∀ t : Bool, (t = true ↔ Same a b) → Q (.bool t) [] [] I) → WP Tryz.prog 29 #[.agg ca.toArray, .agg cb.toArray] [] [] I Q := by
 intro n
 induction n with
 | zero =>
  intro a b ca cb I Q hn
  have := a.sz_pos
  omega
 | succ n ih =>
  intro a b ca cb I Q hn ha hb h
  obtain ⟨kv, dv, rfl, hk, hd, hkr, hnr, hor, htr⟩ := ha.inv
  obtain ⟨kv', dv', rfl, hk', hd', hkr', hnr', hor', htr'⟩ := hb.inv
  have hkl := hk.1
  obtain ⟨base, cap, rfl⟩ := hk.form
  obtain ⟨base', cap', rfl⟩ := hk'.form
  obtain ⟨dbase, dcap, rfl⟩ := hd.form
  obtain ⟨dbase', dcap', rfl⟩ := hd'.form
  have no : ¬ Same a b → Q (.bool false) [] [] I := fun hne => h false (by simp [hne])
  refine lw K29 [] [.agg #[.int .i64 a.kind, .int .u64 (a.num : Nat), strV a.text, .slice base a.kids.length cap, .int .i64 a.of, .slice dbase a.desc.length dcap], .agg #[.int .i64 b.kind, .int .u64 (b.num : Nat), strV b.text, .slice base' b.kids.length cap', .int .i64 b.of, .slice dbase' b.desc.length dcap']] Tryz.func29 ?_
  refine G ?_
  intro b1
  refine G ?_
  intro b2
  refine G ?_
  split
  case h_2 =>
   rename_i h1 _
   refine G ?_
   refine L0 ?_
   exact no fun hs => h1 hs.inv.1
  rename_i e1 _
  refine G ?_
  split
  case h_2 =>
   rename_i h1 _
   refine G ?_
   refine L0 ?_
   exact no fun hs => h1 (by rw [hs.inv.2.1])
  rename_i e2 _
  refine G ?_
  split
  case h_2 =>
   rename_i h1 _
   refine G ?_
   refine L0 ?_
   exact no fun hs => h1 (by rw [hs.inv.2.2.1])
  rename_i e3 _
  refine G ?_
  split
  case h_2 =>
   rename_i h1 _
   refine G ?_
   refine L0 ?_
   exact no fun hs => h1 (by rw [hs.inv.2.2.2.1])
  rename_i e4 _
  refine G ?_
  split
  case h_2 =>
   rename_i h1 _
   refine G ?_
   refine L0 ?_
   exact no fun hs => h1 (by rw [hs.inv.2.2.2.2.2.1])
  rename_i e5 _
  refine G ?_
  have e4' : a.kids.length = b.kids.length := by omega
  have e5' : a.desc.length = b.desc.length := by omega
  refine ⟨⟨[46], [], [], fun m vs cs R I' => ∃ i : Nat, vs = [.int .i64 (i : Nat)] ∧ cs = [] ∧ R = [] ∧ I' = I ∧ i ≤ a.kids.length ∧ m = a.kids.length - i ∧ (∀ (j : Nat) (x y : V), j < i → a.kids[j]? = some x → b.kids[j]? = some y → Same x y), a.kids.length, _, _, rfl, rfl, ⟨0, rfl, rfl, rfl, rfl, by omega, rfl, fun j x y hj => by omega⟩, ?_⟩⟩
  rintro m vs cs R I' hI _ _ ⟨i, rfl, rfl, rfl, rfl, hi, rfl, hsame⟩
  clear hI
  refine G ?_
  split
  ·rename_i hlt _
   have hi' : i < a.kids.length := by omega
   have hi2 : i < b.kids.length := by omega
   obtain ⟨kb, ko, rfl, _⟩ := hk.some (by omega)
   obtain ⟨kb', ko', rfl, _⟩ := hk'.some (by omega)
   obtain ⟨cx, hcx, hcc⟩ := hk.get (i := i) (x := a.kids[i]) (by simp [hi'])
   obtain ⟨cy, hcy, hcd⟩ := hk'.get (i := i) (x := b.kids[i]) (by simp [hi2])
   refine G ?_
   refine ⟨[0,1,2,3,4,5,6,7,8,9,10,11], [], [], [], by kernel_rfl, ?_⟩
   refine G ?_
   refine ⟨_, _, _, _, i, rfl, rfl, hi', ?_⟩
   refine G ?_
   refine ⟨cx, hcc, hcx.len, ?_⟩
   refine G ?_
   refine ⟨_, _, _, _, i, rfl, rfl, hi2, ?_⟩
   refine G ?_
   refine ⟨cy, hcd, hcy.len, ?_⟩
   refine G ?_
   refine .inr ?_
   refine G ?_
   refine ih a.kids[i] b.kids[i] (by have := V.sz_kid (a := a) (x := a.kids[i]) (by simp); omega) hcx hcy fun t ht => ?_
   cases t with
   | false =>
    refine G ?_
    refine L0 ?_
    refine no fun hs => ?_
    have := hs.inv.2.2.2.2.1 i a.kids[i] b.kids[i] (by simp [hi']) (by simp [hi2])
    simp [this] at ht
   | true =>
    refine G ?_
    refine ⟨_, _, _, ?_, rfl, rfl, rfl, rfl, .inl ⟨i + 1, rfl, rfl, rfl, rfl, hi', rfl, fun j x y hj hx hy => ?_⟩⟩
    ·omega
    ·by_cases hji : j < i
     ·exact hsame j x y hji hx hy
     ·obtain rfl : j = i := by omega
      simp [hi'] at hx
      simp [hi2] at hy
      subst hx hy
      exact ht.1 rfl
  ·rename_i hge _
   have hall : ∀ (j : Nat) (x y : V), a.kids[j]? = some x → b.kids[j]? = some y → Same x y := fun j x y hx hy => hsame j x y (by have := (List.getElem?_eq_some_iff.1 hx).1; omega) hx hy
   have fin : (∀ (x y : V), a.desc[0]? = some x → b.desc[0]? = some y → Same x y) → Same a b := fun hdd => by
    obtain ⟨k, n, t, ks, o, ds⟩ := a
    obtain ⟨k', n', t', ks', o', ds'⟩ := b
    have h1 : k = k' := e1
    have h2 : n = n' := by exact_mod_cast e2
    have h3 : t = t' := e3
    subst h1 h2 h3
    exact .mk e4' hall e5' hdd
   refine G ?_
   refine ⟨[0,1,2,3,4,5,6,7,8,9,10,11,12,13,14,15], [], [], [], by kernel_rfl, ?_⟩
   refine G ?_
   split
   ·rename_i hz _
    refine G ?_
    refine L0 ?_
    have hs : Same a b := fin fun x y hx hy => by
     have := (List.getElem?_eq_some_iff.1 hx).1
     omega
    exact h true (by simp [hs])
   ·rename_i hz _
    have h0 : 0 < a.desc.length := by omega
    have h02 : 0 < b.desc.length := by omega
    obtain ⟨kb, ko, rfl, _⟩ := hd.some (by omega)
    obtain ⟨kb', ko', rfl, _⟩ := hd'.some (by omega)
    obtain ⟨cx, hcx, hcc⟩ := hd.get (i := 0) (x := a.desc[0]) (by simp [h0])
    obtain ⟨cy, hcy, hcd⟩ := hd'.get (i := 0) (x := b.desc[0]) (by simp [h02])
    refine G ?_
    refine ⟨_, _, _, _, 0, rfl, rfl, h0, ?_⟩
    refine G ?_
    refine ⟨cx, hcc, hcx.len, ?_⟩
    refine G ?_
    refine ⟨_, _, _, _, 0, rfl, rfl, h02, ?_⟩
    refine G ?_
    refine ⟨cy, hcd, hcy.len, ?_⟩
    refine G ?_
    refine .inr ?_
    refine G ?_
    refine ih a.desc[0] b.desc[0] (by have := V.sz_desc (a := a) (x := a.desc[0]) (by simp); omega) hcx hcy fun t ht => ?_
    refine G ?_
    refine L0 ?_
    refine h t ?_
    rw [ht]
    constructor
    ·intro hs
     refine fin fun x y hx hy => ?_
     simp [h0] at hx
     simp [h02] at hy
     subst hx hy
     exact hs
    ·intro hs
     exact hs.inv.2.2.2.2.2.2 _ _ (by simp [h0]) (by simp [h02])
def Row {α : Type} (sz : Nat) (Rp : α → List Value → Prop) (I : Imm) (l : List α) (v : Value) : Prop :=
 l.length < 1099511627776 ∧ ∃ cs : List (List Value), SlAt I sz l.length cs.flatten v ∧ cs.length = l.length ∧ ∀ (i : Nat) (x : α) (c : List Value), l[i]? = some x → cs[i]? = some c → Rp x c ∧ c.length = sz
section row
variable {α : Type} {sz : Nat} {Rp : α → List Value → Prop} {I : Imm} {l : List α}
theorem Row.mono {J : Imm} {Rp' : α → List Value → Prop} (hi : I.le J) (hr : ∀ x c, Rp x c → Rp' x c) {v : Value} (h : Row sz Rp I l v) : Row sz Rp' J l v := by
 obtain ⟨hl, cs, h1, h2, h3⟩ := h
 exact ⟨hl, cs, SlAt.mono hi h1, h2, fun i x c hx hc => ⟨hr _ _ (h3 i x c hx hc).1, (h3 i x c hx hc).2⟩⟩
theorem Row.form {v : Value} (h : Row sz Rp I l v) : ∃ base cap, v = .slice base l.length cap := by
 obtain ⟨_, cs, h1, _, _⟩ := h; exact slAt_form h1
theorem Row.nil : Row sz Rp I ([] : List α) (.slice none 0 0) := ⟨by simp, [], slAt_nil I sz, rfl, by simp⟩
theorem Row.get {b off m cap i : Nat} {x : α} (h : Row sz Rp I l (.slice (some ⟨b, off, none⟩) m cap)) (hx : l[i]? = some x) : ∃ c, Rp x c ∧ c.length = sz ∧ CellsAt I b (off + i * sz) c := by
 obtain ⟨_, cs, h1, h2, h3⟩ := h
 have hi : i < cs.length := by rw [h2]; exact (List.getElem?_eq_some_iff.1 hx).1
 refine ⟨cs[i], (h3 i x _ hx (by simp [hi])).1, (h3 i x _ hx (by simp [hi])).2, fun j y hy => ?_⟩
 have hl : ∀ c ∈ cs, c.length = sz := fun c hc => by
  obtain ⟨k, hk⟩ := List.mem_iff_getElem?.1 hc
  have hkl : k < l.length := by rw [← h2]; exact (List.getElem?_eq_some_iff.1 hk).1
  exact (h3 k l[k] c (by simp [hkl]) hk).2
 have := h1.2.2.2 _ _ (flatten_get hl (show cs[i]? = some cs[i] by simp [hi]) j y hy)
 rw [Nat.add_assoc]
 exact this
theorem Row.some {base : Option Addr} {m cap : Nat} (h : Row sz Rp I l (.slice base m cap)) (hn : 0 < l.length) : ∃ b off, base = some ⟨b, off, none⟩ ∧ m = l.length := by
 obtain ⟨_, cs, h1, _, _⟩ := h
 obtain ⟨b, off, e, e2, _⟩ := slAt_some h1 hn
 exact ⟨b, off, e, e2⟩
end row
theorem VsRep.row {I : Imm} {l : List V} {v : Value} (h : VsRep I l v) : Row 6 (VRep I) I l v := by
 obtain ⟨hl, cs, h1, h2, h3⟩ := h
 exact ⟨hl, cs, h1, h2, fun i x c hx hc => ⟨h3 i x c hx hc, (h3 i x c hx hc).len⟩⟩
theorem Row.vs {I : Imm} {l : List V} {v : Value} (h : Row 6 (VRep I) I l v) : VsRep I l v := by
 obtain ⟨hl, cs, h1, h2, h3⟩ := h
 exact ⟨hl, cs, h1, h2, fun i x c hx hc => (h3 i x c hx hc).1⟩
def vNull : V := .mk 0 0 [] [] 0 []
def vNum (k : Int) (n : Nat) : V := .mk k n [] [] 0 []
def numC (k : Int) (n : Nat) : List Value := [.int .i64 k, .int .u64 (n : Nat), strV [], .slice none 0 0, .int .i64 0, .slice none 0 0]
theorem vNum_rep {I : Imm} {k : Int} {n : Nat} (hk : -9223372036854775808 ≤ k ∧ k < 9223372036854775808) (hn : n < 18446744073709551616) : VRep I (vNum k n) (numC k n) :=
 .intro hk hn (by omega) (by decide) (.nil I) (.nil I)
theorem vNull_rep {I : Imm} : VRep I vNull (numC 0 0) := vNum_rep (by omega) (by omega)
section laws
variable {I : Imm} {Q : Qt}
theorem ofNumber_law {k : Int} {n : Nat} (h : Q (.agg (numC k n).toArray) [] [] I) : WP Tryz.prog 52 #[.int .i64 k, .int .u64 (n : Nat)] [] [] I Q := by
 refine lw K52 [] _ Tryz.func52 ?_
 refine G ?_
 intro b
 refine G ?_
 refine L0 ?_
 exact h
theorem plainField_law {k : Int} {n : Nat} (h : Q (.agg (numC k n ++ numC k 0).toArray) [] [] I) : WP Tryz.prog 43 #[.int .i64 k, .int .u64 (n : Nat)] [] [] I Q := by
 refine lw K43 [] _ Tryz.func43 ?_
 refine G ?_
 intro b
 refine G ?_
 refine Cx [] ?_
 refine ofNumber_law ?_
 refine G ?_
 refine Cx [] ?_
 refine ofNumber_law (n := 0) ?_
 refine G ?_
 refine L0 ?_
 exact h
theorem defaultField_law {k : Int} {n m : Nat} (h : Q (.agg (numC k n ++ numC k m).toArray) [] [] I) : WP Tryz.prog 42 #[.int .i64 k, .int .u64 (n : Nat), .int .u64 (m : Nat)] [] [] I Q := by
 refine lw K42 [] _ Tryz.func42 ?_
 refine G ?_
 intro b
 refine G ?_
 refine Cx [] ?_
 refine ofNumber_law ?_
 refine G ?_
 refine Cx [] ?_
 refine ofNumber_law ?_
 refine G ?_
 refine L0 ?_
 exact h
theorem truth_law {t : Bool} (h : Q (.int .u64 (bif t then 1 else 0)) [] [] I) : WP Tryz.prog 53 #[.bool t] [] [] I Q := by
 refine lw K53 [] _ Tryz.func53 ?_
 cases t
 ·refine G ?_
  refine L0 ?_
  exact h
 ·refine G ?_
  refine L0 ?_
  exact h
end laws
def FRep (I : Imm) (f : V × V) (cs : List Value) : Prop := ∃ c d, VRep I f.1 c ∧ VRep I f.2 d ∧ cs = c ++ d
theorem FRep.mono {I J : Imm} (hi : I.le J) {f : V × V} {cs : List Value} (h : FRep I f cs) : FRep J f cs := by
 obtain ⟨c, d, h1, h2, h3⟩ := h
 exact ⟨c, d, h1.mono hi, h2.mono hi, h3⟩
theorem FRep.len {I : Imm} {f : V × V} {cs : List Value} (h : FRep I f cs) : cs.length = 12 := by
 obtain ⟨c, d, h1, h2, rfl⟩ := h
 simp [h1.len, h2.len]
def textC (k : Int) (t : List UInt8) : List Value := [.int .i64 k, .int .u64 0, strV t, .slice none 0 0, .int .i64 0, .slice none 0 0]
theorem vText_rep {I : Imm} {k : Int} {t : List UInt8} (hk : -9223372036854775808 ≤ k ∧ k < 9223372036854775808) (ht : t.length < 1099511627776) : VRep I (.mk k 0 t [] 0 []) (textC k t) :=
 .intro hk (by decide) (by omega) ht (.nil I) (.nil I)
def textFieldV (k : Int) (t : List UInt8) : V × V := if t = [] then (vNull, vNull) else (.mk k 0 t [] 0 [], vNull)
def mapFieldV (l : List V) : V × V := if l = [] then (vNull, vNull) else (.mk 22 0 [] l 0 [], vNull)
def maybeV (k : Int) (l : List Nat) : V × V := match l with | [] => (vNull, vNull) | n :: _ => (vNum k n, vNull)
section laws
variable {I : Imm} {Q : Qt}
theorem textField_law {k : Int} {t : List UInt8} (hk : -9223372036854775808 ≤ k ∧ k < 9223372036854775808) (ht : t.length < 1099511627776) (h : ∀ cs, FRep I (textFieldV k t) cs → Q (.agg cs.toArray) [] [] I) : WP Tryz.prog 41 #[.int .i64 k, strV t] [] [] I Q := by
 refine lw K41 [] _ Tryz.func41 ?_
 refine G ?_
 intro b
 refine G ?_
 split
 ·rename_i e _
  refine G ?_
  refine L0 ?_
  refine h (numC 0 0 ++ numC 0 0) ?_
  have e' : t = [] := e
  rw [textFieldV, if_pos e']
  exact ⟨_, _, vNull_rep, vNull_rep, rfl⟩
 ·rename_i e _
  refine G ?_
  refine L0 ?_
  refine h (textC k t ++ numC 0 0) ?_
  rw [textFieldV, if_neg (show ¬ t = [] from e)]
  exact ⟨_, _, vText_rep hk ht, vNull_rep, rfl⟩
theorem mapField_law {l : List V} {v : Value} (hv : VsRep I l v) (h : ∀ cs, FRep I (mapFieldV l) cs → Q (.agg cs.toArray) [] [] I) : WP Tryz.prog 45 #[v] [] [] I Q := by
 obtain ⟨base, cap, rfl⟩ := hv.form
 refine lw K45 [] [.slice base l.length cap] Tryz.func45 ?_
 refine G ?_
 intro b
 refine G ?_
 split
 ·rename_i e _
  refine G ?_
  refine L0 ?_
  refine h (numC 0 0 ++ numC 0 0) ?_
  have e' : l = [] := List.eq_nil_of_length_eq_zero (by omega)
  rw [mapFieldV, if_pos e']
  exact ⟨_, _, vNull_rep, vNull_rep, rfl⟩
 ·rename_i e _
  refine G ?_
  refine L0 ?_
  have e' : ¬ l = [] := fun h => e (by simp [h])
  refine h ([.int .i64 22, .int .u64 0, strV [], .slice base l.length cap, .int .i64 0, .slice none 0 0] ++ numC 0 0) ?_
  rw [mapFieldV, if_neg e']
  exact ⟨_, _, .intro (by omega) (by decide) (by omega) (by decide) hv (.nil I), vNull_rep, rfl⟩
theorem flag_law {t : Bool} (h : ∀ cs, FRep I (vNum 1 (bif t then 1 else 0), vNum 1 0) cs → Q (.agg cs.toArray) [] [] I) : WP Tryz.prog 55 #[.bool t] [] [] I Q := by
 refine lw K55 [] _ Tryz.func55 ?_
 refine G ?_
 intro b
 refine G ?_
 refine Cx [] ?_
 refine truth_law ?_
 cases t
 ·refine G ?_
  refine Cx [] ?_
  refine plainField_law (n := 0) ?_
  refine G ?_
  refine L0 ?_
  exact h _ ⟨_, _, vNum_rep (by omega) (by decide), vNum_rep (by omega) (by decide), rfl⟩
 ·refine G ?_
  refine Cx [] ?_
  refine plainField_law (n := 1) ?_
  refine G ?_
  refine L0 ?_
  exact h _ ⟨_, _, vNum_rep (by omega) (by decide), vNum_rep (by omega) (by decide), rfl⟩
end laws
structure C where
 code : Nat
 fields : List (V × V)
def FsRep (I : Imm) (l : List (V × V)) (v : Value) : Prop := Row 12 (FRep I) I l v
theorem FsRep.mono {I J : Imm} (hi : I.le J) {l : List (V × V)} {v : Value} (h : FsRep I l v) : FsRep J l v := Row.mono hi (fun _ _ h => h.mono hi) h
def CRep (I : Imm) (c : C) (cs : List Value) : Prop := c.code < 18446744073709551616 ∧ ∃ fv, cs = [.int .u64 (c.code : Nat), fv] ∧ FsRep I c.fields fv
theorem row_lit {α : Type} {sz n : Nat} {Rp : α → List Value → Prop} {I : Imm} {l : List α} {b : Nat} {css : List (List Value)} (h : CellsAt I b 0 css.flatten) (hn : n = l.length) (hl : l.length < 1099511627776) (h2 : css.length = l.length)
  (h3 : ∀ (i : Nat) (x : α) (c : List Value), l[i]? = some x → css[i]? = some c → Rp x c ∧ c.length = sz) : Row sz Rp I l (.slice (some ⟨b, 0, none⟩) n n) := by
 subst hn
 refine ⟨hl, css, ⟨rfl, Nat.le_refl _, ?_, h⟩, h2, h3⟩
 have : ∀ (l : List α) (css : List (List Value)), css.length = l.length → (∀ (i : Nat) (x : α) (c : List Value), l[i]? = some x → css[i]? = some c → Rp x c ∧ c.length = sz) → css.flatten.length = l.length * sz := by
  intro l
  induction l with
  | nil => intro css h1 _; rw [List.eq_nil_of_length_eq_zero h1]; simp
  | cons x l ih =>
   intro css h1 h4
   cases css with
   | nil => simp at h1
   | cons c css =>
    have hc := (h4 0 x c rfl rfl).2
    have := ih css (by simpa using h1) fun i y d hy hd => h4 (i + 1) y d (by simpa using hy) (by simpa using hd)
    rw [List.flatten_cons, List.length_append, this, hc, List.length_cons, Nat.add_mul]
    omega
 exact this l css h2 h3
theorem rows1 {α : Type} {sz : Nat} {Rp : α → List Value → Prop} {x : α} {c : List Value} (h : Rp x c ∧ c.length = sz) : ∀ (i : Nat) (y : α) (d : List Value), [x][i]? = some y → [c][i]? = some d → Rp y d ∧ d.length = sz := by
 intro i y d hy hd
 cases i with
 | zero => simp at hy hd; subst hy hd; exact h
 | succ i => simp at hy
theorem rowsC {α : Type} {sz : Nat} {Rp : α → List Value → Prop} {x : α} {c : List Value} {l : List α} {cs : List (List Value)} (h : Rp x c ∧ c.length = sz) (ht : ∀ (i : Nat) (y : α) (d : List Value), l[i]? = some y → cs[i]? = some d → Rp y d ∧ d.length = sz) :
  ∀ (i : Nat) (y : α) (d : List Value), (x :: l)[i]? = some y → (c :: cs)[i]? = some d → Rp y d ∧ d.length = sz := by
 intro i y d hy hd
 cases i with
 | zero => simp at hy hd; subst hy hd; exact h
 | succ i => exact ht i y d (by simpa using hy) (by simpa using hd)
theorem rows0 {α : Type} {sz : Nat} {Rp : α → List Value → Prop} : ∀ (i : Nat) (y : α) (d : List Value), ([] : List α)[i]? = some y → ([] : List (List Value))[i]? = some d → Rp y d ∧ d.length = sz := by
 intro i y d hy; simp at hy
theorem FRep.inv {I : Imm} {f : V × V} {cs : List Value} (h : FRep I f cs) : ∃ a1 a2 a3 a4 a5 a6 b1 b2 b3 b4 b5 b6, cs = [a1, a2, a3, a4, a5, a6, b1, b2, b3, b4, b5, b6] ∧ ∀ J, I.le J → FRep J f [a1, a2, a3, a4, a5, a6, b1, b2, b3, b4, b5, b6] := by
 have h' := h
 obtain ⟨c, d, h1, h2, rfl⟩ := h
 obtain ⟨_, _, rfl, _⟩ := h1.inv
 obtain ⟨_, _, rfl, _⟩ := h2.inv
 exact ⟨_, _, _, _, _, _, _, _, _, _, _, _, rfl, fun J hi => h'.mono hi⟩
structure Fault where
 cond : List UInt8
 descr : List UInt8
 info : List V
def FaultRep (I : Imm) (f : Fault) (cs : List Value) : Prop := ∃ iv, cs = [strV f.cond, strV f.descr, iv] ∧ VsRep I f.info iv ∧ f.cond.length < 1099511627776 ∧ f.descr.length < 1099511627776
def faultOf (f : Fault) : C := ⟨0x1d, [(.mk 20 0 f.cond [] 0 [], vNull), textFieldV 19 f.descr, mapFieldV f.info]⟩
section laws
variable {I : Imm} {Q : Qt}
theorem FaultOf_law {f : Fault} {cs : List Value} (hf : FaultRep I f cs) (h : ∀ I' cs', I.le I' → CRep I' (faultOf f) cs' → Q (.agg cs'.toArray) [] [] I') : WP Tryz.prog 62 #[.agg cs.toArray] [] [] I Q := by
 obtain ⟨iv, rfl, hiv, h1, h2⟩ := hf
 obtain ⟨base, cap, rfl⟩ := hiv.form
 refine lw K62 [] [.agg #[strV f.cond, strV f.descr, .slice base f.info.length cap]] Tryz.func62 ?_
 refine G ?_
 intro b1
 refine G ?_
 intro b2
 refine G ?_
 refine ⟨[0,1,2,3,4,5,7,8,6,9,10,11,12], [], [], [], by kernel_rfl, ?_⟩
 refine G ?_
 refine .inr ?_
 refine G ?_
 refine textField_law (by omega) h2 fun c1 hc1 => ?_
 obtain ⟨a1, a2, a3, a4, a5, a6, a7, a8, a9, a10, a11, a12, rfl, hm1⟩ := hc1.inv
 refine G ?_
 refine .inr ?_
 refine G ?_
 refine mapField_law hiv fun c2 hc2 => ?_
 obtain ⟨d1, d2, d3, d4, d5, d6, d7, d8, d9, d10, d11, d12, rfl, hm2⟩ := hc2.inv
 refine G ?_
 refine .inl fun b I' hi hc => ?_
 refine G ?_
 refine L0 ?_
 refine h I' _ hi ⟨(show (29 : Nat) < 18446744073709551616 by decide), _, rfl, row_lit (css := [textC 20 f.cond ++ numC 0 0, _, _]) hc rfl (show 3 < 1099511627776 by decide) rfl (rowsC ⟨⟨_, _, vText_rep (by omega) h1, vNull_rep, rfl⟩, rfl⟩ (rowsC ⟨hm1 _ hi, rfl⟩ (rowsC ⟨hm2 _ hi, rfl⟩ rows0)))⟩
end laws
def whole (c : C) : V := .mk 21 0 [] (c.fields.map Prod.fst) 0 [vNum 5 c.code]
theorem VRep.one {I : Imm} {x : V} {c : List Value} (h : VRep I x c) : oneAll c = true := by
 obtain ⟨_, _, rfl, h1, h2, _⟩ := h.inv
 obtain ⟨_, _, rfl⟩ := h1.form
 obtain ⟨_, _, rfl⟩ := h2.form
 rfl
section laws
variable {I : Imm} {Q : Qt}
theorem Whole_law {c : C} {cs : List Value} (hc : CRep I c cs) (h : ∀ I' cs', I.le I' → VRep I' (whole c) cs' → Q (.agg cs'.toArray) [] [] I') : WP Tryz.prog 28 #[.agg cs.toArray] [] [] I Q := by
 obtain ⟨hcode, fv, rfl, hf⟩ := hc
 obtain ⟨base, cap, rfl⟩ := hf.form
 have hlen := hf.1
 refine lw K28 [] [.agg #[.int .u64 (c.code : Nat), .slice base c.fields.length cap]] Tryz.func28 ?_
 refine G ?_
 intro b1
 refine G ?_
 intro b2
 refine G ?_
 refine Cx [] ?_
 refine ofNumber_law ?_
 refine G ?_
 refine .inl fun bd I1 hi1 hcd => ?_
 refine G ?_
 intro b3
 refine G ?_
 refine ⟨⟨[14], [3], [(900, 6)], fun m vs cs R I' => ∃ (i : Nat) (kb : Option Addr) (kc : Nat) (cells : List (List Value)), vs = [.int .i64 (i : Nat)] ∧ i ≤ c.fields.length ∧ m = c.fields.length - i ∧
   cs = [[.int .i64 21, .int .u64 0, strV [], .slice kb i kc, .int .i64 0, .slice (some ⟨bd, 0, none⟩) 1 1]] ∧ R = [(900, .vec (.slice kb i kc) 6 cells.flatten)] ∧ cells.length = i ∧
   (∀ (j : Nat) (x : V) (d : List Value), (c.fields.map Prod.fst)[j]? = some x → cells[j]? = some d → VRep I' x d),
  c.fields.length, _, _, rfl, rfl, ⟨0, none, 0, [], rfl, by omega, rfl, rfl, rfl, rfl, by simp⟩, ?_⟩⟩
 rintro m vs cs R I' hI _ _ ⟨i, kb, kc, cells, rfl, hi, rfl, rfl, rfl, hcl, hrep⟩
 replace hI : I1.le I' := hI
 have hf' := hf.mono (hi1.trans hI)
 refine G ?_
 split
 ·rename_i hlt _
  have hi' : i < c.fields.length := by omega
  obtain ⟨fb, fo, rfl, _⟩ := Row.some hf' (by omega)
  obtain ⟨cx, hcx, _, hcc⟩ := Row.get hf' (i := i) (x := c.fields[i]) (by simp [hi'])
  obtain ⟨c1, c2, hv1, hv2, rfl⟩ := hcx
  have hone := hv1.one
  have hl1 := hv1.len
  have hl2 := hv2.len
  obtain ⟨xb, xc, xd, xe, rfl, _⟩ := hv1.inv2
  obtain ⟨yb, yc, yd, ye, rfl, _⟩ := hv2.inv2
  refine G ?_
  refine ⟨_, _, _, _, i, rfl, rfl, hi', ?_⟩
  refine G ?_
  refine ⟨_, .imm hcc, rfl, ?_⟩
  refine G ?_
  intro b5
  refine G ?_
  refine .inl fun be I2 hi2 hce => ?_
  refine G ?_
  refine .own 900 i 1 cells.flatten (cellsOf c.fields[i].1 xb xc xd xe) rfl rfl ⟨rfl, by omega, rfl, hce⟩ rfl (by rw [show ti79.bytes = 88 by kernel_rfl]; omega) fun nb nc => ?_
  refine G ?_
  refine ⟨_, _, _, ?_, rfl, rfl, rfl, rfl, .inl ⟨i + 1, nb, nc, cells ++ [cellsOf c.fields[i].1 xb xc xd xe], ?_, hi', rfl, rfl, ?_, by simp [hcl], fun j x d hx hd => ?_⟩⟩
  ·omega
  ·rfl
  ·rw [List.flatten_append, List.flatten_cons, List.flatten_nil, List.append_nil]; rfl
  ·by_cases hji : j < i
   ·rw [List.getElem?_append_left (by omega)] at hd
    exact (hrep j x d hx hd).mono hi2
   ·obtain rfl : j = i := by
     have := (List.getElem?_eq_some_iff.1 hd).1
     simp at this
     omega
    rw [List.getElem?_append_right (by omega), hcl] at hd
    simp at hd
    simp [hi'] at hx
    subst hd hx
    exact hv1.mono hi2
 ·rename_i hge _
  refine G ?_
  obtain rfl : i = c.fields.length := by omega
  refine ⟨⟨[], [], [], [900], ?_⟩⟩
  intro I2 hi2 ⟨n, hn, hsl⟩
  have hn' : c.fields.length = n := hn
  subst hn'
  conv => whnf
  refine h I2 _ ((hi1.trans hI).trans hi2) (.intro (n := 0) (t := []) (by omega) (by decide) (by omega) (by decide) ?_ ?_)
  ·exact ⟨by simpa using hlen, cells, by simpa using hsl, by simpa using hcl, fun j x d hx hd => (hrep j x d hx hd).mono hi2⟩
  ·refine Row.vs (row_lit (l := [vNum 5 c.code]) (css := [numC 5 c.code]) (fun j x e => (hI.trans hi2).c (hcd j x e)) rfl (by simp) rfl (rowsC ⟨vNum_rep (by omega) hcode, rfl⟩ rows0))
end laws
theorem FaultRep.len {I : Imm} {f : Fault} {cs : List Value} (h : FaultRep I f cs) : cs.length = 3 := by obtain ⟨_, rfl, _⟩ := h; rfl
theorem FaultRep.mono {I J : Imm} (hi : I.le J) {f : Fault} {cs : List Value} (h : FaultRep I f cs) : FaultRep J f cs := by
 obtain ⟨iv, rfl, h1, h2⟩ := h; exact ⟨iv, rfl, h1.mono hi, h2⟩
theorem CRep.mono {I J : Imm} (hi : I.le J) {c : C} {cs : List Value} (h : CRep I c cs) : CRep J c cs := by
 obtain ⟨h0, iv, rfl, h1⟩ := h; exact ⟨h0, iv, rfl, h1.mono hi⟩
def faultsV (l : List Fault) : V × V := match l with | [] => (vNull, vNull) | f :: _ => (whole (faultOf f), vNull)
def closeOf (l : List Fault) : C := ⟨0x18, [faultsV l]⟩
section laws
variable {I : Imm} {Q : Qt}
theorem inner_law {c : C} {b : Nat} {cs : List Value} (hc : CellsAt I b 0 cs) (hr : CRep I c cs) (h : ∀ I' cs', I.le I' → FRep I' (whole c, vNull) cs' → Q (.agg cs'.toArray) [] [] I') : WP Tryz.prog 61 #[.slice (some ⟨b, 0, none⟩) 1 1] [] [] I Q := by
 have hr' := hr
 obtain ⟨h0, fv, rfl, hf⟩ := hr
 refine lw K61 [] _ Tryz.func61 ?_
 refine G ?_
 intro b1
 refine G ?_
 refine ⟨_, _, _, _, 0, rfl, rfl, by omega, ?_⟩
 refine G ?_
 refine ⟨_, .imm hc, rfl, ?_⟩
 refine G ?_
 refine Cx [] ?_
 refine Whole_law hr' fun I' cs' hi hw => ?_
 obtain ⟨xb, xc, xd, xe, rfl, _⟩ := hw.inv2
 refine G ?_
 refine L0 ?_
 exact h I' _ hi ⟨_, _, hw, vNull_rep, rfl⟩
theorem faults_law {l : List Fault} {v : Value} (hl : Row 3 (FaultRep I) I l v) (h : ∀ I' cs', I.le I' → FRep I' (faultsV l) cs' → Q (.agg cs'.toArray) [] [] I') : WP Tryz.prog 27 #[v] [] [] I Q := by
 obtain ⟨base, cap, rfl⟩ := hl.form
 refine lw K27 [] [.slice base l.length cap] Tryz.func27 ?_
 refine G ?_
 intro b1
 refine G ?_
 split
 ·rename_i e _
  obtain rfl : l = [] := List.eq_nil_of_length_eq_zero (by omega)
  refine G ?_
  refine L0 ?_
  exact h I _ (.refl I) ⟨_, _, vNull_rep, vNull_rep, rfl⟩
 ·rename_i e _
  cases l with
  | nil => simp at e
  | cons f l =>
   obtain ⟨vb, vo, rfl, _⟩ := hl.some (by simp)
   obtain ⟨c, hc, hcl, hcc⟩ := hl.get (i := 0) (x := f) rfl
   have hc' := hc
   obtain ⟨iv, rfl, hiv, _⟩ := hc
   refine G ?_
   refine ⟨_, _, _, _, 0, rfl, rfl, by simp, ?_⟩
   refine G ?_
   refine ⟨_, .imm hcc, rfl, ?_⟩
   refine G ?_
   refine Cx [] ?_
   refine FaultOf_law hc' fun I1 cs1 hi1 hr1 => ?_
   have hr1' := hr1
   obtain ⟨h0, fv, rfl, hf⟩ := hr1
   refine G ?_
   refine .inl fun b2 I2 hi2 hc2 => ?_
   refine G ?_
   refine Cx [] ?_
   refine inner_law hc2 (hr1'.mono hi2) fun I3 cs3 hi3 hr3 => ?_
   have hr3' := hr3
   obtain ⟨c3, d3, g1, g2, rfl⟩ := hr3
   obtain ⟨xb, xc, xd, xe, rfl, _⟩ := g1.inv2
   obtain ⟨yb, yc, yd, ye, rfl, _⟩ := g2.inv2
   refine G ?_
   refine L0 ?_
   exact h I3 _ ((hi1.trans hi2).trans hi3) hr3'
theorem CloseOf_law {l : List Fault} {v : Value} (hl : Row 3 (FaultRep I) I l v) (h : ∀ I' cs', I.le I' → CRep I' (closeOf l) cs' → Q (.agg cs'.toArray) [] [] I') : WP Tryz.prog 7 #[v] [] [] I Q := by
 obtain ⟨base, cap, rfl⟩ := hl.form
 refine lw K7 [] [.slice base l.length cap] Tryz.func7 ?_
 refine G ?_
 intro b1
 refine G ?_
 refine Cx [] ?_
 refine faults_law hl fun I1 cs1 hi1 hr1 => ?_
 have hr1' := hr1
 obtain ⟨c3, d3, g1, g2, rfl⟩ := hr1
 obtain ⟨xb, xc, xd, xe, rfl, _⟩ := g1.inv2
 obtain ⟨yb, yc, yd, ye, rfl, _⟩ := g2.inv2
 refine G ?_
 refine .inl fun b2 I2 hi2 hc2 => ?_
 refine G ?_
 refine L0 ?_
 exact h I2 _ (hi1.trans hi2) ⟨(show (24 : Nat) < 18446744073709551616 by decide), _, rfl, row_lit (css := [_]) hc2 rfl (by simp [closeOf]) rfl (rowsC ⟨hr1'.mono hi2, rfl⟩ rows0)⟩
end laws
end Go.Proofs.YtcfglgelckjpmaaGreatDoor
