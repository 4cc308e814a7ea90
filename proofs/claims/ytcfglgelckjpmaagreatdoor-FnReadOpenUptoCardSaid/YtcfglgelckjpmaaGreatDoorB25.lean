/- Own machinery, and laws of the functions that the statement reaches (part 25). -/
import Derived.Test.YtcfglgelckjpmaaGreatDoorB21
import Derived.Test.YtcfglgelckjpmaaGreatDoorB24
import Derived.Lib.ValidLaws
set_option linter.all false
namespace Go.Proofs.YtcfglgelckjpmaaGreatDoor
set_option maxRecDepth 100000
set_option maxHeartbeats 8000000
mutual
def V.cnt : V → Nat
 | .mk _ _ _ ks _ ds => 1 + cntL ks + cntL ds
def cntL : List V → Nat
 | [] => 0
 | v :: l => v.cnt + cntL l
end
theorem cnt_mk (k : Int) (n : Nat) (t : List UInt8) (ks : List V) (o : Int) (ds : List V) : (V.mk k n t ks o ds).cnt = 1 + cntL ks + cntL ds := by simp [V.cnt]
theorem cnt_eq (v : V) : v.cnt = 1 + cntL v.kids + cntL v.desc := by obtain ⟨k, n, t, ks, o, ds⟩ := v; exact cnt_mk ..
theorem cntL_nil : cntL [] = 0 := by simp [cntL]
theorem cntL_cons (v : V) (l : List V) : cntL (v :: l) = v.cnt + cntL l := by simp [cntL]
theorem cntL_append (l m : List V) : cntL (l ++ m) = cntL l + cntL m := by
 induction l with
 | nil => simp [cntL_nil]
 | cons v l ih => simp only [List.cons_append, cntL_cons, ih]; omega
theorem cnt_pos (v : V) : 0 < v.cnt := by rw [cnt_eq]; omega
theorem cntL_mem {v : V} {l : List V} (h : v ∈ l) : v.cnt ≤ cntL l := by
 induction l with
 | nil => cases h
 | cons x l ih =>
  rw [cntL_cons]
  rcases List.mem_cons.1 h with rfl | h
  ·omega
  ·have := ih h; omega
theorem cntL_len (l : List V) : l.length ≤ cntL l := by
 induction l with
 | nil => simp [cntL_nil]
 | cons x l ih => rw [cntL_cons, List.length_cons]; have := cnt_pos x; omega
inductive Scal : Int → Nat → List UInt8 → Prop where
 | null : Scal 0 0 []
 | bool {n : Nat} (h : n < 2) : Scal 1 n []
 | ubyte {n : Nat} (h : n < 256) : Scal 2 n []
 | ushort {n : Nat} (h : n < 65536) : Scal 3 n []
 | uint {n : Nat} (h : n < 4294967296) : Scal 4 n []
 | ulong {n : Nat} (h : n < 18446744073709551616) : Scal 5 n []
 | byte {n : Nat} (h : n < 128 ∨ 18446744073709551488 ≤ n ∧ n < 18446744073709551616) : Scal 6 n []
 | short {n : Nat} (h : n < 32768 ∨ 18446744073709518848 ≤ n ∧ n < 18446744073709551616) : Scal 7 n []
 | int {n : Nat} (h : n < 2147483648 ∨ 18446744071562067968 ≤ n ∧ n < 18446744073709551616) : Scal 8 n []
 | long {n : Nat} (h : n < 18446744073709551616) : Scal 9 n []
 | float {n : Nat} (h : n < 4294967296) : Scal 10 n []
 | double {n : Nat} (h : n < 18446744073709551616) : Scal 11 n []
 | time {n : Nat} (h : n < 18446744073709551616) : Scal 16 n []
 | uuid {t : List UInt8} (h : t.length = 16) : Scal 17 0 t
 | bin {t : List UInt8} (h : t.length ≤ 131072) : Scal 18 0 t
 | str {t : List UInt8} (h : t.length ≤ 131072) (hv : Lib.validD t = true) : Scal 19 0 t
 | sym {t : List UInt8} (h : t.length ≤ 131072) (ha : ∀ b ∈ t, b.toNat < 128) : Scal 20 0 t
def arrK (k : Int) : Prop := 1 ≤ k ∧ k ≤ 11 ∨ 16 ≤ k ∧ k ≤ 20
inductive Pv : V → Prop where
 | sc {k : Int} {n : Nat} {t : List UInt8} {o : Int} (h : Scal k n t) : Pv (.mk k n t [] o [])
 | list {ks : List V} {o : Int} (h : ∀ (i : Nat) (x : V), ks[i]? = some x → Pv x) : Pv (.mk 21 0 [] ks o [])
 | map {ks : List V} {o : Int} (he : ks.length % 2 = 0) (h : ∀ (i : Nat) (x : V), ks[i]? = some x → Pv x) : Pv (.mk 22 0 [] ks o [])
 | arr {ks : List V} {o k : Int} (hk : arrK k) (hn : 0 < ks.length) (h : ∀ (i : Nat) (x : V), ks[i]? = some x → ∃ n t o, x = .mk k n t [] o [] ∧ Scal k n t) : Pv (.mk 23 0 [] ks o [])
 | comp {ks : List V} {o : Int} {c : Nat} (hc : c < 18446744073709551616) (h : ∀ (i : Nat) (x : V), ks[i]? = some x → Pv x) : Pv (.mk 21 0 [] ks o [vNum 5 c])
def sg (n : Nat) : Int := if n < 9223372036854775808 then (n : Int) else (n : Int) - 18446744073709551616
inductive EncS : Int → Nat → List UInt8 → List UInt8 → Prop where
 | null : EncS 0 0 [] [0x40]
 | bool {n : Nat} {e : List UInt8} (h : BoolE (n == 1) e) : EncS 1 n [] e
 | ubyte {n : Nat} {e : List UInt8} (h : UbyteE n e) : EncS 2 n [] e
 | ushort {n : Nat} {e : List UInt8} (h : UshortE n e) : EncS 3 n [] e
 | uint {n : Nat} {e : List UInt8} (h : UintE n e) : EncS 4 n [] e
 | ulong {n : Nat} {e : List UInt8} (h : UlongE n e) : EncS 5 n [] e
 | byte {n : Nat} {e : List UInt8} (h : SbyteE (sg n) e) : EncS 6 n [] e
 | short {n : Nat} {e : List UInt8} (h : ShortE (sg n) e) : EncS 7 n [] e
 | int {n : Nat} {e : List UInt8} (h : IntE (sg n) e) : EncS 8 n [] e
 | long {n : Nat} {e : List UInt8} (h : LongE (sg n) e) : EncS 9 n [] e
 | float {n : Nat} {e : List UInt8} (h : FloatE n e) : EncS 10 n [] e
 | double {n : Nat} {e : List UInt8} (h : DoubleE n e) : EncS 11 n [] e
 | time {n : Nat} {e : List UInt8} (h : TimeE (sg n) e) : EncS 16 n [] e
 | uuid {t e : List UInt8} (h : UuidE t e) : EncS 17 0 t e
 | bin {t e : List UInt8} (h : TextE 0xa0 0xb0 t e) : EncS 18 0 t e
 | str {t e : List UInt8} (h : TextE 0xa1 0xb1 t e) : EncS 19 0 t e
 | sym {t e : List UInt8} (h : TextE 0xa3 0xb3 t e) : EncS 20 0 t e
def ArrE (k : Int) (ks : List V) (c : UInt8) (data : List UInt8) : Prop :=
 ∃ ds : List (List UInt8), ds.length = ks.length ∧ data = ds.flatten ∧ ∀ (i : Nat) (x : V) (d : List UInt8), ks[i]? = some x → ds[i]? = some d → EncS k x.num x.text (c :: d)
inductive Enc : V → List UInt8 → Prop where
 | sc {k : Int} {n : Nat} {t : List UInt8} {o : Int} {e : List UInt8} (h : EncS k n t e) : Enc (.mk k n t [] o []) e
 | list {ks : List V} {o : Int} {es : List (List UInt8)} {hd : List UInt8} (hl : es.length = ks.length) (h : ∀ (i : Nat) (x : V) (e : List UInt8), ks[i]? = some x → es[i]? = some e → Enc x e) (hh : ListH ks.length hd es.flatten) :
   Enc (.mk 21 0 [] ks o []) (hd ++ es.flatten)
 | map {ks : List V} {o : Int} {es : List (List UInt8)} {hd : List UInt8} (hl : es.length = ks.length) (h : ∀ (i : Nat) (x : V) (e : List UInt8), ks[i]? = some x → es[i]? = some e → Enc x e) (hh : HeadE 0xc1 0xd1 ks.length hd es.flatten) :
   Enc (.mk 22 0 [] ks o []) (hd ++ es.flatten)
 | arr {ks : List V} {o k : Int} {c : UInt8} {data hd : List UInt8} (h : ArrE k ks c data) (hk : ∀ (i : Nat) (x : V), ks[i]? = some x → x.kind = k) (hh : HeadE 0xe0 0xf0 ks.length hd (c :: data)) : Enc (.mk 23 0 [] ks o []) (hd ++ c :: data)
 | comp {ks : List V} {o : Int} {c : Nat} {ed : List UInt8} {es : List (List UInt8)} {hd : List UInt8} (hc : UlongE c ed) (hl : es.length = ks.length) (h : ∀ (i : Nat) (x : V) (e : List UInt8), ks[i]? = some x → es[i]? = some e → Enc x e) (hh : ListH ks.length hd es.flatten) :
   Enc (.mk 21 0 [] ks o [vNum 5 c]) (0 :: (ed ++ (hd ++ es.flatten)))
def asKind (k : Int) : Int := if k = 20 then 19 else k
def prs : List V → List (V × V)
 | a :: b :: r => (a, b) :: prs r
 | _ => []
inductive Back : V → V → Prop where
 | sc {k k' : Int} {n : Nat} {t : List UInt8} {o : Int} (hk : asKind k' = asKind k) : Back (.mk k n t [] o []) (.mk k' n t [] 0 [])
 | list {ks ks' : List V} {o : Int} (hl : ks'.length = ks.length) (h : ∀ (i : Nat) (x y : V), ks[i]? = some x → ks'[i]? = some y → Back x y) : Back (.mk 21 0 [] ks o []) (.mk 21 0 [] ks' 0 [])
 | arr {ks ks' : List V} {o k : Int} (hl : ks'.length = ks.length) (h : ∀ (i : Nat) (x y : V), ks[i]? = some x → ks'[i]? = some y → y = .mk x.kind x.num x.text [] 0 []) : Back (.mk 23 0 [] ks o []) (.mk 23 0 [] ks' k [])
 | map {ks ks' : List V} {o : Int} {ps : List (V × V)} (hp : ps.Perm (prs ks)) (hl : ks'.length = 2 * ps.length)
   (h : ∀ (i : Nat) (p : V × V) (a b : V), ps[i]? = some p → ks'[2 * i]? = some a → ks'[2 * i + 1]? = some b → Back p.1 a)
   (h' : ∀ (i : Nat) (p : V × V) (a b : V), ps[i]? = some p → ks'[2 * i]? = some a → ks'[2 * i + 1]? = some b → Back p.2 b) : Back (.mk 22 0 [] ks o []) (.mk 22 0 [] ks' 0 [])
section rd
variable {I : Imm} {b : Nat} {bs : List UInt8} {v : Value} {off : Nat} {Q : Qt}
theorem readAny_bool {n : Bool} {e r : List UInt8} (hv : BufAt I bs v) (he : BoolE n e) (hd : bs.drop off = e ++ r) (h : bs.drop (off + e.length) = r → Q (.tuple #[.iface 4 (.bool n), .nilIface]) [bufC v (off + e.length)] [] I) :
  WP Tryz.prog 136 #[ptr b] [(b, bufC v off)] [] I Q := by
 have he' := he
 refine lw K136 [(0,1000)] _ Tryz.func136 ?_
 cases he
 all_goals
 refine G ?_
 refine Cx [1000] ?_
 refine tryReadNull_law hv (Nat.le_of_lt (drop_le hd)) hd (fun z r' hz => by cases hz; decide) ?_
 refine G ?_
 refine Cx [1000] ?_
 refine peekType_law hv hd ?_
 refine G ?_
 refine Cx [1000] ?_
 refine readBool_law hv he' hd fun hr => ?_
 refine G ?_
 refine L0 ?_
 exact h hr
theorem readAny_ubyte {n : Nat} {e r : List UInt8} (hv : BufAt I bs v) (he : UbyteE n e) (hd : bs.drop off = e ++ r) (h : bs.drop (off + e.length) = r → Q (.tuple #[.iface 5 (.int .u8 (n : Nat)), .nilIface]) [bufC v (off + e.length)] [] I) :
  WP Tryz.prog 136 #[ptr b] [(b, bufC v off)] [] I Q := by
 have he' := he
 refine lw K136 [(0,1000)] _ Tryz.func136 ?_
 cases he
 all_goals
 refine G ?_
 refine Cx [1000] ?_
 refine tryReadNull_law hv (Nat.le_of_lt (drop_le hd)) hd (fun z r' hz => by cases hz; decide) ?_
 refine G ?_
 refine Cx [1000] ?_
 refine peekType_law hv hd ?_
 refine G ?_
 refine Cx [1000] ?_
 refine ReadUbyte_law hv he' hd fun hr => ?_
 refine G ?_
 refine L0 ?_
 exact h hr
theorem readAny_ushort {n : Nat} {e r : List UInt8} (hv : BufAt I bs v) (he : UshortE n e) (hd : bs.drop off = e ++ r) (h : bs.drop (off + e.length) = r → Q (.tuple #[.iface 44 (.int .u16 (n : Nat)), .nilIface]) [bufC v (off + e.length)] [] I) :
  WP Tryz.prog 136 #[ptr b] [(b, bufC v off)] [] I Q := by
 have he' := he
 refine lw K136 [(0,1000)] _ Tryz.func136 ?_
 cases he
 all_goals
 refine G ?_
 refine Cx [1000] ?_
 refine tryReadNull_law hv (Nat.le_of_lt (drop_le hd)) hd (fun z r' hz => by cases hz; decide) ?_
 refine G ?_
 refine Cx [1000] ?_
 refine peekType_law hv hd ?_
 refine G ?_
 refine Cx [1000] ?_
 refine readUshort_law hv he' hd fun hr => ?_
 refine G ?_
 refine L0 ?_
 exact h hr
theorem readAny_uint {n : Nat} {e r : List UInt8} (hv : BufAt I bs v) (he : UintE n e) (hd : bs.drop off = e ++ r) (h : bs.drop (off + e.length) = r → Q (.tuple #[.iface 43 (.int .u32 (n : Nat)), .nilIface]) [bufC v (off + e.length)] [] I) :
  WP Tryz.prog 136 #[ptr b] [(b, bufC v off)] [] I Q := by
 have he' := he
 refine lw K136 [(0,1000)] _ Tryz.func136 ?_
 cases he
 all_goals
 refine G ?_
 refine Cx [1000] ?_
 refine tryReadNull_law hv (Nat.le_of_lt (drop_le hd)) hd (fun z r' hz => by cases hz; decide) ?_
 refine G ?_
 refine Cx [1000] ?_
 refine peekType_law hv hd ?_
 refine G ?_
 refine Cx [1000] ?_
 refine readUint32_law hv he' hd fun hr => ?_
 refine G ?_
 refine L0 ?_
 exact h hr
theorem readAny_ulong {n : Nat} {e r : List UInt8} (hv : BufAt I bs v) (he : UlongE n e) (hd : bs.drop off = e ++ r) (h : bs.drop (off + e.length) = r → Q (.tuple #[.iface 23 (.int .u64 (n : Nat)), .nilIface]) [bufC v (off + e.length)] [] I) :
  WP Tryz.prog 136 #[ptr b] [(b, bufC v off)] [] I Q := by
 have he' := he
 refine lw K136 [(0,1000)] _ Tryz.func136 ?_
 cases he
 all_goals
 refine G ?_
 refine Cx [1000] ?_
 refine tryReadNull_law hv (Nat.le_of_lt (drop_le hd)) hd (fun z r' hz => by cases hz; decide) ?_
 refine G ?_
 refine Cx [1000] ?_
 refine peekType_law hv hd ?_
 refine G ?_
 refine Cx [1000] ?_
 refine readUlong_law hv he' hd fun hr => ?_
 refine G ?_
 refine L0 ?_
 exact h hr
theorem readAny_sbyte {n : Int} {e r : List UInt8} (hv : BufAt I bs v) (he : SbyteE n e) (hd : bs.drop off = e ++ r) (h : bs.drop (off + e.length) = r → Q (.tuple #[.iface 207 (.int .i8 n), .nilIface]) [bufC v (off + e.length)] [] I) :
  WP Tryz.prog 136 #[ptr b] [(b, bufC v off)] [] I Q := by
 have he' := he
 refine lw K136 [(0,1000)] _ Tryz.func136 ?_
 cases he
 all_goals
 refine G ?_
 refine Cx [1000] ?_
 refine tryReadNull_law hv (Nat.le_of_lt (drop_le hd)) hd (fun z r' hz => by cases hz; decide) ?_
 refine G ?_
 refine Cx [1000] ?_
 refine peekType_law hv hd ?_
 refine G ?_
 refine Cx [1000] ?_
 refine readSbyte_law hv he' hd fun hr => ?_
 refine G ?_
 refine L0 ?_
 exact h hr
theorem readAny_short {n : Int} {e r : List UInt8} (hv : BufAt I bs v) (he : ShortE n e) (hd : bs.drop off = e ++ r) (h : bs.drop (off + e.length) = r → Q (.tuple #[.iface 211 (.int .i16 n), .nilIface]) [bufC v (off + e.length)] [] I) :
  WP Tryz.prog 136 #[ptr b] [(b, bufC v off)] [] I Q := by
 have he' := he
 refine lw K136 [(0,1000)] _ Tryz.func136 ?_
 cases he
 all_goals
 refine G ?_
 refine Cx [1000] ?_
 refine tryReadNull_law hv (Nat.le_of_lt (drop_le hd)) hd (fun z r' hz => by cases hz; decide) ?_
 refine G ?_
 refine Cx [1000] ?_
 refine peekType_law hv hd ?_
 refine G ?_
 refine Cx [1000] ?_
 refine readShort_law hv he' hd fun hr => ?_
 refine G ?_
 refine L0 ?_
 exact h hr
theorem readAny_int {n : Int} {e r : List UInt8} (hv : BufAt I bs v) (he : IntE n e) (hd : bs.drop off = e ++ r) (h : bs.drop (off + e.length) = r → Q (.tuple #[.iface 21 (.int .i32 n), .nilIface]) [bufC v (off + e.length)] [] I) :
  WP Tryz.prog 136 #[ptr b] [(b, bufC v off)] [] I Q := by
 have he' := he
 refine lw K136 [(0,1000)] _ Tryz.func136 ?_
 cases he
 all_goals
 refine G ?_
 refine Cx [1000] ?_
 refine tryReadNull_law hv (Nat.le_of_lt (drop_le hd)) hd (fun z r' hz => by cases hz; decide) ?_
 refine G ?_
 refine Cx [1000] ?_
 refine peekType_law hv hd ?_
 refine G ?_
 refine Cx [1000] ?_
 refine readInt32_law hv he' hd fun hr => ?_
 refine G ?_
 refine L0 ?_
 exact h hr
theorem readAny_long {n : Int} {e r : List UInt8} (hv : BufAt I bs v) (he : LongE n e) (hd : bs.drop off = e ++ r) (h : bs.drop (off + e.length) = r → Q (.tuple #[.iface 2 (.int .i64 n), .nilIface]) [bufC v (off + e.length)] [] I) :
  WP Tryz.prog 136 #[ptr b] [(b, bufC v off)] [] I Q := by
 have he' := he
 refine lw K136 [(0,1000)] _ Tryz.func136 ?_
 cases he
 all_goals
 refine G ?_
 refine Cx [1000] ?_
 refine tryReadNull_law hv (Nat.le_of_lt (drop_le hd)) hd (fun z r' hz => by cases hz; decide) ?_
 refine G ?_
 refine Cx [1000] ?_
 refine peekType_law hv hd ?_
 refine G ?_
 refine Cx [1000] ?_
 refine readLong_law hv he' hd fun hr => ?_
 refine G ?_
 refine L0 ?_
 exact h hr
theorem readAny_float {n : Nat} {e r : List UInt8} (hv : BufAt I bs v) (he : FloatE n e) (hd : bs.drop off = e ++ r) (h : bs.drop (off + e.length) = r → Q (.tuple #[.iface 227 (.float .f32 n), .nilIface]) [bufC v (off + e.length)] [] I) :
  WP Tryz.prog 136 #[ptr b] [(b, bufC v off)] [] I Q := by
 have he' := he
 refine lw K136 [(0,1000)] _ Tryz.func136 ?_
 cases he
 all_goals
 refine G ?_
 refine Cx [1000] ?_
 refine tryReadNull_law hv (Nat.le_of_lt (drop_le hd)) hd (fun z r' hz => by cases hz; decide) ?_
 refine G ?_
 refine Cx [1000] ?_
 refine peekType_law hv hd ?_
 refine G ?_
 refine Cx [1000] ?_
 refine readFloat_law hv he' hd fun hr => ?_
 refine G ?_
 refine L0 ?_
 exact h hr
theorem readAny_double {n : Nat} {e r : List UInt8} (hv : BufAt I bs v) (he : DoubleE n e) (hd : bs.drop off = e ++ r) (h : bs.drop (off + e.length) = r → Q (.tuple #[.iface 231 (.float .f64 n), .nilIface]) [bufC v (off + e.length)] [] I) :
  WP Tryz.prog 136 #[ptr b] [(b, bufC v off)] [] I Q := by
 have he' := he
 refine lw K136 [(0,1000)] _ Tryz.func136 ?_
 cases he
 all_goals
 refine G ?_
 refine Cx [1000] ?_
 refine tryReadNull_law hv (Nat.le_of_lt (drop_le hd)) hd (fun z r' hz => by cases hz; decide) ?_
 refine G ?_
 refine Cx [1000] ?_
 refine peekType_law hv hd ?_
 refine G ?_
 refine Cx [1000] ?_
 refine readDouble_law hv he' hd fun hr => ?_
 refine G ?_
 refine L0 ?_
 exact h hr
theorem readAny_time {n : Int} {e r : List UInt8} (hv : BufAt I bs v) (he : TimeE n e) (hd : bs.drop off = e ++ r) (h : bs.drop (off + e.length) = r → Q (.tuple #[.iface 243 (timeV n), .nilIface]) [bufC v (off + e.length)] [] I) :
  WP Tryz.prog 136 #[ptr b] [(b, bufC v off)] [] I Q := by
 have he' := he
 refine lw K136 [(0,1000)] _ Tryz.func136 ?_
 cases he
 all_goals
 refine G ?_
 refine Cx [1000] ?_
 refine tryReadNull_law hv (Nat.le_of_lt (drop_le hd)) hd (fun z r' hz => by cases hz; decide) ?_
 refine G ?_
 refine Cx [1000] ?_
 refine peekType_law hv hd ?_
 refine G ?_
 refine Cx [1000] ?_
 refine readTimestamp_law hv he' hd fun hr => ?_
 refine G ?_
 refine L0 ?_
 exact h hr
theorem readAny_uuid {t : List UInt8} {e r : List UInt8} (hv : BufAt I bs v) (he : UuidE t e) (hd : bs.drop off = e ++ r) (h : bs.drop (off + e.length) = r → Q (.tuple #[.iface 311 (uuidV t), .nilIface]) [bufC v (off + e.length)] [] I) :
  WP Tryz.prog 136 #[ptr b] [(b, bufC v off)] [] I Q := by
 have he' := he
 refine lw K136 [(0,1000)] _ Tryz.func136 ?_
 cases he
 all_goals
 refine G ?_
 refine Cx [1000] ?_
 refine tryReadNull_law hv (Nat.le_of_lt (drop_le hd)) hd (fun z r' hz => by cases hz; decide) ?_
 refine G ?_
 refine Cx [1000] ?_
 refine peekType_law hv hd ?_
 refine G ?_
 refine Cx [1000] ?_
 refine readUUID_law hv he' hd fun hr => ?_
 refine G ?_
 refine L0 ?_
 exact h hr
theorem readAny_str {t : List UInt8} {e r : List UInt8} (hv : BufAt I bs v) (he : TextE 0xa1 0xb1 t e) (hd : bs.drop off = e ++ r) (h : bs.drop (off + e.length) = r → Q (.tuple #[.iface 9 (strV t), .nilIface]) [bufC v (off + e.length)] [] I) :
  WP Tryz.prog 136 #[ptr b] [(b, bufC v off)] [] I Q := by
 have he' := he
 refine lw K136 [(0,1000)] _ Tryz.func136 ?_
 cases he
 all_goals
 refine G ?_
 refine Cx [1000] ?_
 refine tryReadNull_law hv (Nat.le_of_lt (drop_le hd)) hd (fun z r' hz => by cases hz; decide) ?_
 refine G ?_
 refine Cx [1000] ?_
 refine peekType_law hv hd ?_
 refine G ?_
 refine Cx [1000] ?_
 refine ReadString_law hv (.inl he') hd fun hr => ?_
 refine G ?_
 refine L0 ?_
 exact h hr
theorem readAny_sym {t : List UInt8} {e r : List UInt8} (hv : BufAt I bs v) (he : TextE 0xa3 0xb3 t e) (hd : bs.drop off = e ++ r) (h : bs.drop (off + e.length) = r → Q (.tuple #[.iface 9 (strV t), .nilIface]) [bufC v (off + e.length)] [] I) :
  WP Tryz.prog 136 #[ptr b] [(b, bufC v off)] [] I Q := by
 have he' := he
 refine lw K136 [(0,1000)] _ Tryz.func136 ?_
 cases he
 all_goals
 refine G ?_
 refine Cx [1000] ?_
 refine tryReadNull_law hv (Nat.le_of_lt (drop_le hd)) hd (fun z r' hz => by cases hz; decide) ?_
 refine G ?_
 refine Cx [1000] ?_
 refine peekType_law hv hd ?_
 refine G ?_
 refine Cx [1000] ?_
 refine ReadString_law hv (.inr he') hd fun hr => ?_
 refine G ?_
 refine L0 ?_
 exact h hr
theorem readAny_bin {t : List UInt8} {e r : List UInt8} (hv : BufAt I bs v) (he : TextE 0xa0 0xb0 t e) (hd : bs.drop off = e ++ r) (h : ∀ I' sv, I.le I' → BytesAt I' t sv → bs.drop (off + e.length) = r → Q (.tuple #[.iface 24 sv, .nilIface]) [bufC v (off + e.length)] [] I') :
  WP Tryz.prog 136 #[ptr b] [(b, bufC v off)] [] I Q := by
 have he' := he
 refine lw K136 [(0,1000)] _ Tryz.func136 ?_
 cases he
 all_goals
 refine G ?_
 refine Cx [1000] ?_
 refine tryReadNull_law hv (Nat.le_of_lt (drop_le hd)) hd (fun z r' hz => by cases hz; decide) ?_
 refine G ?_
 refine Cx [1000] ?_
 refine peekType_law hv hd ?_
 refine G ?_
 refine Cx [1000] ?_
 refine readBinary_law hv he' hd fun I' sv hi hb hr => ?_
 refine G ?_
 refine L0 ?_
 exact h I' sv hi hb hr
theorem readAny_null {r : List UInt8} (hv : BufAt I bs v) (hd : bs.drop off = 0x40 :: r) (h : bs.drop (off + 1) = r → Q (.tuple #[.nilIface, .nilIface]) [bufC v (off + 1)] [] I) : WP Tryz.prog 136 #[ptr b] [(b, bufC v off)] [] I Q := by
 refine lw K136 [(0,1000)] _ Tryz.func136 ?_
 refine G ?_
 refine Cx [1000] ?_
 refine tryReadNull_law' hv hd fun hr => ?_
 refine G ?_
 refine L0 ?_
 exact h hr
end rd
def PcRep (I : Imm) (p : Nat × List UInt8) (cs : List Value) : Prop := ∃ sv, cs = [.int .i64 (p.1 : Nat), sv] ∧ BytesAt I p.2 sv ∧ p.2.length < 1099511627776
theorem PcRep.mono {I J : Imm} (hi : I.le J) {p : Nat × List UInt8} {cs : List Value} (h : PcRep I p cs) : PcRep J p cs := by
 obtain ⟨sv, rfl, h1, h2⟩ := h; exact ⟨sv, rfl, bytes_mono hi h1, h2⟩
theorem PcRep.len {I : Imm} {p : Nat × List UInt8} {cs : List Value} (h : PcRep I p cs) : cs.length = 2 := by obtain ⟨sv, rfl, _⟩ := h; rfl
def PsRep (I : Imm) (l : List (Nat × List UInt8)) (v : Value) : Prop := Row 2 (PcRep I) I l v
theorem PsRep.mono {I J : Imm} (hi : I.le J) {l : List (Nat × List UInt8)} {v : Value} (h : PsRep I l v) : PsRep J l v := Row.mono hi (fun _ _ h => h.mono hi) h
inductive LenF (short long : Nat) (data : List UInt8) : Option Nat → Nat × List UInt8 → Prop where
 | s (h : data.length ≤ 255) : LenF short long data none (short, UInt8.ofNat data.length :: data)
 | l (h : data.length < 4294967296) : LenF short long data none (long, bigB data.length 4 ++ data)
 | sc {c : Nat} (h : data.length + 1 ≤ 255) (hc : c ≤ 255) : LenF short long data (some c) (short, UInt8.ofNat (data.length + 1) :: UInt8.ofNat c :: data)
 | lc {c : Nat} (h : data.length + 4 < 4294967296) : LenF short long data (some c) (long, bigB (data.length + 4) 4 ++ (bigB c 4 ++ data))
theorem row_vec {α : Type} {sz : Nat} {Rp : α → List Value → Prop} {I : Imm} {l : List α} {cells : List (List Value)} {kb : Option Addr} {kc : Nat} (hf : Froz I (.vec (.slice kb l.length kc) sz cells.flatten)) (hl : l.length < 1099511627776) (hc : cells.length = l.length)
  (h : ∀ (i : Nat) (x : α) (c : List Value), l[i]? = some x → cells[i]? = some c → Rp x c ∧ c.length = sz) : Row sz Rp I l (.slice kb l.length kc) := by
 obtain ⟨n, hn, hsl⟩ := hf
 have hn' : l.length = n := hn
 subst hn'
 exact ⟨hl, cells, hsl, hc, h⟩
theorem rows_snoc {α : Type} {Rp Rp' : α → List Value → Prop} {l : List α} {cells : List (List Value)} {y : α} {d : List Value} (hc : cells.length = l.length) (h : ∀ (i : Nat) (x : α) (c : List Value), l[i]? = some x → cells[i]? = some c → Rp x c) (hm : ∀ x c, Rp x c → Rp' x c) (hy : Rp' y d) :
  ∀ (i : Nat) (x : α) (c : List Value), (l ++ [y])[i]? = some x → (cells ++ [d])[i]? = some c → Rp' x c := fun i x c hx hcx => by
 by_cases hi : i < l.length
 ·rw [List.getElem?_append_left hi] at hx
  rw [List.getElem?_append_left (by omega)] at hcx
  exact hm _ _ (h i x c hx hcx)
 ·rw [List.getElem?_append_right (by omega)] at hx
  rw [List.getElem?_append_right (by omega)] at hcx
  have : i - l.length = 0 := by
   have := (List.getElem?_eq_some_iff.1 hx).1
   simp at this; omega
  rw [this] at hx
  rw [show i - cells.length = 0 by omega] at hcx
  simp at hx hcx
  subst hx hcx
  exact hy
theorem flat_snoc (cells : List (List Value)) (d : List Value) : cells.flatten ++ d = (cells ++ [d]).flatten := by simp
theorem froz_bytesG {I : Imm} {v : Value} {sz : Nat} {cs : List Value} {t : List UInt8} {n : Nat} (h : Froz I (.vec v sz cs)) (hz : sz = 1) (hc : cs = t.map byteV) (hv : ∃ base cap, v = .slice base n cap) (hn : n = t.length) : BytesAt I t v := by
 subst hz hc; exact froz_bytes h hv hn
theorem bigB_one {u : Nat} : bigB u 1 = [UInt8.ofNat u] := by simp [bigB]
section laws
variable {I : Imm} {Q : Qt}
theorem lengthed_n {short long : Nat} {data : List UInt8} {sv : Value} (hd : BytesAt I data sv) (hl : data.length < 2147483648)
  (h : ∀ I' v l, I.le I' → PsRep I' l v → (∃ p ∈ l, p.1 = long ∧ l.length ≤ 2) → (∀ p ∈ l, LenF short long data none p) → Q v [] [] I') : WP Tryz.prog 88 #[.int .i64 (short : Nat), .int .i64 (long : Nat), sv, .int .i64 (-1)] [] [] I Q := by
 obtain ⟨db, dc, rfl⟩ := bytes_form hd
 refine lw K88 [] [.int .i64 (short : Nat), .int .i64 (long : Nat), .slice db data.length dc, .int .i64 (-1)] Tryz.func88 ?_
 refine G ?_
 refine .inl fun bf I0 hi0 hcf => ?_
 have cell0 : ∀ J, I0.le J → CellsAt J bf (0 + 0 * 2) [.int .i64 (short : Nat), .int .i64 1] := fun J hJ j x e => by
  have := hJ.c (hcf j x (by
   match j, e with
   | 0, e => exact e
   | 1, e => exact e
   | j + 2, e => simp at e))
  simpa using this
 have cell1 : ∀ J, I0.le J → CellsAt J bf (0 + 1 * 2) [.int .i64 (long : Nat), .int .i64 4] := fun J hJ j x e => by
  have := hJ.c (hcf (2 + j) x (by
   match j, e with
   | 0, e => exact e
   | 1, e => exact e
   | j + 2, e => simp at e))
  simpa using this
 refine G ?_
 refine ⟨⟨[9, 20], [], [(900, 2)], fun m vs cs R I' => ∃ (i : Nat) (l : List (Nat × List UInt8)) (kb : Option Addr) (kc : Nat) (cells : List (List Value)), vs = [.slice kb l.length kc, .int .i64 (i : Nat)] ∧ cs = [] ∧ i ≤ 2 ∧ m = 2 - i ∧
   R = [(900, .vec (.slice kb l.length kc) 2 cells.flatten)] ∧ l.length ≤ i ∧ cells.length = l.length ∧ (∀ (j : Nat) (x : Nat × List UInt8) (c : List Value), l[j]? = some x → cells[j]? = some c → PcRep I' x c) ∧ (∀ p ∈ l, LenF short long data none p) ∧ (i = 2 → ∃ p ∈ l, p.1 = long),
  2, _, _, rfl, rfl, ⟨0, [], none, 0, [], rfl, rfl, by omega, rfl, rfl, by simp, rfl, by simp, by simp, by simp⟩, ?_⟩⟩
 rintro m vs cs R I' hI _ _ ⟨i, l, kb, kc, cells, rfl, rfl, hi, rfl, rfl, hli, hcl, hrep, hF, hne⟩
 replace hI : I0.le I' := hI
 have hd' := bytes_mono (hi0.trans hI) hd
 have hb2 : ti151.bytes = 32 := by kernel_rfl
 have hb1 : ti5.bytes = 1 := by kernel_rfl
 have hcase : i = 0 ∨ i = 1 ∨ i = 2 := by omega
 rcases hcase with rfl | rfl | rfl
 ·refine G ?_
  refine ⟨_, _, _, _, 0, rfl, rfl, by omega, ?_⟩
  refine G ?_
  refine ⟨_, .imm (cell0 _ hI), rfl, ?_⟩
  refine G ?_
  intro b11
  refine G ?_
  refine .inl fun be I2 hi2 hce => ?_
  refine G ?_
  split
  ·rename_i hbig _
   refine G ?_
   refine ⟨_, _, _, ?_, rfl, rfl, rfl, rfl, .inl ⟨1, l, kb, kc, cells, rfl, rfl, by omega, rfl, rfl, by omega, hcl, fun j x c hx hc => (hrep j x c hx hc).mono hi2, hF, by omega⟩⟩
   omega
  rename_i hsm _
  refine G ?_
  refine ⟨[0,1,2,3,4,5,6,8,10,7,9,11,12,13,14,15], [], [], [], by kernel_rfl, ?_⟩
  refine G ?_
  refine .inr ?_
  refine G ?_
  refine big_own (u := data.length) (n := 1) (by omega) fun I3 hb hc hi3 => ?_
  replace hi3 : I2.le I3 := hi3
  refine G ?_
  refine .own 59 1 0 ((bigB (data.length) 1).map byteV) [] rfl rfl (SlAt.mono hi3 (show SlAt I2 1 0 [] (.slice (some ⟨be, 0, none⟩) 0 0) from ⟨rfl, by omega, rfl, hce⟩)) rfl (by rw [hb1]; omega) fun nb nc => ?_
  refine G ?_
  refine .own 59 1 data.length _ (data.map byteV) rfl rfl (SlAt.mono (hi2.trans hi3) hd') (oneAll_bytes _) (by rw [hb1]; omega) fun nb2 nc2 => ?_
  refine G ?_
  refine .inl fun bp I4 hi4 hcp => ?_
  refine G ?_
  refine .own 900 l.length 1 cells.flatten [.int .i64 (short : Nat), .slice nb2 (1 + data.length) nc2] rfl rfl ⟨rfl, by omega, rfl, hcp⟩ rfl (by rw [hb2]; omega) fun nb3 nc3 => ?_
  refine G ?_
  refine ⟨2 - 1, _, _, by omega, rfl, rfl, rfl, rfl, .inr ⟨[59], ?_⟩⟩
  conv => whnf
  intro I5 hi5 hfz
  have hall : I'.le I5 := ((hi2.trans hi3).trans hi4).trans hi5
  have hdat : BytesAt I5 (UInt8.ofNat data.length :: data) (.slice nb2 (1 + data.length) nc2) := froz_bytesG (n := 1 + data.length) hfz (by kernel_rfl) (by simp [bigB_one]) ⟨_, _, rfl⟩ (by simp [bigB_len] <;> omega)
  refine ⟨1, l ++ [(short, (UInt8.ofNat data.length :: data))], nb3, nc3, cells ++ [[.int .i64 (short : Nat), .slice nb2 (1 + data.length) nc2]], ?_, rfl, by omega, rfl, ?_, by simp only [List.length_append, List.length_cons, List.length_nil]; omega, by simp [hcl], ?_, ?_, by simp⟩
  ·rw [List.length_append]; rfl
  ·rw [List.length_append, ← flat_snoc]; rfl
  ·exact rows_snoc hcl hrep (fun x c hx => hx.mono hall) ⟨_, rfl, hdat, by simp [bigB_len]; omega⟩
  ·intro p hp
   rcases List.mem_append.1 hp with hp | hp
   ·exact hF p hp
   ·obtain rfl := List.mem_singleton.1 hp
    exact .s (by omega)
 ·refine G ?_
  refine ⟨_, _, _, _, 1, rfl, rfl, by omega, ?_⟩
  refine G ?_
  refine ⟨_, .imm (cell1 _ hI), rfl, ?_⟩
  refine G ?_
  intro b11
  refine G ?_
  refine .inl fun be I2 hi2 hce => ?_
  refine G ?_
  refine ⟨[0,1,2,3,4,5,6,8,10,7,9,11,12,13,14,15], [], [], [], by kernel_rfl, ?_⟩
  refine G ?_
  refine .inr ?_
  refine G ?_
  refine big_own (u := data.length) (n := 4) (by omega) fun I3 hb hc hi3 => ?_
  replace hi3 : I2.le I3 := hi3
  refine G ?_
  refine .own 59 4 0 ((bigB (data.length) 4).map byteV) [] rfl rfl (SlAt.mono hi3 (show SlAt I2 1 0 [] (.slice (some ⟨be, 0, none⟩) 0 0) from ⟨rfl, by omega, rfl, hce⟩)) rfl (by rw [hb1]; omega) fun nb nc => ?_
  refine G ?_
  refine .own 59 4 data.length _ (data.map byteV) rfl rfl (SlAt.mono (hi2.trans hi3) hd') (oneAll_bytes _) (by rw [hb1]; omega) fun nb2 nc2 => ?_
  refine G ?_
  refine .inl fun bp I4 hi4 hcp => ?_
  refine G ?_
  refine .own 900 l.length 1 cells.flatten [.int .i64 (long : Nat), .slice nb2 (4 + data.length) nc2] rfl rfl ⟨rfl, by omega, rfl, hcp⟩ rfl (by rw [hb2]; omega) fun nb3 nc3 => ?_
  refine G ?_
  refine ⟨2 - 2, _, _, by omega, rfl, rfl, rfl, rfl, .inr ⟨[59], ?_⟩⟩
  conv => whnf
  intro I5 hi5 hfz
  have hall : I'.le I5 := ((hi2.trans hi3).trans hi4).trans hi5
  have hdat : BytesAt I5 (bigB data.length 4 ++ data) (.slice nb2 (4 + data.length) nc2) := froz_bytesG (n := 4 + data.length) hfz (by kernel_rfl) (by simp []) ⟨_, _, rfl⟩ (by simp [bigB_len] <;> omega)
  refine ⟨2, l ++ [(long, (bigB data.length 4 ++ data))], nb3, nc3, cells ++ [[.int .i64 (long : Nat), .slice nb2 (4 + data.length) nc2]], ?_, rfl, by omega, rfl, ?_, by simp only [List.length_append, List.length_cons, List.length_nil]; omega, by simp [hcl], ?_, ?_, by simp⟩
  ·rw [List.length_append]; rfl
  ·rw [List.length_append, ← flat_snoc]; rfl
  ·exact rows_snoc hcl hrep (fun x c hx => hx.mono hall) ⟨_, rfl, hdat, by simp [bigB_len]; omega⟩
  ·intro p hp
   rcases List.mem_append.1 hp with hp | hp
   ·exact hF p hp
   ·obtain rfl := List.mem_singleton.1 hp
    exact .l (by omega)
 ·refine G ?_
  refine ⟨⟨[], [], [], [900], ?_⟩⟩
  intro I2 hi2 hfz
  conv => whnf
  exact h I2 _ l ((hi0.trans hI).trans hi2) (row_vec hfz (by omega) hcl fun j x c hx hc => ⟨(hrep j x c hx hc).mono hi2, (hrep j x c hx hc).len⟩) (by obtain ⟨p, hp, e⟩ := hne rfl; exact ⟨p, hp, e, hli⟩) hF
theorem lengthed_c {short long c : Nat} {data : List UInt8} {sv : Value} (hd : BytesAt I data sv) (hl : data.length < 2147483648) (hcn : c < 2147483648)
  (h : ∀ I' v l, I.le I' → PsRep I' l v → (∃ p ∈ l, p.1 = long ∧ l.length ≤ 2) → (∀ p ∈ l, LenF short long data (some c) p) → Q v [] [] I') : WP Tryz.prog 88 #[.int .i64 (short : Nat), .int .i64 (long : Nat), sv, .int .i64 (c : Nat)] [] [] I Q := by
 obtain ⟨db, dc, rfl⟩ := bytes_form hd
 refine lw K88 [] [.int .i64 (short : Nat), .int .i64 (long : Nat), .slice db data.length dc, .int .i64 (c : Nat)] Tryz.func88 ?_
 refine G ?_
 refine .inl fun bf I0 hi0 hcf => ?_
 have cell0 : ∀ J, I0.le J → CellsAt J bf (0 + 0 * 2) [.int .i64 (short : Nat), .int .i64 1] := fun J hJ j x e => by
  have := hJ.c (hcf j x (by
   match j, e with
   | 0, e => exact e
   | 1, e => exact e
   | j + 2, e => simp at e))
  simpa using this
 have cell1 : ∀ J, I0.le J → CellsAt J bf (0 + 1 * 2) [.int .i64 (long : Nat), .int .i64 4] := fun J hJ j x e => by
  have := hJ.c (hcf (2 + j) x (by
   match j, e with
   | 0, e => exact e
   | 1, e => exact e
   | j + 2, e => simp at e))
  simpa using this
 refine G ?_
 refine ⟨⟨[9, 20], [], [(900, 2)], fun m vs cs R I' => ∃ (i : Nat) (l : List (Nat × List UInt8)) (kb : Option Addr) (kc : Nat) (cells : List (List Value)), vs = [.slice kb l.length kc, .int .i64 (i : Nat)] ∧ cs = [] ∧ i ≤ 2 ∧ m = 2 - i ∧
   R = [(900, .vec (.slice kb l.length kc) 2 cells.flatten)] ∧ l.length ≤ i ∧ cells.length = l.length ∧ (∀ (j : Nat) (x : Nat × List UInt8) (c : List Value), l[j]? = some x → cells[j]? = some c → PcRep I' x c) ∧ (∀ p ∈ l, LenF short long data (some c) p) ∧ (i = 2 → ∃ p ∈ l, p.1 = long),
  2, _, _, rfl, rfl, ⟨0, [], none, 0, [], rfl, rfl, by omega, rfl, rfl, by simp, rfl, by simp, by simp, by simp⟩, ?_⟩⟩
 rintro m vs cs R I' hI _ _ ⟨i, l, kb, kc, cells, rfl, rfl, hi, rfl, rfl, hli, hcl, hrep, hF, hne⟩
 replace hI : I0.le I' := hI
 have hd' := bytes_mono (hi0.trans hI) hd
 have hb2 : ti151.bytes = 32 := by kernel_rfl
 have hb1 : ti5.bytes = 1 := by kernel_rfl
 have hcase : i = 0 ∨ i = 1 ∨ i = 2 := by omega
 rcases hcase with rfl | rfl | rfl
 ·refine G ?_
  refine ⟨_, _, _, _, 0, rfl, rfl, by omega, ?_⟩
  refine G ?_
  refine ⟨_, .imm (cell0 _ hI), rfl, ?_⟩
  refine G ?_
  intro b11
  refine G ?_
  refine .inl fun be I2 hi2 hce => ?_
  refine G ?_
  split
  ·rename_i hbig _
   refine G ?_
   refine ⟨_, _, _, ?_, rfl, rfl, rfl, rfl, .inl ⟨1, l, kb, kc, cells, rfl, rfl, by omega, rfl, rfl, by omega, hcl, fun j x c hx hc => (hrep j x c hx hc).mono hi2, hF, by omega⟩⟩
   omega
  rename_i hsmc _
  refine G ?_
  refine ⟨[0,1,2,3,4,5,6,7,8,9,10], [], [], [], by kernel_rfl, ?_⟩
  refine G ?_
  refine .inr ?_
  refine G ?_
  refine big_law (u := c) (n := 1) (by omega) fun I2b hvb hvc hi2b hhv => ?_
  replace hi2b : I2.le I2b := hi2b
  refine G ?_
  split
  ·rename_i hbig _
   refine G ?_
   refine ⟨_, _, _, ?_, rfl, rfl, rfl, rfl, .inl ⟨1, l, kb, kc, cells, rfl, rfl, by omega, rfl, rfl, by omega, hcl, fun j x c hx hc => (hrep j x c hx hc).mono (hi2.trans hi2b), hF, by omega⟩⟩
   omega
  rename_i hsm _
  refine G ?_
  refine ⟨[0,1,2,3,4,5,6,8,10,7,9,11,12,13,14,15], [], [], [], by kernel_rfl, ?_⟩
  refine G ?_
  refine .inr ?_
  refine G ?_
  refine big_own (u := data.length + 1) (n := 1) (by omega) fun I3 hb hc hi3 => ?_
  replace hi3 : I2b.le I3 := hi3
  refine G ?_
  refine .own 59 1 1 ((bigB (data.length + 1) 1).map byteV) ((bigB c 1).map byteV) rfl rfl (SlAt.mono hi3 (by have h' := hhv; unfold BytesAt at h'; rw [bigB_len] at h'; exact h')) (oneAll_bytes _) (by rw [hb1]; omega) fun nb nc => ?_
  refine G ?_
  refine .own 59 2 data.length _ (data.map byteV) rfl rfl (SlAt.mono ((hi2.trans hi2b).trans hi3) hd') (oneAll_bytes _) (by rw [hb1]; omega) fun nb2 nc2 => ?_
  refine G ?_
  refine .inl fun bp I4 hi4 hcp => ?_
  refine G ?_
  refine .own 900 l.length 1 cells.flatten [.int .i64 (short : Nat), .slice nb2 (2 + data.length) nc2] rfl rfl ⟨rfl, by omega, rfl, hcp⟩ rfl (by rw [hb2]; omega) fun nb3 nc3 => ?_
  refine G ?_
  refine ⟨2 - 1, _, _, by omega, rfl, rfl, rfl, rfl, .inr ⟨[59], ?_⟩⟩
  conv => whnf
  intro I5 hi5 hfz
  have hall : I'.le I5 := (((hi2.trans hi2b).trans hi3).trans hi4).trans hi5
  have hdat : BytesAt I5 (UInt8.ofNat (data.length + 1) :: UInt8.ofNat c :: data) (.slice nb2 (2 + data.length) nc2) := froz_bytesG (n := 2 + data.length) hfz (by kernel_rfl) (by simp [bigB_one]) ⟨_, _, rfl⟩ (by simp [bigB_len] <;> omega)
  refine ⟨1, l ++ [(short, (UInt8.ofNat (data.length + 1) :: UInt8.ofNat c :: data))], nb3, nc3, cells ++ [[.int .i64 (short : Nat), .slice nb2 (2 + data.length) nc2]], ?_, rfl, by omega, rfl, ?_, by simp only [List.length_append, List.length_cons, List.length_nil]; omega, by simp [hcl], ?_, ?_, by simp⟩
  ·rw [List.length_append]; rfl
  ·rw [List.length_append, ← flat_snoc]; rfl
  ·exact rows_snoc hcl hrep (fun x c hx => hx.mono hall) ⟨_, rfl, hdat, by simp [bigB_len]; omega⟩
  ·intro p hp
   rcases List.mem_append.1 hp with hp | hp
   ·exact hF p hp
   ·obtain rfl := List.mem_singleton.1 hp
    exact .sc (by omega) (by omega)
 ·refine G ?_
  refine ⟨_, _, _, _, 1, rfl, rfl, by omega, ?_⟩
  refine G ?_
  refine ⟨_, .imm (cell1 _ hI), rfl, ?_⟩
  refine G ?_
  intro b11
  refine G ?_
  refine .inl fun be I2 hi2 hce => ?_
  refine G ?_
  refine ⟨[0,1,2,3,4,5,6,7,8,9,10], [], [], [], by kernel_rfl, ?_⟩
  refine G ?_
  refine .inr ?_
  refine G ?_
  refine big_law (u := c) (n := 4) (by omega) fun I2b hvb hvc hi2b hhv => ?_
  replace hi2b : I2.le I2b := hi2b
  refine G ?_
  refine ⟨[0,1,2,3,4,5,6,8,10,7,9,11,12,13,14,15], [], [], [], by kernel_rfl, ?_⟩
  refine G ?_
  refine .inr ?_
  refine G ?_
  refine big_own (u := data.length + 4) (n := 4) (by omega) fun I3 hb hc hi3 => ?_
  replace hi3 : I2b.le I3 := hi3
  refine G ?_
  refine .own 59 4 4 ((bigB (data.length + 4) 4).map byteV) ((bigB c 4).map byteV) rfl rfl (SlAt.mono hi3 (by have h' := hhv; unfold BytesAt at h'; rw [bigB_len] at h'; exact h')) (oneAll_bytes _) (by rw [hb1]; omega) fun nb nc => ?_
  refine G ?_
  refine .own 59 8 data.length _ (data.map byteV) rfl rfl (SlAt.mono ((hi2.trans hi2b).trans hi3) hd') (oneAll_bytes _) (by rw [hb1]; omega) fun nb2 nc2 => ?_
  refine G ?_
  refine .inl fun bp I4 hi4 hcp => ?_
  refine G ?_
  refine .own 900 l.length 1 cells.flatten [.int .i64 (long : Nat), .slice nb2 (8 + data.length) nc2] rfl rfl ⟨rfl, by omega, rfl, hcp⟩ rfl (by rw [hb2]; omega) fun nb3 nc3 => ?_
  refine G ?_
  refine ⟨2 - 2, _, _, by omega, rfl, rfl, rfl, rfl, .inr ⟨[59], ?_⟩⟩
  conv => whnf
  intro I5 hi5 hfz
  have hall : I'.le I5 := (((hi2.trans hi2b).trans hi3).trans hi4).trans hi5
  have hdat : BytesAt I5 (bigB (data.length + 4) 4 ++ (bigB c 4 ++ data)) (.slice nb2 (8 + data.length) nc2) := froz_bytesG (n := 8 + data.length) hfz (by kernel_rfl) (by simp []) ⟨_, _, rfl⟩ (by simp [bigB_len] <;> omega)
  refine ⟨2, l ++ [(long, (bigB (data.length + 4) 4 ++ (bigB c 4 ++ data)))], nb3, nc3, cells ++ [[.int .i64 (long : Nat), .slice nb2 (8 + data.length) nc2]], ?_, rfl, by omega, rfl, ?_, by simp only [List.length_append, List.length_cons, List.length_nil]; omega, by simp [hcl], ?_, ?_, by simp⟩
  ·rw [List.length_append]; rfl
  ·rw [List.length_append, ← flat_snoc]; rfl
  ·exact rows_snoc hcl hrep (fun x c hx => hx.mono hall) ⟨_, rfl, hdat, by simp [bigB_len]; omega⟩
  ·intro p hp
   rcases List.mem_append.1 hp with hp | hp
   ·exact hF p hp
   ·obtain rfl := List.mem_singleton.1 hp
    exact .lc (by omega)
 ·refine G ?_
  refine ⟨⟨[], [], [], [900], ?_⟩⟩
  intro I2 hi2 hfz
  conv => whnf
  exact h I2 _ l ((hi0.trans hI).trans hi2) (row_vec hfz (by omega) hcl fun j x c hx hc => ⟨(hrep j x c hx hc).mono hi2, (hrep j x c hx hc).len⟩) (by obtain ⟨p, hp, e⟩ := hne rfl; exact ⟨p, hp, e, hli⟩) hF
end laws
theorem ofNat_toNat (m : Nat) : (UInt8.ofNat m).toNat = m % 256 := by rw [UInt8.toNat_ofNat']
theorem be1 (n : Nat) : (UInt8.ofNat n).toNat = n % 256 := ofNat_toNat n
theorem bigB2 (n : Nat) : bigB n 2 = [UInt8.ofNat (n / 256), UInt8.ofNat n] := by simp [bigB]
theorem bigB4 (n : Nat) : bigB n 4 = [UInt8.ofNat (n / 16777216), UInt8.ofNat (n / 65536), UInt8.ofNat (n / 256), UInt8.ofNat n] := by simp [bigB]
theorem bigB8 (n : Nat) : bigB n 8 = [UInt8.ofNat (n / 72057594037927936), UInt8.ofNat (n / 281474976710656), UInt8.ofNat (n / 1099511627776), UInt8.ofNat (n / 4294967296), UInt8.ofNat (n / 16777216), UInt8.ofNat (n / 65536), UInt8.ofNat (n / 256), UInt8.ofNat n] := by simp [bigB]
theorem be2 (n : Nat) : (UInt8.ofNat n).toNat + (UInt8.ofNat (n / 256)).toNat * 256 = n % 65536 := by simp only [ofNat_toNat]; omega
theorem be4 (n : Nat) : (UInt8.ofNat n).toNat + (UInt8.ofNat (n / 256)).toNat * 256 + (UInt8.ofNat (n / 65536)).toNat * 65536 + (UInt8.ofNat (n / 16777216)).toNat * 16777216 = n % 4294967296 := by simp only [ofNat_toNat]; omega
theorem be8 (n : Nat) : (UInt8.ofNat n).toNat + (UInt8.ofNat (n / 256)).toNat * 256 + (UInt8.ofNat (n / 65536)).toNat * 65536 + (UInt8.ofNat (n / 16777216)).toNat * 16777216 + (UInt8.ofNat (n / 4294967296)).toNat * 4294967296 + (UInt8.ofNat (n / 1099511627776)).toNat * 1099511627776 + (UInt8.ofNat (n / 281474976710656)).toNat * 281474976710656 + (UInt8.ofNat (n / 72057594037927936)).toNat * 72057594037927936 = n % 18446744073709551616 := by simp only [ofNat_toNat]; omega
theorem wrap_i8 (n : Nat) : IntKind.i8.wrap (n : Int) = if n % 256 < 128 then ((n % 256 : Nat) : Int) else ((n % 256 : Nat) : Int) - 256 := by
 have hm : (n : Int) % 2 ^ IntKind.i8.bits = ((n % 256 : Nat) : Int) := by rw [show (2 : Int) ^ IntKind.i8.bits = 256 from rfl]; omega
 simp only [IntKind.wrap, hm, IntKind.signed, show (2 : Int) ^ (IntKind.i8.bits - 1) = 128 from rfl, show (2 : Int) ^ IntKind.i8.bits = 256 from rfl]
 split <;> split <;> simp_all <;> omega
theorem wrap_i16 (n : Nat) : IntKind.i16.wrap (n : Int) = if n % 65536 < 32768 then ((n % 65536 : Nat) : Int) else ((n % 65536 : Nat) : Int) - 65536 := by
 have hm : (n : Int) % 2 ^ IntKind.i16.bits = ((n % 65536 : Nat) : Int) := by rw [show (2 : Int) ^ IntKind.i16.bits = 65536 from rfl]; omega
 simp only [IntKind.wrap, hm, IntKind.signed, show (2 : Int) ^ (IntKind.i16.bits - 1) = 32768 from rfl, show (2 : Int) ^ IntKind.i16.bits = 65536 from rfl]
 split <;> split <;> simp_all <;> omega
theorem wrap_i32 (n : Nat) : IntKind.i32.wrap (n : Int) = if n % 4294967296 < 2147483648 then ((n % 4294967296 : Nat) : Int) else ((n % 4294967296 : Nat) : Int) - 4294967296 := by
 have hm : (n : Int) % 2 ^ IntKind.i32.bits = ((n % 4294967296 : Nat) : Int) := by rw [show (2 : Int) ^ IntKind.i32.bits = 4294967296 from rfl]; omega
 simp only [IntKind.wrap, hm, IntKind.signed, show (2 : Int) ^ (IntKind.i32.bits - 1) = 2147483648 from rfl, show (2 : Int) ^ IntKind.i32.bits = 4294967296 from rfl]
 split <;> split <;> simp_all <;> omega
theorem wrap_i64 (n : Nat) : IntKind.i64.wrap (n : Int) = if n % 18446744073709551616 < 9223372036854775808 then ((n % 18446744073709551616 : Nat) : Int) else ((n % 18446744073709551616 : Nat) : Int) - 18446744073709551616 := by
 have hm : (n : Int) % 2 ^ IntKind.i64.bits = ((n % 18446744073709551616 : Nat) : Int) := by rw [show (2 : Int) ^ IntKind.i64.bits = 18446744073709551616 from rfl]; omega
 simp only [IntKind.wrap, hm, IntKind.signed, show (2 : Int) ^ (IntKind.i64.bits - 1) = 9223372036854775808 from rfl, show (2 : Int) ^ IntKind.i64.bits = 18446744073709551616 from rfl]
 split <;> split <;> simp_all <;> omega
theorem sg_wrap {n : Nat} (h : n < 18446744073709551616) : IntKind.i64.wrap (n : Int) = sg n := by
 rw [wrap_i64, Nat.mod_eq_of_lt h]; rfl
theorem full_ok {k : Int} {n : Nat} (hs : Scal k n []) (hk : 2 ≤ k ∧ k ≤ 16) : 0 ≤ lookN codedT k ∧ lookN codedT k < 256 ∧ (lookN fixedT k = 1 ∨ lookN fixedT k = 2 ∨ lookN fixedT k = 4 ∨ lookN fixedT k = 8) ∧
  EncS k n [] (UInt8.ofNat (lookN codedT k).toNat :: bigB n (lookN fixedT k).toNat) := by
 cases hs with
 | null => omega
 | bool h => omega
 | uuid h => omega
 | bin h => omega
 | str h => omega
 | sym h => omega
 | ubyte h =>
  refine ⟨by decide, by decide, by decide, .ubyte ?_⟩
  have e := be1 n; rw [Nat.mod_eq_of_lt h] at e
  rw [show bigB n (lookN fixedT 2).toNat = [UInt8.ofNat n] from bigB_one]
  have := UbyteE.s (UInt8.ofNat n)
  rw [e] at this
  exact this
 | ushort h =>
  refine ⟨by decide, by decide, by decide, .ushort ?_⟩
  have e := be2 n; rw [Nat.mod_eq_of_lt h] at e
  rw [show bigB n (lookN fixedT 3).toNat = _ from bigB2 n]
  have := UshortE.s (UInt8.ofNat (n / 256)) (UInt8.ofNat n)
  rw [e] at this
  exact this
 | uint h =>
  refine ⟨by decide, by decide, by decide, .uint ?_⟩
  have e := be4 n; rw [Nat.mod_eq_of_lt h] at e
  rw [show bigB n (lookN fixedT 4).toNat = _ from bigB4 n]
  have := UintE.l (UInt8.ofNat (n / 16777216)) (UInt8.ofNat (n / 65536)) (UInt8.ofNat (n / 256)) (UInt8.ofNat n)
  rw [e] at this
  exact this
 | ulong h =>
  refine ⟨by decide, by decide, by decide, .ulong ?_⟩
  have e := be8 n; rw [Nat.mod_eq_of_lt h] at e
  rw [show bigB n (lookN fixedT 5).toNat = _ from bigB8 n]
  have := UlongE.l (UInt8.ofNat (n / 72057594037927936)) (UInt8.ofNat (n / 281474976710656)) (UInt8.ofNat (n / 1099511627776)) (UInt8.ofNat (n / 4294967296)) (UInt8.ofNat (n / 16777216)) (UInt8.ofNat (n / 65536)) (UInt8.ofNat (n / 256)) (UInt8.ofNat n)
  rw [e] at this
  exact this
 | byte h =>
  refine ⟨by decide, by decide, by decide, .byte ?_⟩
  rw [show bigB n (lookN fixedT 6).toNat = _ from bigB_one]
  have := SbyteE.s (UInt8.ofNat n)
  rw [be1, wrap_i8, show (if n % 256 % 256 < 128 then ((n % 256 % 256 : Nat) : Int) else ((n % 256 % 256 : Nat) : Int) - 256) = sg n by unfold sg; split <;> split <;> omega] at this
  exact this
 | short h =>
  refine ⟨by decide, by decide, by decide, .short ?_⟩
  rw [show bigB n (lookN fixedT 7).toNat = _ from bigB2 n]
  have := ShortE.s (UInt8.ofNat (n / 256)) (UInt8.ofNat n)
  rw [be2, wrap_i16, show (if n % 65536 % 65536 < 32768 then ((n % 65536 % 65536 : Nat) : Int) else ((n % 65536 % 65536 : Nat) : Int) - 65536) = sg n by unfold sg; split <;> split <;> omega] at this
  exact this
 | int h =>
  refine ⟨by decide, by decide, by decide, .int ?_⟩
  rw [show bigB n (lookN fixedT 8).toNat = _ from bigB4 n]
  have := IntE.l (UInt8.ofNat (n / 16777216)) (UInt8.ofNat (n / 65536)) (UInt8.ofNat (n / 256)) (UInt8.ofNat n)
  rw [be4, wrap_i32, show (if n % 4294967296 % 4294967296 < 2147483648 then ((n % 4294967296 % 4294967296 : Nat) : Int) else ((n % 4294967296 % 4294967296 : Nat) : Int) - 4294967296) = sg n by unfold sg; split <;> split <;> omega] at this
  exact this
 | long h =>
  refine ⟨by decide, by decide, by decide, .long ?_⟩
  rw [show bigB n (lookN fixedT 9).toNat = _ from bigB8 n]
  have := LongE.l (UInt8.ofNat (n / 72057594037927936)) (UInt8.ofNat (n / 281474976710656)) (UInt8.ofNat (n / 1099511627776)) (UInt8.ofNat (n / 4294967296)) (UInt8.ofNat (n / 16777216)) (UInt8.ofNat (n / 65536)) (UInt8.ofNat (n / 256)) (UInt8.ofNat n)
  rw [be8, sg_wrap (by omega), Nat.mod_eq_of_lt h] at this
  exact this
 | float h =>
  refine ⟨by decide, by decide, by decide, .float ?_⟩
  have e := be4 n; rw [Nat.mod_eq_of_lt h] at e
  rw [show bigB n (lookN fixedT 10).toNat = _ from bigB4 n]
  have := FloatE.s (UInt8.ofNat (n / 16777216)) (UInt8.ofNat (n / 65536)) (UInt8.ofNat (n / 256)) (UInt8.ofNat n)
  rw [e] at this
  exact this
 | double h =>
  refine ⟨by decide, by decide, by decide, .double ?_⟩
  have e := be8 n; rw [Nat.mod_eq_of_lt h] at e
  rw [show bigB n (lookN fixedT 11).toNat = _ from bigB8 n]
  have := DoubleE.s (UInt8.ofNat (n / 72057594037927936)) (UInt8.ofNat (n / 281474976710656)) (UInt8.ofNat (n / 1099511627776)) (UInt8.ofNat (n / 4294967296)) (UInt8.ofNat (n / 16777216)) (UInt8.ofNat (n / 65536)) (UInt8.ofNat (n / 256)) (UInt8.ofNat n)
  rw [e] at this
  exact this
 | time h =>
  refine ⟨by decide, by decide, by decide, .time ?_⟩
  rw [show bigB n (lookN fixedT 16).toNat = _ from bigB8 n]
  have := TimeE.s (UInt8.ofNat (n / 72057594037927936)) (UInt8.ofNat (n / 281474976710656)) (UInt8.ofNat (n / 1099511627776)) (UInt8.ofNat (n / 4294967296)) (UInt8.ofNat (n / 16777216)) (UInt8.ofNat (n / 65536)) (UInt8.ofNat (n / 256)) (UInt8.ofNat n)
  rw [be8, sg_wrap (by omega), Nat.mod_eq_of_lt h] at this
  exact this
def PcE (k : Int) (n : Nat) (t : List UInt8) (p : Nat × List UInt8) : Prop := p.1 < 256 ∧ EncS k n t (UInt8.ofNat p.1 :: p.2)
theorem bytes_exists (I : Imm) (bs : List UInt8) : ∃ I' kb kc, I.le I' ∧ BytesAt I' bs (.slice kb bs.length kc) := by
 obtain ⟨n, hn⟩ := I.room
 exact ⟨I.addC n (bs.map byteV), some ⟨n, 0, none⟩, bs.length, le_addC _ (hn n (Nat.le_refl _)).1, rfl, Nat.le_refl _, by simp, cells_addC _ _ _⟩
theorem row_app {α : Type} {sz sz' n : Nat} {Rp : α → List Value → Prop} {I : Imm} {l1 l2 : List α} {c1 c2 : List (List Value)} {all : List Value} {kb : Option Addr} {kc : Nat} (hf : Froz I (.vec (.slice kb n kc) sz' all)) (hz : sz' = sz)
  (ha : all = c1.flatten ++ c2.flatten) (hn : n = l1.length + l2.length) (hl : l1.length + l2.length < 1099511627776) (hc1 : c1.length = l1.length) (hc2 : c2.length = l2.length)
  (h1 : ∀ (i : Nat) (x : α) (c : List Value), l1[i]? = some x → c1[i]? = some c → Rp x c ∧ c.length = sz) (h2 : ∀ (i : Nat) (x : α) (c : List Value), l2[i]? = some x → c2[i]? = some c → Rp x c ∧ c.length = sz) :
  Row sz Rp I (l1 ++ l2) (.slice kb n kc) := by
 subst hz ha hn
 obtain ⟨m, hm, hsl⟩ := hf
 have hm' : l1.length + l2.length = m := hm
 subst hm'
 refine ⟨by simpa using hl, c1 ++ c2, by simpa using hsl, by simp [hc1, hc2], fun i x c hx hc => ?_⟩
 by_cases hi : i < l1.length
 ·rw [List.getElem?_append_left hi] at hx
  rw [List.getElem?_append_left (by omega)] at hc
  exact h1 i x c hx hc
 ·rw [List.getElem?_append_right (by omega)] at hx
  rw [List.getElem?_append_right (by omega), hc1] at hc
  exact h2 _ x c hx hc
theorem fixedSize_num {k : Int} (hk : 2 ≤ k ∧ k ≤ 17) {I : Imm} {Q : Qt} (h : ∀ I', I.le I' → Q (.int .i64 (lookN fixedT k)) [] [] I') : WP Tryz.prog 176 #[.int .i64 k] [] [] I Q :=
 fixedSize_law fun I' hi => by rw [if_neg (by omega), Int.sub_zero]; exact h I' hi
theorem short_u {k : Int} {n : Nat} (hk : k = 4 ∨ k = 5) (hn : n < 256) : 0 ≤ lookN [(4, 82), (5, 83)] k ∧ PcE k n [] ((lookN [(4, 82), (5, 83)] k).toNat, bigB n 1) := by
 rw [bigB_one]
 have e := be1 n; rw [Nat.mod_eq_of_lt hn] at e
 rcases hk with rfl | rfl
 ·refine ⟨by decide, (by decide : (82 : Nat) < 256), .uint ?_⟩
  have := UintE.s (UInt8.ofNat n); rw [e] at this; exact this
 ·refine ⟨by decide, (by decide : (83 : Nat) < 256), .ulong ?_⟩
  have := UlongE.s (UInt8.ofNat n); rw [e] at this; exact this
theorem short_z {k : Int} {n : Nat} (hk : k = 4 ∨ k = 5) (hn : n = 0) : 0 ≤ lookN [(4, 67), (5, 68)] k ∧ PcE k n [] ((lookN [(4, 67), (5, 68)] k).toNat, []) := by
 subst hn
 rcases hk with rfl | rfl
 ·exact ⟨by decide, by decide, .uint .z⟩
 ·exact ⟨by decide, by decide, .ulong .z⟩
theorem short_i {k : Int} {n : Nat} (hk : k = 8 ∨ k = 9) (h64 : n < 18446744073709551616) (hn : -128 ≤ sg n ∧ sg n < 128) : 0 ≤ lookN [(8, 84), (9, 85)] k ∧ PcE k n [] ((lookN [(8, 84), (9, 85)] k).toNat, bigB n 1) := by
 rw [bigB_one]
 have h8 : IntKind.i8.wrap ((n % 256 : Nat) : Int) = sg n := by
  rw [wrap_i8]; unfold sg at hn ⊢; split at hn <;> split <;> omega
 have h32 : IntKind.i32.wrap (sg n) = sg n := w32 (by omega)
 have h64 : IntKind.i64.wrap (sg n) = sg n := w64 (by omega)
 rcases hk with rfl | rfl
 ·refine ⟨by decide, (by decide : (84 : Nat) < 256), .int ?_⟩
  have := IntE.s (UInt8.ofNat n)
  rw [be1, h8, h32] at this
  exact this
 ·refine ⟨by decide, (by decide : (85 : Nat) < 256), .long ?_⟩
  have := LongE.s (UInt8.ofNat n)
  rw [be1, h8, h64] at this
  exact this
theorem oneAll_app : ∀ {a b : List Value}, oneAll a = true → oneAll b = true → oneAll (a ++ b) = true
 | [], _, _, hb => hb
 | x :: a, b, ha, hb => by
  cases x <;> simp only [oneAll, List.cons_append, Bool.false_eq_true] at ha ⊢ <;> exact oneAll_app ha hb
theorem oneAll_flat : ∀ {cs : List (List Value)}, (∀ c ∈ cs, oneAll c = true) → oneAll cs.flatten = true
 | [], _ => rfl
 | c :: cs, h => by rw [List.flatten_cons]; exact oneAll_app (h c (by simp)) (oneAll_flat fun d hd => h d (by simp [hd]))
theorem PcRep.one {I : Imm} {p : Nat × List UInt8} {cs : List Value} (h : PcRep I p cs) : oneAll cs = true := by
 obtain ⟨sv, rfl, h1, _⟩ := h
 obtain ⟨_, _, rfl⟩ := bytes_form h1
 rfl
theorem row_one {α : Type} {l : List α} {cs : List (List Value)} (hc : cs.length = l.length) (h : ∀ (i : Nat) (x : α) (c : List Value), l[i]? = some x → cs[i]? = some c → oneAll c = true) : oneAll cs.flatten = true :=
 oneAll_flat fun c hm => by
  obtain ⟨i, hi⟩ := List.mem_iff_getElem?.1 hm
  have hil : i < l.length := by rw [← hc]; exact (List.getElem?_eq_some_iff.1 hi).1
  exact h i l[i] c (by simp [hil]) hi
section laws
variable {I : Imm} {Q : Qt}
theorem numbered_law {k o : Int} {n : Nat} {cs : List Value} (hr : VRep I (.mk k n [] [] o []) cs) (hs : Scal k n []) (hk : 2 ≤ k ∧ k ≤ 16)
  (h : ∀ I' v l, I.le I' → PsRep I' l v → (∃ p ∈ l, (p.1 : Int) = lookN codedT k) → (∀ p ∈ l, PcE k n [] p) → Q v [] [] I') : WP Tryz.prog 90 #[.agg cs.toArray] [] [] I Q := by
 obtain ⟨kb, kc, db, dc, rfl, _, _, hkr, hnr, hor, _⟩ := hr.inv2
 replace hkr : -9223372036854775808 ≤ k ∧ k < 9223372036854775808 := hkr
 replace hnr : n < 18446744073709551616 := hnr
 replace hor : -9223372036854775808 ≤ o ∧ o < 9223372036854775808 := hor
 obtain ⟨f1, f2, f3, f4⟩ := full_ok hs hk
 obtain ⟨N, hN⟩ := Int.eq_ofNat_of_zero_le (show 0 ≤ lookN fixedT k by omega)
 obtain ⟨C, hC⟩ := Int.eq_ofNat_of_zero_le f1
 rw [hN, hC] at f4
 simp only [Int.toNat_natCast] at f4
 have hN8 : N ≤ 8 := by omega
 have hb2 : ti151.bytes = 32 := by kernel_rfl
 have hz2 : ti151.size = 2 := by kernel_rfl
 refine law (kp := [0,1,2,3,4,5,6,24,25,29,42,52,60,10040,10051,10071]) [] (args := [.agg #[.int .i64 k, .int .u64 (n : Nat), strV [], .slice kb 0 kc, .int .i64 o, .slice db 0 dc]]) Tryz.func90 (by kernel_rfl) (by kernel_rfl) trivial ?_
 refine G ?_
 intro b1
 refine G ?_
 refine ⟨[0,1,2,3,4,5,6], [], [], [], by kernel_rfl, ?_⟩
 refine G ?_
 rw [sg_wrap hnr]
 refine G ?_
 refine ⟨[0,1,3,4,5,2,6,7,8,9,10], [], [], [14,18,19], by kernel_rfl, ?_⟩
 refine G ?_
 refine ⟨fun v I' => v = .int .i64 (C : Nat), coded_law ⟨rfl, by rw [hC]⟩, ⟨_, I, .refl I, rfl⟩, ?_⟩
 rintro v I1 hi1 rfl
 refine G ?_
 refine ⟨fun v I' => v = .int .i64 (N : Nat), fixedSize_num (by omega) fun I' _ => ⟨rfl, by rw [hN]⟩, ⟨_, I1, .refl I1, rfl⟩, ?_⟩
 rintro v I2 hi2 rfl
 refine G ?_
 refine ⟨fun v I' => ∃ kb kc, v = .slice kb N kc ∧ BytesAt I' (bigB n N) v, big_law hN8 fun I' kb kc _ hb => ⟨rfl, kb, kc, rfl, hb⟩, ?_, ?_⟩
 ·obtain ⟨I', kb, kc, q1, q2⟩ := bytes_exists I2 (bigB n N)
  rw [bigB_len] at q2
  exact ⟨_, I', q1, kb, kc, rfl, q2⟩
 rintro v I3 hi3 ⟨vb, vc, rfl, hvb⟩
 refine G ?_
 intro b5
 refine G ?_
 refine .inl fun bs I4 hi4 hcs => ?_
 have hle4 : I.le I4 := ((hi1.trans hi2).trans hi3).trans hi4
 have hrow0 : PsRep I4 [(C, bigB n N)] (.slice (some ⟨bs, 0, none⟩) 1 1) :=
  row_lit (css := [[.int .i64 (C : Nat), .slice vb N vc]]) hcs rfl (by simp) rfl (rows1 ⟨⟨_, rfl, bytes_mono hi4 hvb, by rw [bigB_len]; omega⟩, rfl⟩)
 have hE0 : ∀ p ∈ [(C, bigB n N)], PcE k n [] p := fun p hp => by
  obtain rfl := List.mem_singleton.1 hp
  exact ⟨by omega, f4⟩
 clear hcs hvb
 have hcase : (k = 4 ∨ k = 5) ∨ (k = 8 ∨ k = 9) ∨ k ≠ 4 ∧ k ≠ 5 ∧ k ≠ 8 ∧ k ≠ 9 := by omega
 rcases hcase with hk4 | hk8 | hko
 ·obtain ⟨D, hD⟩ := Int.eq_ofNat_of_zero_le (show 0 ≤ lookN [(4, 82), (5, 83)] k by rcases hk4 with rfl | rfl <;> decide)
  obtain ⟨Z, hZ⟩ := Int.eq_ofNat_of_zero_le (show 0 ≤ lookN [(4, 67), (5, 68)] k by rcases hk4 with rfl | rfl <;> decide)
  have hE1 : n < 256 → PcE k n [] (D, bigB n 1) := fun hn => by have := (short_u (n := n) hk4 hn).2; rw [hD, Int.toNat_natCast] at this; exact this
  have hE2 : n = 0 → PcE k n [] (Z, []) := fun hn => by have := (short_z (n := n) hk4 hn).2; rw [hZ, Int.toNat_natCast] at this; exact this
  rcases hk4 with rfl | rfl
  all_goals
  refine G ?_
  split
  ·rename_i hlt _
   have hn : n < 256 := by omega
   replace hE1 := hE1 hn
   refine G ?_
   refine ⟨[4,5,7,11,8,0,1,2,3,6,9,10,12,13], [], [], [36], by kernel_rfl, ?_⟩
   refine G ?_
   refine ⟨fun v I' => ∃ kb kc, v = .slice kb 1 kc ∧ BytesAt I' (bigB n 1) v, big_law (n := 1) (by omega) fun I' kb kc _ hb => ⟨rfl, kb, kc, rfl, hb⟩, ?_, ?_⟩
   ·obtain ⟨I', kb, kc, q1, q2⟩ := bytes_exists I4 (bigB n 1)
    rw [bigB_len] at q2
    exact ⟨_, I', q1, kb, kc, rfl, q2⟩
   rintro v I5 hi5 ⟨wb, wc, rfl, hwb⟩
   refine G ?_
   intro r
   refine G ?_
   repeat (refine ⟨rfl, ?_⟩; conv => whnf)
   refine ⟨D, hD, ?_⟩
   refine G ?_
   refine .inl fun bs2 I6 hi6 hcs2 => ?_
   refine G ?_
   obtain ⟨hl0, cs0, hsl0, hcl0, hrep0⟩ := hrow0.mono (hi5.trans hi6)
   refine .new 1 1 _ cs0.flatten ⟨rfl, by omega, rfl, hcs2⟩ rfl (by omega) hsl0 (row_one hcl0 fun i x c hx hc => (hrep0 i x c hx hc).1.one) (by rw [hb2]; omega) fun nb nc => ?_
   refine G ?_
   intro I7 hi7 hf7
   have hle7 : I4.le I7 := (hi5.trans hi6).trans hi7
   have hrow1 := row_app (l1 := [(D, bigB n 1)]) (l2 := [(C, bigB n N)]) (c1 := [_]) (c2 := cs0) (Rp := PcRep I7) hf7 hz2 (by simp; rfl) rfl (by simp) rfl hcl0
    (rows1 ⟨⟨.slice wb 1 wc, rfl, bytes_mono (hi6.trans hi7) hwb, by rw [bigB_len]; omega⟩, rfl⟩) (fun i x c hx hc => ⟨(hrep0 i x c hx hc).1.mono hi7, (hrep0 i x c hx hc).2⟩)
   have hE1' : ∀ p ∈ [(D, bigB n 1)] ++ [(C, bigB n N)], PcE _ n [] p := fun p hp => by
    rcases List.mem_append.1 hp with hp | hp
    ·obtain rfl := List.mem_singleton.1 hp; exact hE1
    ·exact hE0 p hp
   clear hf7 hrep0 hsl0 hcl0
   refine G ?_
   split
   ·rename_i hz _
    have hn0 : n = 0 := by omega
    replace hE2 := hE2 hn0
    refine G ?_
    intro r2
    refine G ?_
    repeat (refine ⟨rfl, ?_⟩; conv => whnf)
    refine ⟨43, _, Z, rfl, hZ, ?_⟩
    refine G ?_
    refine .inl fun bs3 I8 hi8 hcs3 => ?_
    refine G ?_
    obtain ⟨hl1, cs1, hsl1, hcl1, hrep1⟩ := hrow1.mono hi8 fun _ _ h => h.mono hi8
    refine .new 1 2 _ cs1.flatten ⟨rfl, by omega, rfl, hcs3⟩ rfl (by omega) hsl1 (row_one hcl1 fun i x c hx hc => (hrep1 i x c hx hc).1.one) (by rw [hb2]; omega) fun nb2 nc2 => ?_
    refine G ?_
    intro I9 hi9 hf9
    have hrow2 := row_app (l1 := [(Z, ([] : List UInt8))]) (c1 := [_]) (c2 := cs1) (Rp := PcRep I9) hf9 hz2 (by simp; rfl) rfl (by simp) rfl hcl1
     (rows1 ⟨⟨.slice none 0 0, rfl, slAt_nil I9 1, by simp⟩, rfl⟩) (fun i x c hx hc => ⟨(hrep1 i x c hx hc).1.mono hi9, (hrep1 i x c hx hc).2⟩)
    refine G ?_
    refine L0 ?_
    refine h I9 _ _ (hle4.trans (hle7.trans (hi8.trans hi9))) hrow2 ⟨(C, bigB n N), List.mem_append_right _ (List.mem_append_right _ (List.mem_singleton.2 rfl)), hC.symm⟩ fun p hp => ?_
    rcases List.mem_append.1 hp with hp | hp
    ·obtain rfl := List.mem_singleton.1 hp; exact hE2
    ·exact hE1' p hp
   ·rename_i hz _
    refine G ?_
    refine L0 ?_
    exact h I7 _ _ (hle4.trans hle7) hrow1 ⟨(C, bigB n N), List.mem_append_right _ (List.mem_singleton.2 rfl), hC.symm⟩ hE1'
  ·rename_i hge _
   refine G ?_
   (split; omega); refine G ?_
   refine L0 ?_
   exact h I4 _ _ hle4 hrow0 ⟨_, List.mem_singleton.2 rfl, hC.symm⟩ hE0
 ·obtain ⟨D, hD⟩ := Int.eq_ofNat_of_zero_le (show 0 ≤ lookN [(8, 84), (9, 85)] k by rcases hk8 with rfl | rfl <;> decide)
  have hE1 : (-128 ≤ sg n ∧ sg n < 128) → PcE k n [] (D, bigB n 1) := fun hn => by have := (short_i (n := n) hk8 hnr hn).2; rw [hD, Int.toNat_natCast] at this; exact this
  rcases hk8 with rfl | rfl
  all_goals
  refine G ?_
  split
  ·rename_i hlo _
   refine G ?_
   split
   ·rename_i hhi _
    replace hE1 := hE1 ⟨hlo, hhi⟩
    refine G ?_
    refine ⟨[4,5,7,11,8,0,1,2,3,6,9,10,12,13], [], [], [67], by kernel_rfl, ?_⟩
    refine G ?_
    refine ⟨fun v I' => ∃ kb kc, v = .slice kb 1 kc ∧ BytesAt I' (bigB n 1) v, big_law (n := 1) (by omega) fun I' kb kc _ hb => ⟨rfl, kb, kc, rfl, hb⟩, ?_, ?_⟩
    ·obtain ⟨I', kb, kc, q1, q2⟩ := bytes_exists I4 (bigB n 1)
     rw [bigB_len] at q2
     exact ⟨_, I', q1, kb, kc, rfl, q2⟩
    rintro v I5 hi5 ⟨wb, wc, rfl, hwb⟩
    refine G ?_
    intro r
    refine G ?_
    repeat (refine ⟨rfl, ?_⟩; conv => whnf)
    refine ⟨D, hD, ?_⟩
    refine G ?_
    refine .inl fun bs2 I6 hi6 hcs2 => ?_
    refine G ?_
    obtain ⟨hl0, cs0, hsl0, hcl0, hrep0⟩ := hrow0.mono (hi5.trans hi6)
    refine .new 1 1 _ cs0.flatten ⟨rfl, by omega, rfl, hcs2⟩ rfl (by omega) hsl0 (row_one hcl0 fun i x c hx hc => (hrep0 i x c hx hc).1.one) (by rw [hb2]; omega) fun nb nc => ?_
    refine G ?_
    intro I7 hi7 hf7
    have hrow1 := row_app (l1 := [(D, bigB n 1)]) (l2 := [(C, bigB n N)]) (c1 := [_]) (c2 := cs0) (Rp := PcRep I7) hf7 hz2 (by simp; rfl) rfl (by simp) rfl hcl0
     (rows1 ⟨⟨.slice wb 1 wc, rfl, bytes_mono (hi6.trans hi7) hwb, by rw [bigB_len]; omega⟩, rfl⟩) (fun i x c hx hc => ⟨(hrep0 i x c hx hc).1.mono hi7, (hrep0 i x c hx hc).2⟩)
    refine G ?_
    refine L0 ?_
    refine h I7 _ _ (hle4.trans ((hi5.trans hi6).trans hi7)) hrow1 ⟨(C, bigB n N), List.mem_append_right _ (List.mem_singleton.2 rfl), hC.symm⟩ fun p hp => ?_
    rcases List.mem_append.1 hp with hp | hp
    ·obtain rfl := List.mem_singleton.1 hp; exact hE1
    ·exact hE0 p hp
   ·refine G ?_
    refine L0 ?_
    exact h I4 _ _ hle4 hrow0 ⟨_, List.mem_singleton.2 rfl, hC.symm⟩ hE0
  ·refine G ?_
   refine L0 ?_
   exact h I4 _ _ hle4 hrow0 ⟨_, List.mem_singleton.2 rfl, hC.symm⟩ hE0
 ·refine G ?_
  (split; omega); refine G ?_
  (split; omega); refine G ?_
  (split; omega); refine G ?_
  (split; omega); refine G ?_
  refine L0 ?_
  exact h I4 _ _ hle4 hrow0 ⟨_, List.mem_singleton.2 rfl, hC.symm⟩ hE0
end laws
theorem textE_len {c8 c32 : UInt8} {t e : List UInt8} (h : TextE c8 c32 t e) : e.length ≤ t.length + 5 := by
 cases h <;> simp
theorem encS_len {k : Int} {n : Nat} {t e : List UInt8} (h : EncS k n t e) : 0 < e.length ∧ e.length ≤ t.length + 9 := by
 cases h with
 | null => simp
 | bool h => generalize (n == 1) = q at h; cases h <;> simp
 | ubyte h => cases h <;> simp
 | ushort h => cases h <;> simp
 | uint h => cases h <;> simp
 | ulong h => cases h <;> simp
 | byte h => generalize sg n = m at h; cases h <;> simp
 | short h => generalize sg n = m at h; cases h <;> simp
 | int h => generalize sg n = m at h; cases h <;> simp
 | long h => generalize sg n = m at h; cases h <;> simp
 | float h => cases h <;> simp
 | double h => cases h <;> simp
 | time h => generalize sg n = m at h; cases h <;> simp
 | uuid h => cases h <;> simp
 | bin h => exact ⟨by cases h <;> simp, by have := textE_len h; omega⟩
 | str h => exact ⟨by cases h <;> simp, by have := textE_len h; omega⟩
 | sym h => exact ⟨by cases h <;> simp, by have := textE_len h; omega⟩
theorem scal_text {k : Int} {n : Nat} {t : List UInt8} (h : Scal k n t) : t.length ≤ 131072 := by cases h <;> simp_all
theorem scal_num {k : Int} {n : Nat} {t : List UInt8} (h : Scal k n t) : n < 18446744073709551616 := by cases h <;> omega
theorem scal_kind {k : Int} {n : Nat} {t : List UInt8} (h : Scal k n t) : (k = 0 ∨ k = 1 ∨ (2 ≤ k ∧ k ≤ 11) ∨ k = 16 ∨ k = 17 ∨ k = 18 ∨ k = 19 ∨ k = 20) ∧ (k ≤ 16 → t = []) ∧ (17 ≤ k → n = 0) := by cases h <;> simp
theorem lenF_text {c8 c32 : Nat} (h8 : c8 < 256) (h32 : c32 < 256) {t : List UInt8} {p : Nat × List UInt8} (h : LenF c8 c32 t none p) : p.1 < 256 ∧ TextE (UInt8.ofNat c8) (UInt8.ofNat c32) t (UInt8.ofNat p.1 :: p.2) := by
 cases h with
 | s h => exact ⟨h8, .s t _ (by rw [ofNat_toNat]; omega)⟩
 | l h =>
  refine ⟨h32, ?_⟩
  rw [bigB4]
  exact .l t _ _ _ _ (by rw [be4]; omega)
theorem row_lit1 {I : Imm} {p : Nat × List UInt8} {b : Nat} {cs : List Value} (hc : CellsAt I b 0 cs) (h : PcRep I p cs) : PsRep I [p] (.slice (some ⟨b, 0, none⟩) 1 1) :=
 row_lit (css := [cs]) (by simpa using hc) rfl (by simp) rfl (rows1 ⟨h, h.len⟩)
section laws
variable {I : Imm} {Q : Qt}
theorem pieces_sc {k o : Int} {n b : Nat} {s : Int} {sh : Bool} {t : List UInt8} {cs : List Value} (hr : VRep I (.mk k n t [] o []) cs) (hs : Scal k n t)
  (h : ∀ I' v l, I.le I' → PsRep I' l v → (∃ p ∈ l, (p.1 : Int) = lookN codedT k) → (∀ p ∈ l, PcE k n t p ∧ p.2.length + 1 ≤ 131200) → Q v [formC s sh] [] I') :
  WP Tryz.prog 63 #[ptr b, .agg cs.toArray] [(b, formC s sh)] [] I Q := by
 obtain ⟨kb, kc, db, dc, rfl, hvk, hvd, hkr, hnr, hor, _⟩ := hr.inv2
 have ht := scal_text hs
 have hn := scal_num hs
 obtain ⟨hk, hk2, hk3⟩ := scal_kind hs
 have bound : ∀ p : Nat × List UInt8, PcE k n t p → p.2.length + 1 ≤ 131200 := fun p hp => by
  have := (encS_len hp.2).2
  simp at this
  omega
 have fin : ∀ I' v l, I.le I' → PsRep I' l v → (∃ p ∈ l, (p.1 : Int) = lookN codedT k) → (∀ p ∈ l, PcE k n t p) → Q v [formC s sh] [] I' := fun I' v l g1 g2 g3 g4 => h I' v l g1 g2 g3 fun p hp => ⟨g4 p hp, bound p (g4 p hp)⟩
 clear h bound
 refine lw K63 [(0,1000)] [ptr b, .agg #[.int .i64 k, .int .u64 (n : Nat), strV t, .slice kb 0 kc, .int .i64 o, .slice db 0 dc]] Tryz.func63 ?_
 by_cases hnum : 2 ≤ k ∧ k ≤ 16
 ·obtain rfl := hk2 hnum.2
  refine G ?_
  intro b3
  refine G ?_
  repeat ((split; omega); refine G ?_)
  refine Cx [] ?_
  refine numbered_law hr hs hnum fun I' v l g1 g2 g3 g4 => ?_
  refine G ?_
  refine L0 ?_
  exact fin I' v l g1 g2 g3 g4
 have hk' : k = 0 ∨ k = 1 ∨ k = 17 ∨ k = 18 ∨ k = 19 ∨ k = 20 := by omega
 clear hk hnum
 rcases hk' with rfl | rfl | rfl | rfl | rfl | rfl
 ·obtain rfl := hk2 (by omega)
  cases hs
  refine G ?_
  intro b3
  refine G ?_
  refine .inl fun bp I1 hi1 hc1 => ?_
  refine G ?_
  refine L0 ?_
  refine fin I1 _ [(64, [])] hi1 (row_lit1 hc1 ⟨_, rfl, slAt_nil I1 1, by simp⟩) ⟨_, List.mem_singleton.2 rfl, by decide⟩ fun p hp => ?_
  obtain rfl := List.mem_singleton.1 hp
  exact ⟨by decide, .null⟩
 ·obtain rfl := hk2 (by omega)
  cases hs
  rename_i hn2
  have hn01 : n = 0 ∨ n = 1 := by omega
  rcases hn01 with rfl | rfl
  ·refine G ?_
   intro b3
   refine G ?_
   refine .inl fun bp I1 hi1 hc1 => ?_
   refine G ?_
   refine .inl fun bq I2 hi2 hc2 => ?_
   refine G ?_
   refine L0 ?_
   refine fin I2 _ [(66, []), (86, [0])] (hi1.trans hi2) (row_lit (css := [[_, _], [_, _]]) hc2 rfl (by simp) rfl (rowsC ⟨⟨_, rfl, slAt_nil I2 1, by simp⟩, rfl⟩ (rows1 ⟨⟨_, rfl, ⟨rfl, Nat.le_refl _, rfl, CellsAt.mono hi2 hc1⟩, by simp⟩, rfl⟩))) ⟨(86, [0]), by simp, by decide⟩ fun p hp => ?_
   rcases List.mem_cons.1 hp with rfl | hp
   ·exact ⟨by decide, .bool .f⟩
   ·obtain rfl := List.mem_singleton.1 hp
    exact ⟨by decide, .bool .lf⟩
  ·refine G ?_
   intro b3
   refine G ?_
   refine .inl fun bp I1 hi1 hc1 => ?_
   refine G ?_
   refine .inl fun bq I2 hi2 hc2 => ?_
   refine G ?_
   refine L0 ?_
   refine fin I2 _ [(65, []), (86, [1])] (hi1.trans hi2) (row_lit (css := [[_, _], [_, _]]) hc2 rfl (by simp) rfl (rowsC ⟨⟨_, rfl, slAt_nil I2 1, by simp⟩, rfl⟩ (rows1 ⟨⟨_, rfl, ⟨rfl, Nat.le_refl _, rfl, CellsAt.mono hi2 hc1⟩, by simp⟩, rfl⟩))) ⟨(86, [1]), by simp, by decide⟩ fun p hp => ?_
   rcases List.mem_cons.1 hp with rfl | hp
   ·exact ⟨by decide, .bool .t⟩
   ·obtain rfl := List.mem_singleton.1 hp
    exact ⟨by decide, .bool .lt⟩
 ·obtain rfl := hk3 (by omega)
  cases hs
  rename_i h16
  refine G ?_
  intro b3
  refine G ?_
  refine ⟨[0,1,3,4,2,5,6,7,8], [], [], [33], by kernel_rfl, ?_⟩
  refine G ?_
  refine ⟨fun v I' => v = .int .i64 152, coded_law ⟨rfl, rfl⟩, ⟨_, I, .refl I, rfl⟩, ?_⟩
  rintro v I1 hi1 rfl
  refine G ?_
  rintro ⟨bt, ct⟩
  refine G ?_
  refine .inl fun bp I2 hi2 hc2 => ?_
  refine G ?_
  refine ⟨⟨[], [], [], [36], ?_⟩⟩
  intro I3 hi3 hf3
  conv => whnf
  refine fin I3 _ [(152, t)] ((hi1.trans hi2).trans hi3) (row_lit1 (CellsAt.mono hi3 hc2) ⟨_, rfl, froz_bytes (n := t.length) hf3 ⟨_, _, rfl⟩ rfl, (show t.length < _ by omega)⟩) ⟨_, List.mem_singleton.2 rfl, (by decide : ((152 : Nat) : Int) = lookN codedT 17)⟩ fun p hp => ?_
  obtain rfl := List.mem_singleton.1 hp
  exact ⟨(by decide : (152 : Nat) < 256), .uuid (.s t h16)⟩
 ·obtain rfl := hk3 (by omega)
  refine G ?_
  intro b3
  refine G ?_
  refine .inl fun bt ct I1 hi1 hct hbt => ?_
  refine G ?_
  refine Cx [] ?_
  refine lengthed_n (short := 160) (long := 176) (data := t) (show BytesAt I1 t (.slice (some ⟨bt, 0, none⟩) t.length ct) from ⟨rfl, hct, by simp, hbt⟩) (by omega) fun I2 v l hi2 hrow hlong hF => ?_
  refine G ?_
  refine L0 ?_
  refine fin I2 v l (hi1.trans hi2) hrow ?_ fun p hp => ?_
  ·obtain ⟨p, hp, e, _⟩ := hlong
   exact ⟨p, hp, by rw [e]; rfl⟩
  ·obtain ⟨q1, q2⟩ := lenF_text (by decide) (by decide) (hF p hp)
   exact ⟨q1, .bin q2⟩
 ·obtain rfl := hk3 (by omega)
  refine G ?_
  intro b3
  refine G ?_
  refine .inl fun bt ct I1 hi1 hct hbt => ?_
  refine G ?_
  refine Cx [] ?_
  refine lengthed_n (short := 161) (long := 177) (data := t) (show BytesAt I1 t (.slice (some ⟨bt, 0, none⟩) t.length ct) from ⟨rfl, hct, by simp, hbt⟩) (by omega) fun I2 v l hi2 hrow hlong hF => ?_
  refine G ?_
  refine L0 ?_
  refine fin I2 v l (hi1.trans hi2) hrow ?_ fun p hp => ?_
  ·obtain ⟨p, hp, e, _⟩ := hlong
   exact ⟨p, hp, by rw [e]; rfl⟩
  ·obtain ⟨q1, q2⟩ := lenF_text (by decide) (by decide) (hF p hp)
   exact ⟨q1, .str q2⟩
 ·obtain rfl := hk3 (by omega)
  refine G ?_
  intro b3
  refine G ?_
  refine .inl fun bt ct I1 hi1 hct hbt => ?_
  refine G ?_
  refine Cx [] ?_
  refine lengthed_n (short := 163) (long := 179) (data := t) (show BytesAt I1 t (.slice (some ⟨bt, 0, none⟩) t.length ct) from ⟨rfl, hct, by simp, hbt⟩) (by omega) fun I2 v l hi2 hrow hlong hF => ?_
  refine G ?_
  refine L0 ?_
  refine fin I2 v l (hi1.trans hi2) hrow ?_ fun p hp => ?_
  ·obtain ⟨p, hp, e, _⟩ := hlong
   exact ⟨p, hp, by rw [e]; rfl⟩
  ·obtain ⟨q1, q2⟩ := lenF_text (by decide) (by decide) (hF p hp)
   exact ⟨q1, .sym q2⟩
end laws
def shortT : List (Nat × Nat) := [(4, 82), (5, 83), (8, 84), (9, 85), (18, 160), (19, 161), (20, 163)]
theorem arr_codes {k : Int} (hk : arrK k) : ∃ S C : Nat, lookN shortT k = S ∧ lookN codedT k = C ∧ S < 256 ∧ C < 256 ∧ C ≠ 0 := by
 unfold arrK at hk
 have : k = 1 ∨ k = 2 ∨ k = 3 ∨ k = 4 ∨ k = 5 ∨ k = 6 ∨ k = 7 ∨ k = 8 ∨ k = 9 ∨ k = 10 ∨ k = 11 ∨ k = 16 ∨ k = 17 ∨ k = 18 ∨ k = 19 ∨ k = 20 := by omega
 rcases this with rfl | rfl | rfl | rfl | rfl | rfl | rfl | rfl | rfl | rfl | rfl | rfl | rfl | rfl | rfl | rfl <;> exact ⟨_, _, rfl, rfl, by decide, by decide, by decide⟩
section laws
variable {I : Imm} {Q : Qt}
theorem elements_law {k : Int} {b : Nat} {s : Int} {sh : Bool} {l : List V} {v : Value} (hv : VsRep I l v) (hk : arrK k) (hl : ∀ (i : Nat) (x : V), l[i]? = some x → ∃ n t o, x = .mk k n t [] o [] ∧ Scal k n t) (hn : l.length ≤ 2000)
  (h : ∀ I' v' ps, I.le I' → PsRep I' ps v' → ps ≠ [] → (∀ p ∈ ps, p.1 < 256 ∧ ArrE k l (UInt8.ofNat p.1) p.2 ∧ p.2.length ≤ l.length * 131200 ∧ ((p.1 : Int) = lookN shortT k ∨ (p.1 : Int) = lookN codedT k)) → Q v' [formC s sh] [] I') :
  WP Tryz.prog 175 #[ptr b, .int .i64 k, v] [(b, formC s sh)] [] I Q := by
 obtain ⟨S, C, hS, hC, hS2, hC2, hC0⟩ := arr_codes hk
 obtain ⟨base, cap, rfl⟩ := hv.form
 have hb2 : ti151.bytes = 32 := by kernel_rfl
 have hb1 : ti5.bytes = 1 := by kernel_rfl
 have hz2 : ti151.size = 2 := by kernel_rfl
 have hz1 : ti5.size = 1 := by kernel_rfl
 refine lw K175 [(0,1000)] [ptr b, .int .i64 k, .slice base l.length cap] Tryz.func175 ?_
 refine G ?_
 intro r
 refine G ?_
 repeat (refine ⟨rfl, ?_⟩; conv => whnf)
 refine ⟨[0,1,3,7,4,2,5,6], [], [], [24], by kernel_rfl, ?_⟩
 refine G ?_
 refine ⟨fun v I' => v = .int .i64 (C : Nat), coded_law ⟨rfl, by rw [hC]⟩, ⟨_, I, .refl I, rfl⟩, ?_⟩
 rintro v Ia hia rfl
 refine G ?_
 refine ⟨rfl, S, hS, ?_⟩
 refine G ?_
 refine .inl fun bf I0 hi0 hcf => ?_
 replace hi0 : I.le I0 := hia.trans hi0
 refine G ?_
 generalize hM : (Res.lmap r _) = M
 refine ⟨⟨[8, 27], [], [(900, 2)], fun m vs cs R I' => ∃ (i : Nat) (ps : List (Nat × List UInt8)) (kb : Option Addr) (kc : Nat) (cells : List (List Value)), vs = [.slice kb ps.length kc, .int .i64 (i : Nat)] ∧ cs = [] ∧ i ≤ 2 ∧ m = 2 - i ∧
   R = [(18, M), (900, .vec (.slice kb ps.length kc) 2 cells.flatten)] ∧ ps.length ≤ i ∧ cells.length = ps.length ∧ (∀ (j : Nat) (x : Nat × List UInt8) (c : List Value), ps[j]? = some x → cells[j]? = some c → PcRep I' x c) ∧
   (∀ p ∈ ps, p.1 < 256 ∧ ArrE k l (UInt8.ofNat p.1) p.2 ∧ p.2.length ≤ l.length * 131200 ∧ ((p.1 : Int) = lookN shortT k ∨ (p.1 : Int) = lookN codedT k)) ∧ (i = 2 → ps ≠ []),
  2, _, _, rfl, rfl, ⟨0, [], none, 0, [], rfl, rfl, by omega, rfl, rfl, by simp, rfl, by simp, by simp, by simp⟩, ?_⟩⟩
 rintro m vs cs R I1 hI _ _ ⟨i, ps, kb, kc, cells, rfl, rfl, hi, rfl, rfl, hli, hcl, hrep, hF, hne⟩
 replace hI : I0.le I1 := hI
 refine G ?_
 split
 ·rename_i hlt _
  have hi' : i < 2 := by omega
  obtain ⟨c, hc, hcell, hc1, hcT⟩ : ∃ c : Nat, c < 256 ∧ CellsAt I1 bf (0 + i * 1) [.int .i64 (c : Nat)] ∧ (i = 1 → c = C) ∧ ((c : Int) = lookN shortT k ∨ (c : Int) = lookN codedT k) := by
   have : i = 0 ∨ i = 1 := by omega
   rcases this with rfl | rfl
   ·exact ⟨S, hS2, fun j x e => hI.c (by
     match j, e with
     | 0, e => exact hcf 0 x e
     | j + 1, e => simp at e), by omega, .inl hS.symm⟩
   ·exact ⟨C, hC2, fun j x e => hI.c (by
     match j, e with
     | 0, e => exact hcf 1 x e
     | j + 1, e => simp at e), fun _ => rfl, .inr hC.symm⟩
  refine G ?_
  refine ⟨_, _, _, _, i, rfl, rfl, hi', ?_⟩
  refine G ?_
  refine ⟨_, .imm hcell, ?_⟩
  refine G ?_
  split
  all_goals
  rename_i hz _
  refine G ?_
  refine ⟨⟨[11, 12, 35], [], [(901, 1)], fun m vs cs R I' => ∃ (j : Nat) (data : List UInt8) (al : Bool) (kb2 : Option Addr) (kc2 : Nat), vs = [.slice kb2 data.length kc2, .bool al, .int .i64 (j : Nat)] ∧ cs = [] ∧ j ≤ l.length ∧ m = l.length - j ∧
    R = [(18, M), (900, .vec (.slice kb ps.length kc) 2 cells.flatten), (901, .vec (.slice kb2 data.length kc2) 1 (data.map byteV))] ∧ data.length ≤ j * 131200 ∧ (c = C → al = true) ∧
    (al = true → ∃ ds : List (List UInt8), ds.length = j ∧ data = ds.flatten ∧ ∀ (i : Nat) (x : V) (d : List UInt8), l[i]? = some x → ds[i]? = some d → EncS k x.num x.text (UInt8.ofNat c :: d)),
   l.length, _, _, rfl, rfl, ⟨0, [], _, none, 0, rfl, rfl, by omega, rfl, rfl, by simp, fun e => by first | rfl | omega, fun _ => ⟨[], rfl, rfl, by simp⟩⟩, ?_⟩⟩
  rintro m vs cs R I2 hI2 _ _ ⟨j, data, al, kb2, kc2, rfl, rfl, hj, rfl, rfl, hdl, hal1, hal2⟩
  replace hI2 : I1.le I2 := hI2
  have hv2 := hv.mono (hi0.trans (hI.trans hI2))
  refine G ?_
  split
  ·
   rename_i hjlt _
   have hj' : j < l.length := by omega
   obtain ⟨n, t, o, hx, hsc⟩ := hl j l[j] (by simp [hj'])
   obtain ⟨vb, vo, rfl, _⟩ := hv2.some (by omega)
   obtain ⟨cx, hcx, hcc⟩ := hv2.get (i := j) (x := l[j]) (by simp [hj'])
   rw [hx] at hcx
   obtain ⟨xb, xc, xd, xe, rfl, hkx, _, hkr, hnr, hor, htr⟩ := hcx.inv2
   refine G ?_
   refine ⟨_, _, _, _, j, rfl, rfl, hj', ?_⟩
   refine G ?_
   refine ⟨_, .imm hcc, rfl, ?_⟩
   refine G ?_
   intro b14
   refine G ?_
   refine Cx [1000] ?_
   refine pieces_sc (n := n) (t := t) (o := o) (VRep.intro hkr hnr hor htr hkx (.nil I2)) hsc fun I3 pv pl hi3 hrow hfull hE => ?_
   obtain ⟨pb, pc, rfl⟩ := Row.form hrow
   refine G ?_
   refine ⟨⟨[11, 15, 44], [], [], fun m vs cs R I' => ∃ (q : Nat) (d : List UInt8) (fnd : Bool) (kb3 : Option Addr) (kc3 : Nat), vs = [.slice kb3 (data.length + d.length) kc3, .bool fnd, .int .i64 (q : Nat)] ∧ cs = [] ∧ q ≤ pl.length ∧ m = pl.length - q ∧
     R = [(18, M), (900, .vec (.slice kb ps.length kc) 2 cells.flatten), (901, .vec (.slice kb3 (data.length + d.length) kc3) 1 ((data ++ d).map byteV))] ∧ d.length ≤ 131200 ∧ (fnd = true → EncS k n t (UInt8.ofNat c :: d)) ∧
     (fnd = false → d = [] ∧ ∀ (i : Nat) (p : Nat × List UInt8), i < q → pl[i]? = some p → p.1 ≠ c),
    pl.length, _, _, rfl, rfl, ⟨0, [], false, kb2, kc2, rfl, rfl, by omega, rfl, by rw [List.append_nil]; rfl, by simp, fun e => (by cases e), fun _ => ⟨rfl, fun i p hi => (by omega)⟩⟩, ?_⟩⟩
   rintro m vs cs R I4 hI4 _ _ ⟨q, d, fnd, kb3, kc3, rfl, rfl, hq, rfl, rfl, hdle, hf1, hf2⟩
   replace hI4 : I3.le I4 := hI4
   have hrow4 := hrow.mono hI4
   have hpll := hrow.1
   refine G ?_
   split
   ·rename_i hqlt _
    have hq' : q < pl.length := by omega
    obtain ⟨qb, qo, rfl, _⟩ := Row.some hrow4 (by omega)
    obtain ⟨cp, ⟨sv, rfl, hsv, hsl⟩, _, hcp⟩ := Row.get hrow4 (i := q) (x := pl[q]) (by simp [hq'])
    obtain ⟨sb, sc, rfl⟩ := bytes_form hsv
    obtain ⟨hpe, hple⟩ := hE pl[q] (by simp)
    refine G ?_
    refine ⟨_, _, _, _, q, rfl, rfl, hq', ?_⟩
    refine G ?_
    refine ⟨_, .imm hcp, rfl, ?_⟩
    refine G ?_
    intro b17
    refine G ?_
    split
    ·rename_i heq _
     have heq' : pl[q].1 = c := by omega
     cases fnd with
     | true =>
      refine G ?_
      refine ⟨pl.length - (q + 1), _, _, by omega, rfl, rfl, rfl, rfl, .inl ⟨q + 1, d, true, kb3, kc3, rfl, rfl, hq', rfl, rfl, hdle, hf1, by simp⟩⟩
     | false =>
      obtain ⟨rfl, hnone⟩ := hf2 rfl
      refine G ?_
      refine .own 901 (data.length + 0) pl[q].2.length _ _ rfl rfl hsv (oneAll_bytes _) (by rw [hb1]; omega) fun nb nc => ?_
      refine G ?_
      refine ⟨pl.length - (q + 1), _, _, by omega, rfl, rfl, rfl, rfl, .inl ⟨q + 1, pl[q].2, true, nb, nc, rfl, rfl, hq', rfl, ?_, by omega, fun _ => ?_, by simp⟩⟩
      ·rw [List.append_nil, ← List.map_append]; rfl
      ·rw [← heq']; exact hpe.2
    ·rename_i hne' _
     refine G ?_
     refine ⟨pl.length - (q + 1), _, _, by omega, rfl, rfl, rfl, rfl, .inl ⟨q + 1, d, fnd, kb3, kc3, rfl, rfl, hq', rfl, rfl, hdle, hf1, fun e => ⟨(hf2 e).1, fun i p hip hp => ?_⟩⟩⟩
     by_cases hiq : i < q
     ·exact (hf2 e).2 i p hiq hp
     ·obtain rfl : i = q := by omega
      simp [hq'] at hp
      subst hp
      omega
   ·rename_i hqge _
    refine G ?_
    have hfound : c = C → fnd = true := fun hcC => by
     cases fnd with
     | true => rfl
     | false =>
      obtain ⟨p, hp, e⟩ := hfull
      have e' : (p.1 : Int) = C := by rw [← hC]; exact e
      obtain ⟨i, hi⟩ := List.mem_iff_getElem?.1 hp
      have := (hf2 rfl).2 i p (by have := (List.getElem?_eq_some_iff.1 hi).1; omega) hi
      omega
    have hlen : (data ++ d).length ≤ (j + 1) * 131200 := by rw [List.length_append]; omega
    have fin : ∀ al' : Bool, al' = (al && fnd) → (c = C → al' = true) ∧ (al' = true → ∃ ds : List (List UInt8), ds.length = j + 1 ∧ data ++ d = ds.flatten ∧ ∀ (i : Nat) (x : V) (d : List UInt8), l[i]? = some x → ds[i]? = some d → EncS k x.num x.text (UInt8.ofNat c :: d)) := fun al' e => by
     subst e
     refine ⟨fun hcC => by rw [hal1 hcC, hfound hcC]; rfl, fun e => ?_⟩
     rw [Bool.and_eq_true] at e
     obtain ⟨ds, g1, g2, g3⟩ := hal2 e.1
     refine ⟨ds ++ [d], by simp [g1], by rw [g2]; simp, fun i x d' hxi hdi => ?_⟩
     by_cases hij : i < j
     ·rw [List.getElem?_append_left (by omega)] at hdi
      exact g3 i x d' hxi hdi
     ·have : i = j := by
       have := (List.getElem?_eq_some_iff.1 hdi).1
       simp at this; omega
      subst this
      rw [List.getElem?_append_right (by omega), g1] at hdi
      simp at hdi
      simp [hj'] at hxi
      subst hdi hxi
      rw [hx]
      exact hf1 e.2
    cases al <;> cases fnd
    all_goals
    refine G ?_
    refine ⟨l.length - (j + 1), _, _, by omega, rfl, rfl, rfl, rfl, .inl ⟨j + 1, data ++ d, _, kb3, kc3, by rw [List.length_append]; rfl, rfl, hj', rfl, by rw [List.length_append], hlen, (fin _ rfl).1, (fin _ rfl).2⟩⟩
  ·rename_i hjge _
   obtain rfl : j = l.length := by omega
   cases al with
   | false =>
    refine G ?_
    refine ⟨2 - (i + 1), _, _, by omega, rfl, rfl, rfl, rfl, .inr ⟨[901], ?_⟩⟩
    conv => whnf
    intro I3 hi3 hf3
    refine ⟨i + 1, ps, kb, kc, cells, rfl, rfl, hi', rfl, rfl, by omega, hcl, fun j x c hx hc => (hrep j x c hx hc).mono (hI2.trans hi3), hF, fun e => ?_⟩
    have := hal1 (hc1 (by omega))
    cases this
   | true =>
    obtain ⟨ds, g1, g2, g3⟩ := hal2 rfl
    refine G ?_
    refine .inl fun bp I3 hi3 hcp => ?_
    refine G ?_
    refine .own 900 ps.length 1 cells.flatten [.int .i64 (c : Nat), .slice kb2 data.length kc2] rfl rfl ⟨rfl, by omega, rfl, hcp⟩ rfl (by rw [hb2]; omega) fun nb3 nc3 => ?_
    refine G ?_
    refine ⟨2 - (i + 1), _, _, by omega, rfl, rfl, rfl, rfl, .inr ⟨[901], ?_⟩⟩
    conv => whnf
    intro I4 hi4 hf4
    have hdat : BytesAt I4 data (.slice kb2 data.length kc2) := froz_bytes (n := data.length) hf4 ⟨_, _, rfl⟩ rfl
    refine ⟨i + 1, ps ++ [(c, data)], nb3, nc3, cells ++ [[.int .i64 (c : Nat), .slice kb2 data.length kc2]], ?_, rfl, hi', rfl, ?_, by simp only [List.length_append, List.length_cons, List.length_nil]; omega, by simp [hcl], ?_, ?_, by simp⟩
    ·rw [List.length_append]; rfl
    ·rw [List.length_append, ← flat_snoc]; rfl
    ·exact rows_snoc hcl hrep (fun x c hx => hx.mono ((hI2.trans hi3).trans hi4)) ⟨_, rfl, hdat, (show data.length < _ by omega)⟩
    ·intro p hp
     rcases List.mem_append.1 hp with hp | hp
     ·exact hF p hp
     ·obtain rfl := List.mem_singleton.1 hp
      exact ⟨hc, ⟨ds, g1, g2, g3⟩, hdl, hcT⟩
 ·rename_i hge _
  refine G ?_
  refine ⟨⟨[], [], [], [900], ?_⟩⟩
  intro I2 hi2 hfz
  conv => whnf
  exact h I2 _ ps ((hi0.trans hI).trans hi2) (row_vec hfz (by omega) hcl fun j x c hx hc => ⟨(hrep j x c hx hc).mono hi2, (hrep j x c hx hc).len⟩) (hne (by omega)) hF
end laws
theorem plus0_mk {a b : Nat} {c : Nat → Prop} (h : c (a + b)) : plus0 a b c := by
 unfold plus0
 split
 ·exact h
 ·rw [Nat.zero_add] at h; exact h
 ·exact h
theorem ofNat_eq {c : Nat} {y : UInt8} (hc : c < 256) (h : UInt8.ofNat c = y) : c = y.toNat := by rw [← h, ofNat_toNat]; omega
theorem encS_data {k : Int} {n c : Nat} {t d : List UInt8} (hk : arrK k) (hc : c < 256) (hcT : (c : Int) = lookN shortT k ∨ (c : Int) = lookN codedT k) (h : EncS k n t (UInt8.ofNat c :: d)) : 0 < d.length := by
 generalize he : UInt8.ofNat c :: d = e at h
 unfold arrK at hk
 have key : ∀ {y : UInt8} {r : List UInt8}, UInt8.ofNat c :: d = y :: r → c = y.toNat ∧ d = r := fun h => by
  simp only [List.cons.injEq] at h
  exact ⟨ofNat_eq hc h.1, h.2⟩
 cases h with
 | null => omega
 | bool h =>
  generalize (n == 1) = q at h
  cases h <;> obtain ⟨g1, rfl⟩ := key he <;> first | (simp; done) | (subst g1; exact absurd hcT (by decide))
 | ubyte h => cases h; obtain ⟨g1, rfl⟩ := key he; simp
 | ushort h => cases h; obtain ⟨g1, rfl⟩ := key he; simp
 | uint h => cases h <;> obtain ⟨g1, rfl⟩ := key he <;> first | (simp; done) | (subst g1; exact absurd hcT (by decide))
 | ulong h => cases h <;> obtain ⟨g1, rfl⟩ := key he <;> first | (simp; done) | (subst g1; exact absurd hcT (by decide))
 | byte h => generalize sg n = m at h; cases h; obtain ⟨g1, rfl⟩ := key he; simp
 | short h => generalize sg n = m at h; cases h; obtain ⟨g1, rfl⟩ := key he; simp
 | int h => generalize sg n = m at h; cases h <;> obtain ⟨g1, rfl⟩ := key he <;> simp
 | long h => generalize sg n = m at h; cases h <;> obtain ⟨g1, rfl⟩ := key he <;> simp
 | float h => cases h; obtain ⟨g1, rfl⟩ := key he; simp
 | double h => cases h; obtain ⟨g1, rfl⟩ := key he; simp
 | time h => generalize sg n = m at h; cases h; obtain ⟨g1, rfl⟩ := key he; simp
 | uuid h => cases h with | s h => obtain ⟨g1, rfl⟩ := key he; omega
 | bin h => cases h <;> obtain ⟨g1, rfl⟩ := key he <;> simp
 | str h => cases h <;> obtain ⟨g1, rfl⟩ := key he <;> simp
 | sym h => cases h <;> obtain ⟨g1, rfl⟩ := key he <;> simp
theorem flatten_len {α : Type} : ∀ {ds : List (List α)}, (∀ d ∈ ds, 0 < d.length) → ds.length ≤ ds.flatten.length
 | [], _ => by simp
 | d :: ds, h => by
  have h1 := h d (by simp)
  have h2 := flatten_len (ds := ds) fun x hx => h x (by simp [hx])
  simp only [List.flatten_cons, List.length_append, List.length_cons]
  omega
theorem arrE_len {k : Int} {ks : List V} {c : Nat} {data : List UInt8} (hk : arrK k) (hc : c < 256) (hcT : (c : Int) = lookN shortT k ∨ (c : Int) = lookN codedT k) (h : ArrE k ks (UInt8.ofNat c) data) : ks.length ≤ data.length := by
 obtain ⟨ds, h1, rfl, h2⟩ := h
 rw [← h1]
 refine flatten_len fun d hd => ?_
 obtain ⟨i, hi⟩ := List.mem_iff_getElem?.1 hd
 have hil : i < ks.length := by rw [← h1]; exact (List.getElem?_eq_some_iff.1 hi).1
 exact encS_data hk hc hcT (h2 i ks[i] d (by simp [hil]) hi)
theorem lenF_head {c8 c32 : Nat} (h8 : c8 < 256) (h32 : c32 < 256) {n : Nat} {body : List UInt8} {p : Nat × List UInt8} (h : LenF c8 c32 body (some n) p) (hn : n ≤ body.length) (hn2 : n ≤ 65536) :
  p.1 < 256 ∧ p.2.length ≤ body.length + 8 ∧ ∃ hd, HeadE (UInt8.ofNat c8) (UInt8.ofNat c32) n hd body ∧ UInt8.ofNat p.1 :: p.2 = hd ++ body := by
 cases h with
 | sc h hc =>
  refine ⟨h8, by simp, [UInt8.ofNat c8, UInt8.ofNat (body.length + 1), UInt8.ofNat n], ?_, rfl⟩
  have e : (UInt8.ofNat n).toNat = n := by rw [ofNat_toNat]; omega
  have := HeadE.s (c8 := UInt8.ofNat c8) (c32 := UInt8.ofNat c32) (UInt8.ofNat (body.length + 1)) (UInt8.ofNat n) body (by rw [ofNat_toNat]; omega) (by rw [e]; exact hn)
  rw [e] at this
  exact this
 | lc h =>
  refine ⟨h32, by simp [bigB_len]; omega, UInt8.ofNat c32 :: (bigB (body.length + 4) 4 ++ bigB n 4), ?_, by simp⟩
  rw [bigB4, bigB4]
  exact .l _ _ _ _ _ _ _ _ body n (by rw [be4]; omega) (by rw [be4]; omega) hn hn2
section laws
variable {I : Imm} {Q : Qt}
theorem array_law {k o : Int} {b : Nat} {s : Int} {sh : Bool} {ks : List V} {cs : List Value} (hr : VRep I (.mk 23 0 [] ks o []) cs) (hs : 0 ≤ s ∧ s < 18446744073709551616) (hk : arrK k) (hn : 0 < ks.length) (hn2 : ks.length ≤ 2000)
  (hl : ∀ (i : Nat) (x : V), ks[i]? = some x → ∃ n t o, x = .mk k n t [] o [] ∧ Scal k n t)
  (h : ∀ (s' : Int) I' v l, (0 ≤ s' ∧ s' < 18446744073709551616) → I.le I' → PsRep I' l v → l ≠ [] → (∀ p ∈ l, p.1 < 256 ∧ Enc (.mk 23 0 [] ks o []) (UInt8.ofNat p.1 :: p.2) ∧ p.2.length + 1 ≤ (1 + ks.length) * 131200) → Q v [formC s' sh] [] I') :
  WP Tryz.prog 89 #[ptr b, .agg cs.toArray] [(b, formC s sh)] [] I Q := by
 obtain ⟨kb, kc, db, dc, rfl, hvk, hvd, hkr, hnr, hor, _⟩ := hr.inv2
 replace hvk : VsRep I ks (.slice kb ks.length kc) := hvk
 obtain ⟨x0, o0, rfl, _⟩ := hvk.some hn
 obtain ⟨c0, hc0, hcc0⟩ := hvk.get (i := 0) (x := ks[0]) (by simp [hn])
 obtain ⟨n0, t0, p0, hx0, hsc0⟩ := hl 0 ks[0] (by simp [hn])
 rw [hx0] at hc0
 obtain ⟨xb, xc, xd, xe, rfl, _⟩ := hc0.inv2
 have hb1 : ti5.bytes = 1 := by kernel_rfl
 refine lw K89 [(0,1000)] [ptr b, .agg #[.int .i64 23, .int .u64 0, strV [], .slice (some ⟨x0, o0, none⟩) ks.length kc, .int .i64 o, .slice db 0 dc]] Tryz.func89 ?_
 refine G ?_
 intro b3
 refine G ?_
 (split; rotate_left; omega); refine G ?_
 refine ⟨_, _, _, _, 0, rfl, rfl, hn, ?_⟩
 refine G ?_
 refine ⟨_, .imm (show CellsAt I x0 (o0 + 0 * 6 + 0) [.int .i64 k] from fun j x e => by
  match j, e with
  | 0, e => exact hcc0 0 x e
  | j + 1, e => simp at e), ?_⟩
 refine G ?_
 refine Cx [1000] ?_
 refine elements_law hvk hk hl hn2 fun I1 v1 ps hi1 hrow hne hF => ?_
 obtain ⟨pb, pc, rfl⟩ := Row.form hrow
 have hpl := hrow.1
 have hpos : 0 < ps.length := List.length_pos_iff.2 hne
 refine G ?_
 refine Cx [1000] ?_
 refine pick_law (n := ps.length) ⟨hpos, by omega⟩ hs fun s' v hv hs' => ?_
 obtain ⟨qb, qo, rfl, _⟩ := Row.some hrow hpos
 obtain ⟨cp, ⟨sv, rfl, hsv, hsl⟩, _, hcp⟩ := Row.get hrow (i := v) (x := ps[v]) (by simp [hv])
 obtain ⟨sb, sc, rfl⟩ := bytes_form hsv
 obtain ⟨f1, f2, f3, f4⟩ := hF ps[v] (by simp)
 refine G ?_
 refine ⟨_, _, _, _, v, rfl, rfl, hv, ?_⟩
 refine G ?_
 refine ⟨_, .imm hcp, rfl, ?_⟩
 refine G ?_
 intro b7
 refine G ?_
 have hbv : [byteV (UInt8.ofNat ps[v].1)] = [.int .u8 (ps[v].1 : Nat)] := by rw [byteV_ofNat, Nat.mod_eq_of_lt f1]
 refine .inr ⟨35, rfl, fun b35 => ?_⟩
 refine G ?_
 refine .own 35 1 ps[v].2.length _ _ rfl rfl hsv (oneAll_bytes _) (by rw [hb1]; omega) fun nb nc => ?_
 refine G ?_
 (split; rotate_left; omega); refine G ?_
 refine ⟨_, _, _, _, 0, rfl, rfl, hn, ?_⟩
 refine G ?_
 refine plus0_mk ?_
 refine G ?_
 refine ⟨_, .imm (show CellsAt I1 x0 (o0 + 0 * 6 + 5) [.slice xd 0 xe] from fun j x e => hi1.c (by
  match j, e with
  | 0, e => exact hcc0 5 x e
  | j + 1, e => simp at e)), ?_⟩
 refine G ?_
 refine Cx [] ?_ [] [35]
 intro I2 hi2 hf2
 have hdat : BytesAt I2 (UInt8.ofNat ps[v].1 :: ps[v].2) (.slice nb (1 + ps[v].2.length) nc) := froz_bytesG (n := 1 + ps[v].2.length) hf2 (by kernel_rfl) (by rw [List.map_cons, ← List.singleton_append, hbv]; rfl) ⟨_, _, rfl⟩ (by simp; omega)
 have hml := arrE_len hk f1 f4 f2
 conv => whnf
 refine lengthed_c (c := ks.length) (short := 224) (long := 240) hdat (by simp; omega) (by omega) fun I3 v3 l3 hi3 hrow3 hlong hF3 => ?_
 refine G ?_
 refine L0 ?_
 refine h s' I3 v3 l3 hs' ((hi1.trans hi2).trans hi3) hrow3 (by obtain ⟨p, hp, _⟩ := hlong; exact List.ne_nil_of_mem hp) fun p hp => ?_
 obtain ⟨q1, q2, hd, q3, q4⟩ := lenF_head (by decide) (by decide) (hF3 p hp) (by simp; omega) (by omega)
 refine ⟨q1, ?_, ?_⟩
 ·rw [q4]
  exact .arr f2 (fun i x hx => by obtain ⟨n, t, o, rfl, _⟩ := hl i x hx; rfl) q3
 ·simp only [List.length_cons] at q2
  omega
end laws
def Rng (s : Int) : Prop := 0 ≤ s ∧ s < 18446744073709551616
def PutP (x : V) : Prop := ∀ (I : Imm) (b : Nat) (s : Int) (sh : Bool) (cs : List Value) (Q : Qt), VRep I x cs → Rng s →
 (∀ (s' : Int) I' kb kc e, Rng s' → I.le I' → Enc x e → e.length ≤ x.cnt * 131200 → Q (.slice kb e.length kc) [formC s' sh] [.vec (.slice kb e.length kc) 1 (e.map byteV)] I') → WP Tryz.prog 32 #[.agg cs.toArray, ptr b] [(b, formC s sh)] [] I Q
def strip (x : V) : V := .mk x.kind x.num x.text x.kids x.of []
def PcW (x : V) (p : Nat × List UInt8) : Prop := p.1 < 256 ∧ Enc (strip x) (UInt8.ofNat p.1 :: p.2) ∧ p.2.length + 1 ≤ (1 + cntL x.kids) * 131200
def PcsP (x : V) : Prop := ∀ (I : Imm) (b : Nat) (s : Int) (sh : Bool) (cs : List Value) (Q : Qt), VRep I x cs → Rng s →
 (∀ (s' : Int) I' v l, Rng s' → I.le I' → PsRep I' l v → l ≠ [] → (∀ p ∈ l, PcW x p) → Q v [formC s' sh] [] I') → WP Tryz.prog 63 #[ptr b, .agg cs.toArray] [(b, formC s sh)] [] I Q
theorem PutP.froz {x : V} (hp : PutP x) {I : Imm} {b : Nat} {s : Int} {sh : Bool} {cs : List Value} {Q : Qt} (hr : VRep I x cs) (hs : Rng s)
  (h : ∀ (s' : Int) I' kb kc e, Rng s' → I.le I' → Enc x e → e.length ≤ x.cnt * 131200 → BytesAt I' e (.slice kb e.length kc) → Q (.slice kb e.length kc) [formC s' sh] [] I') : WP Tryz.prog 32 #[.agg cs.toArray, ptr b] [(b, formC s sh)] [] I Q :=
 WP.froz (hp _ _ _ _ _ _ hr hs fun s' I1 kb kc e hs' hi he hl I2 hi2 hf => h s' I2 kb kc e hs' (hi.trans hi2) he hl (froz_bytes (n := e.length) (hf _ (by simp)) ⟨_, _, rfl⟩ rfl))
theorem enc_pos {x : V} {e : List UInt8} (h : Enc x e) : 0 < e.length := by
 cases h with
 | sc h => exact (encS_len h).1
 | list hl h hh =>
  rename_i ks _ _ _
  generalize ks.length = m at hh
  generalize List.flatten _ = bd at hh ⊢
  cases hh with
  | z => simp
  | h hh => cases hh <;> simp
 | map hl h hh =>
  rename_i ks _ _ _
  generalize ks.length = m at hh
  cases hh <;> simp
 | arr h hk hh =>
  rename_i ks _ _ _ _ _
  generalize ks.length = m at hh
  cases hh <;> simp
 | comp hc hl h hh => simp
section laws
variable {I : Imm} {Q : Qt}
theorem pieces_list {o : Int} {ks ds : List V} (hput : ∀ (i : Nat) (y : V), ks[i]? = some y → PutP y) (hn : cntL ks ≤ 2000) {b : Nat} {s : Int} {sh : Bool} {cs : List Value} (hr : VRep I (.mk 21 0 [] ks o ds) cs) (hs : Rng s)
  (h : ∀ (s' : Int) I' v l, Rng s' → I.le I' → PsRep I' l v → l ≠ [] → (∀ p ∈ l, p.1 < 256 ∧ Enc (.mk 21 0 [] ks o []) (UInt8.ofNat p.1 :: p.2) ∧ p.2.length + 1 ≤ (1 + cntL ks) * 131200) → Q v [formC s' sh] [] I') :
  WP Tryz.prog 63 #[ptr b, .agg cs.toArray] [(b, formC s sh)] [] I Q := by
 obtain ⟨kb, kc, db, dc, rfl, hvk, hvd, hkr, hnr, hor, _⟩ := hr.inv2
 replace hvk : VsRep I ks (.slice kb ks.length kc) := hvk
 have hb1 : ti5.bytes = 1 := by kernel_rfl
 have hb2 : ti151.bytes = 32 := by kernel_rfl
 have hz2 : ti151.size = 2 := by kernel_rfl
 have hlen := cntL_len ks
 refine law (kp := [0,1,3,4,5,7,8,10,11,15,28,39,45,51,57,61,62,63,64,75,89,95,10093]) [(0,1000)] (args := [ptr b, .agg #[.int .i64 21, .int .u64 0, strV [], .slice kb ks.length kc, .int .i64 o, .slice db ds.length dc]]) Tryz.func63 (by kernel_rfl) (by kernel_rfl) ⟨rfl, trivial⟩ ?_
 refine G ?_
 intro b3
 refine G ?_
 refine ⟨⟨[5, 63], [1000], [(900, 1)], fun m vs cs R I' => ∃ (j : Nat) (es : List (List UInt8)) (s' : Int) (xb : Option Addr) (xc : Nat), vs = [.slice xb es.flatten.length xc, .int .i64 (j : Nat)] ∧ cs = [formC s' sh] ∧ Rng s' ∧ j ≤ ks.length ∧ m = ks.length - j ∧
   R = [(900, .vec (.slice xb es.flatten.length xc) 1 (es.flatten.map byteV))] ∧ es.length = j ∧ es.flatten.length ≤ cntL (ks.take j) * 131200 ∧ (∀ (i : Nat) (x : V) (e : List UInt8), ks[i]? = some x → es[i]? = some e → Enc x e),
  ks.length, _, _, rfl, rfl, ⟨0, [], s, none, 0, rfl, rfl, hs, by omega, rfl, rfl, rfl, by simp, by simp⟩, ?_⟩⟩
 rintro m vs cs R I1 hI _ _ ⟨j, es, s1, xb, xc, rfl, rfl, hs1, hj, rfl, rfl, hes, hel, hE⟩
 replace hI : I.le I1 := hI
 have hv1 := hvk.mono hI
 have htl : cntL (ks.take j) ≤ cntL ks := by
  have := cntL_append (ks.take j) (ks.drop j)
  rw [List.take_append_drop] at this
  omega
 refine G ?_
 split
 ·rename_i hjlt _
  have hj' : j < ks.length := by omega
  obtain ⟨vb, vo, rfl, _⟩ := hv1.some (by omega)
  obtain ⟨cx, hcx, hcc⟩ := hv1.get (i := j) (x := ks[j]) (by simp [hj'])
  have hcx' := hcx
  obtain ⟨yb, yc, yd, ye, rfl, _⟩ := hcx.inv2
  refine G ?_
  refine ⟨_, _, _, _, j, rfl, rfl, hj', ?_⟩
  refine G ?_
  refine ⟨_, .imm hcc, rfl, ?_⟩
  refine G ?_
  intro b7
  refine G ?_
  refine Cx [1000] ?_
  refine PutP.froz (hput j ks[j] (by simp [hj'])) hcx' hs1 fun s2 I2 eb ec e hs2 hi2 henc hele hbe => ?_
  have htl1 : cntL (ks.take (j + 1)) = cntL (ks.take j) + ks[j].cnt := by
   rw [take_succ_get (x := ks[j]) (by simp [hj']), cntL_append, cntL_cons, cntL_nil]; omega
  have htl2 : cntL (ks.take (j + 1)) ≤ cntL ks := by
   have := cntL_append (ks.take (j + 1)) (ks.drop (j + 1))
   rw [List.take_append_drop] at this
   omega
  refine G ?_
  refine .own 900 es.flatten.length e.length _ _ rfl rfl hbe (oneAll_bytes _) (by rw [hb1]; omega) fun nb nc => ?_
  refine G ?_
  refine ⟨ks.length - (j + 1), _, _, by omega, rfl, rfl, rfl, rfl, .inl ⟨j + 1, es ++ [e], s2, nb, nc, ?_, rfl, hs2, hj', rfl, ?_, by simp [hes], ?_, ?_⟩⟩
  ·rw [show (es ++ [e]).flatten.length = es.flatten.length + e.length by simp]; rfl
  ·rw [show (es ++ [e]).flatten.length = es.flatten.length + e.length by simp, show (es ++ [e]).flatten = es.flatten ++ e by simp, List.map_append]; rfl
  ·rw [show (es ++ [e]).flatten.length = es.flatten.length + e.length by simp, htl1, Nat.add_mul]; omega
  ·intro i x e' hx he'
   by_cases hij : i < j
   ·rw [List.getElem?_append_left (by omega)] at he'
    exact hE i x e' hx he'
   ·have : i = j := by
     have := (List.getElem?_eq_some_iff.1 he').1
     simp at this; omega
    subst this
    rw [List.getElem?_append_right (by omega), hes] at he'
    simp at he'
    simp [hj'] at hx
    subst he' hx
    exact henc
 ·rename_i hjge _
  have hjk : es.length = ks.length := by omega
  have htk : cntL (ks.take j) = cntL ks := by rw [List.take_of_length_le (by omega)]
  rw [htk] at hel
  have hpos : ks.length ≤ es.flatten.length := by
   rw [← hjk]
   refine flatten_len fun d hd => ?_
   obtain ⟨i, hi⟩ := List.mem_iff_getElem?.1 hd
   have hil : i < ks.length := by rw [← hjk]; exact (List.getElem?_eq_some_iff.1 hi).1
   exact enc_pos (hE i ks[i] d (by simp [hil]) hi)
  refine G ?_
  refine Cx [] ?_ [] [900]
  intro I2 hi2 hf2
  have hdat : BytesAt I2 es.flatten (.slice xb es.flatten.length xc) := froz_bytes (n := es.flatten.length) hf2 ⟨_, _, rfl⟩ rfl
  conv => whnf
  refine lengthed_c (c := ks.length) (short := 192) (long := 208) hdat (by omega) (by omega) fun I3 v3 l3 hi3 hrow3 hlong hF3 => ?_
  have hall : ∀ p ∈ l3, p.1 < 256 ∧ Enc (.mk 21 0 [] ks o []) (UInt8.ofNat p.1 :: p.2) ∧ p.2.length + 1 ≤ (1 + cntL ks) * 131200 := fun p hp => by
   obtain ⟨q1, q2, hd, q3, q4⟩ := lenF_head (by decide) (by decide) (hF3 p hp) hpos (by omega)
   exact ⟨q1, by rw [q4]; exact .list hjk hE (.h q3), by omega⟩
  have hne3 : l3 ≠ [] := by obtain ⟨p, hp, _⟩ := hlong; exact List.ne_nil_of_mem hp
  have hl32 : l3.length ≤ 2 := by obtain ⟨p, hp, _, e⟩ := hlong; exact e
  obtain ⟨p3b, p3c, rfl⟩ := Row.form hrow3
  refine G ?_
  split
  ·rename_i hz _
   obtain rfl : ks = [] := List.eq_nil_of_length_eq_zero (by omega)
   refine G ?_
   refine .inl fun bp I4 hi4 hc4 => ?_
   refine G ?_
   obtain ⟨hl0, cs0, hsl0, hcl0, hrep0⟩ := hrow3.mono hi4
   refine .new 1 l3.length _ cs0.flatten ⟨rfl, by omega, rfl, hc4⟩ rfl (List.length_pos_iff.2 hne3) hsl0 (row_one hcl0 fun i x c hx hc => (hrep0 i x c hx hc).1.one) (by rw [hb2]; omega) fun nb nc => ?_
   refine G ?_
   intro I5 hi5 hf5
   have hrow5 := row_app (l1 := [((69 : Nat), ([] : List UInt8))]) (c1 := [_]) (c2 := cs0) (Rp := PcRep I5) hf5 hz2 (by simp; rfl) rfl (by simp only [List.length_cons, List.length_nil]; omega) rfl hcl0
    (rows1 ⟨⟨.slice none 0 0, rfl, slAt_nil I5 1, by simp⟩, rfl⟩) (fun i x c hx hc => ⟨(hrep0 i x c hx hc).1.mono hi5, (hrep0 i x c hx hc).2⟩)
   refine G ?_
   refine L0 ?_
   refine h s1 I5 _ _ hs1 ((((hI.trans hi2).trans hi3).trans hi4).trans hi5) hrow5 (by simp) fun p hp => ?_
   rcases List.mem_append.1 hp with hp | hp
   ·obtain rfl := List.mem_singleton.1 hp
    exact ⟨by decide, Enc.list (ks := []) (es := []) (hd := [0x45]) rfl (by simp) ListH.z, by simp [cntL_nil]⟩
   ·exact hall p hp
  ·refine G ?_
   refine L0 ?_
   exact h s1 I3 _ l3 hs1 ((hI.trans hi2).trans hi3) hrow3 hne3 hall
theorem pieces_map {o : Int} {ks ds : List V} (hput : ∀ (i : Nat) (y : V), ks[i]? = some y → PutP y) (hn : cntL ks ≤ 2000) {b : Nat} {s : Int} {sh : Bool} {cs : List Value} (hr : VRep I (.mk 22 0 [] ks o ds) cs) (hs : Rng s)
  (h : ∀ (s' : Int) I' v l, Rng s' → I.le I' → PsRep I' l v → l ≠ [] → (∀ p ∈ l, p.1 < 256 ∧ Enc (.mk 22 0 [] ks o []) (UInt8.ofNat p.1 :: p.2) ∧ p.2.length + 1 ≤ (1 + cntL ks) * 131200) → Q v [formC s' sh] [] I') :
  WP Tryz.prog 63 #[ptr b, .agg cs.toArray] [(b, formC s sh)] [] I Q := by
 obtain ⟨kb, kc, db, dc, rfl, hvk, hvd, hkr, hnr, hor, _⟩ := hr.inv2
 replace hvk : VsRep I ks (.slice kb ks.length kc) := hvk
 have hb1 : ti5.bytes = 1 := by kernel_rfl
 have hb2 : ti151.bytes = 32 := by kernel_rfl
 have hz2 : ti151.size = 2 := by kernel_rfl
 have hlen := cntL_len ks
 refine law (kp := [0,1,3,4,5,7,8,10,11,15,28,39,45,51,57,61,62,63,64,75,89,95,10093]) [(0,1000)] (args := [ptr b, .agg #[.int .i64 22, .int .u64 0, strV [], .slice kb ks.length kc, .int .i64 o, .slice db ds.length dc]]) Tryz.func63 (by kernel_rfl) (by kernel_rfl) ⟨rfl, trivial⟩ ?_
 refine G ?_
 intro b3
 refine G ?_
 refine ⟨⟨[5, 63], [1000], [(900, 1)], fun m vs cs R I' => ∃ (j : Nat) (es : List (List UInt8)) (s' : Int) (xb : Option Addr) (xc : Nat), vs = [.slice xb es.flatten.length xc, .int .i64 (j : Nat)] ∧ cs = [formC s' sh] ∧ Rng s' ∧ j ≤ ks.length ∧ m = ks.length - j ∧
   R = [(900, .vec (.slice xb es.flatten.length xc) 1 (es.flatten.map byteV))] ∧ es.length = j ∧ es.flatten.length ≤ cntL (ks.take j) * 131200 ∧ (∀ (i : Nat) (x : V) (e : List UInt8), ks[i]? = some x → es[i]? = some e → Enc x e),
  ks.length, _, _, rfl, rfl, ⟨0, [], s, none, 0, rfl, rfl, hs, by omega, rfl, rfl, rfl, by simp, by simp⟩, ?_⟩⟩
 rintro m vs cs R I1 hI _ _ ⟨j, es, s1, xb, xc, rfl, rfl, hs1, hj, rfl, rfl, hes, hel, hE⟩
 replace hI : I.le I1 := hI
 have hv1 := hvk.mono hI
 have htl : cntL (ks.take j) ≤ cntL ks := by
  have := cntL_append (ks.take j) (ks.drop j)
  rw [List.take_append_drop] at this
  omega
 refine G ?_
 split
 ·rename_i hjlt _
  have hj' : j < ks.length := by omega
  obtain ⟨vb, vo, rfl, _⟩ := hv1.some (by omega)
  obtain ⟨cx, hcx, hcc⟩ := hv1.get (i := j) (x := ks[j]) (by simp [hj'])
  have hcx' := hcx
  obtain ⟨yb, yc, yd, ye, rfl, _⟩ := hcx.inv2
  refine G ?_
  refine ⟨_, _, _, _, j, rfl, rfl, hj', ?_⟩
  refine G ?_
  refine ⟨_, .imm hcc, rfl, ?_⟩
  refine G ?_
  intro b7
  refine G ?_
  refine Cx [1000] ?_
  refine PutP.froz (hput j ks[j] (by simp [hj'])) hcx' hs1 fun s2 I2 eb ec e hs2 hi2 henc hele hbe => ?_
  have htl1 : cntL (ks.take (j + 1)) = cntL (ks.take j) + ks[j].cnt := by
   rw [take_succ_get (x := ks[j]) (by simp [hj']), cntL_append, cntL_cons, cntL_nil]; omega
  have htl2 : cntL (ks.take (j + 1)) ≤ cntL ks := by
   have := cntL_append (ks.take (j + 1)) (ks.drop (j + 1))
   rw [List.take_append_drop] at this
   omega
  refine G ?_
  refine .own 900 es.flatten.length e.length _ _ rfl rfl hbe (oneAll_bytes _) (by rw [hb1]; omega) fun nb nc => ?_
  refine G ?_
  refine ⟨ks.length - (j + 1), _, _, by omega, rfl, rfl, rfl, rfl, .inl ⟨j + 1, es ++ [e], s2, nb, nc, ?_, rfl, hs2, hj', rfl, ?_, by simp [hes], ?_, ?_⟩⟩
  ·rw [show (es ++ [e]).flatten.length = es.flatten.length + e.length by simp]; rfl
  ·rw [show (es ++ [e]).flatten.length = es.flatten.length + e.length by simp, show (es ++ [e]).flatten = es.flatten ++ e by simp, List.map_append]; rfl
  ·rw [show (es ++ [e]).flatten.length = es.flatten.length + e.length by simp, htl1, Nat.add_mul]; omega
  ·intro i x e' hx he'
   by_cases hij : i < j
   ·rw [List.getElem?_append_left (by omega)] at he'
    exact hE i x e' hx he'
   ·have : i = j := by
     have := (List.getElem?_eq_some_iff.1 he').1
     simp at this; omega
    subst this
    rw [List.getElem?_append_right (by omega), hes] at he'
    simp at he'
    simp [hj'] at hx
    subst he' hx
    exact henc
 ·rename_i hjge _
  have hjk : es.length = ks.length := by omega
  have htk : cntL (ks.take j) = cntL ks := by rw [List.take_of_length_le (by omega)]
  rw [htk] at hel
  have hpos : ks.length ≤ es.flatten.length := by
   rw [← hjk]
   refine flatten_len fun d hd => ?_
   obtain ⟨i, hi⟩ := List.mem_iff_getElem?.1 hd
   have hil : i < ks.length := by rw [← hjk]; exact (List.getElem?_eq_some_iff.1 hi).1
   exact enc_pos (hE i ks[i] d (by simp [hil]) hi)
  refine G ?_
  refine Cx [] ?_ [] [900]
  intro I2 hi2 hf2
  have hdat : BytesAt I2 es.flatten (.slice xb es.flatten.length xc) := froz_bytes (n := es.flatten.length) hf2 ⟨_, _, rfl⟩ rfl
  conv => whnf
  refine lengthed_c (c := ks.length) (short := 193) (long := 209) hdat (by omega) (by omega) fun I3 v3 l3 hi3 hrow3 hlong hF3 => ?_
  have hall : ∀ p ∈ l3, p.1 < 256 ∧ Enc (.mk 22 0 [] ks o []) (UInt8.ofNat p.1 :: p.2) ∧ p.2.length + 1 ≤ (1 + cntL ks) * 131200 := fun p hp => by
   obtain ⟨q1, q2, hd, q3, q4⟩ := lenF_head (by decide) (by decide) (hF3 p hp) hpos (by omega)
   exact ⟨q1, by rw [q4]; exact .map hjk hE q3, by omega⟩
  have hne3 : l3 ≠ [] := by obtain ⟨p, hp, _⟩ := hlong; exact List.ne_nil_of_mem hp
  have hl32 : l3.length ≤ 2 := by obtain ⟨p, hp, _, e⟩ := hlong; exact e
  obtain ⟨p3b, p3c, rfl⟩ := Row.form hrow3
  refine G ?_
  refine L0 ?_
  exact h s1 I3 _ l3 hs1 ((hI.trans hi2).trans hi3) hrow3 hne3 hall
theorem pcs_of {x : V} (hx : Pv x) (hn : x.cnt ≤ 2000) (hput : ∀ (i : Nat) (y : V), x.kids[i]? = some y → PutP y) : PcsP x := by
 intro I b s sh cs Q hr hs h
 have hcnt := cnt_eq x
 cases hx with
 | sc hsc =>
  refine pieces_sc hr hsc fun I' v l hi hrow hfull hE => h s I' v l hs hi hrow (by obtain ⟨p, hp, _⟩ := hfull; exact List.ne_nil_of_mem hp) fun p hp => ⟨(hE p hp).1.1, .sc (hE p hp).1.2, ?_⟩
  have := (hE p hp).2
  simp only [V.kids, cntL_nil]
  omega
 | list hk =>
  rename_i ks o
  have hc2 : cntL ks + 1 ≤ (V.mk 21 0 [] ks o []).cnt := by rw [cnt_mk]; omega
  refine pieces_list hput (by omega) hr hs fun s' I' v l hs' hi hrow hne hall => h s' I' v l hs' hi hrow hne fun p hp => ⟨(hall p hp).1, (hall p hp).2.1, ?_⟩
  exact (hall p hp).2.2
 | map he hk =>
  rename_i ks o
  have hc2 : cntL ks + 1 ≤ (V.mk 22 0 [] ks o []).cnt := by rw [cnt_mk]; omega
  refine pieces_map hput (by omega) hr hs fun s' I' v l hs' hi hrow hne hall => h s' I' v l hs' hi hrow hne fun p hp => ⟨(hall p hp).1, (hall p hp).2.1, ?_⟩
  exact (hall p hp).2.2
 | comp hc hk =>
  rename_i ks o c
  have hc2 : cntL ks + 1 ≤ (V.mk 21 0 [] ks o [vNum 5 c]).cnt := by rw [cnt_mk]; omega
  refine pieces_list hput (by omega) hr hs fun s' I' v l hs' hi hrow hne hall => h s' I' v l hs' hi hrow hne fun p hp => ⟨(hall p hp).1, (hall p hp).2.1, ?_⟩
  exact (hall p hp).2.2
 | arr hk hpos hel =>
  rename_i ks o k
  have hlen := cntL_len ks
  have hc2 : cntL ks + 1 ≤ (V.mk 23 0 [] ks o []).cnt := by rw [cnt_mk]; omega
  obtain ⟨kb, kc, db, dc, rfl, _⟩ := hr.inv2
  refine lw K63 [(0,1000)] [ptr b, .agg #[.int .i64 23, .int .u64 0, strV [], .slice kb ks.length kc, .int .i64 o, .slice db 0 dc]] Tryz.func63 ?_
  refine G ?_
  intro b3
  refine G ?_
  refine Cx [1000] ?_
  refine array_law hr hs hk hpos (by omega) hel fun s' I' v l hs' hi hrow hne hall => ?_
  refine G ?_
  refine L0 ?_
  refine h s' I' v l hs' hi hrow hne fun p hp => ⟨(hall p hp).1, (hall p hp).2.1, ?_⟩
  exact Nat.le_trans (hall p hp).2.2 (Nat.mul_le_mul_right _ (show 1 + ks.length ≤ 1 + cntL ks by omega))
theorem put_of {x : V} (hx : Pv x) (hn : x.cnt ≤ 2000) (hp : PcsP x) (hd : ∀ y ∈ x.desc, PutP y) : PutP x := by
 intro I b s sh cs Q hr hs h
 have hb1 : ti5.bytes = 1 := by kernel_rfl
 have hcnt := cnt_eq x
 have hstrip : x.desc = [] → strip x = x := fun e => by obtain ⟨k, n, t, ks, o, ds⟩ := x; simp only [V.desc] at e; subst e; rfl
 have hdesc : x.desc = [] ∨ ∃ ks o c, x = .mk 21 0 [] ks o [vNum 5 c] := by
  cases hx with
  | sc _ => exact .inl rfl
  | list _ => exact .inl rfl
  | map _ _ => exact .inl rfl
  | arr _ _ _ => exact .inl rfl
  | comp _ _ => exact .inr ⟨_, _, _, rfl⟩
 have hr' := hr
 obtain ⟨kb, kc, db, dc, rfl, hvk, hvd, _⟩ := hr.inv2
 refine lw K32 [(1,1000)] [.agg #[.int .i64 x.kind, .int .u64 (x.num : Nat), strV x.text, .slice kb x.kids.length kc, .int .i64 x.of, .slice db x.desc.length dc], ptr b] Tryz.func32 ?_
 rcases hdesc with hd0 | ⟨ks, o, c, rfl⟩
 ·rw [hd0]
  refine G ?_
  intro b2
  refine G ?_
  refine Cx [1000] ?_
  refine hp _ _ _ _ _ _ (by rw [cellsOf, hd0] at hr'; exact hr') hs fun s1 I1 v l hs1 hi1 hrow hne hall => ?_
  obtain ⟨lb, lc, rfl⟩ := Row.form hrow
  have hll := hrow.1
  have hpos : 0 < l.length := List.length_pos_iff.2 hne
  refine G ?_
  refine Cx [1000] ?_
  refine pick_law (n := l.length) ⟨hpos, by omega⟩ hs1 fun s2 i hi hs2 => ?_
  obtain ⟨qb, qo, rfl, _⟩ := Row.some hrow hpos
  obtain ⟨cp, ⟨sv, rfl, hsv, hsl⟩, _, hcp⟩ := Row.get hrow (i := i) (x := l[i]) (by simp [hi])
  obtain ⟨sb, sc, rfl⟩ := bytes_form hsv
  obtain ⟨f1, f2, f3⟩ := hall l[i] (by simp)
  have hbv : byteV (UInt8.ofNat l[i].1) = .int .u8 (l[i].1 : Nat) := by rw [byteV_ofNat, Nat.mod_eq_of_lt f1]
  refine G ?_
  refine ⟨_, _, _, _, i, rfl, rfl, hi, ?_⟩
  refine G ?_
  refine ⟨_, .imm hcp, rfl, ?_⟩
  refine G ?_
  intro b7
  refine G ?_
  refine ⟨[0,1,2,3,6,7,4,5,8,9], [], [], [], by kernel_rfl, ?_⟩
  refine G ?_
  refine .inl fun bq I2 hi2 hcq => ?_
  refine G ?_
  refine .nil 1 [.int .u8 (l[i].1 : Nat)] rfl ⟨rfl, by omega, rfl, hcq⟩ (by rw [hb1]; omega) fun nb nc => ?_
  refine G ?_
  refine .own 35 1 l[i].2.length _ _ rfl rfl (SlAt.mono hi2 hsv) (oneAll_bytes _) (by rw [hb1]; omega) fun nb2 nc2 => ?_
  refine G ?_
  refine ⟨⟨[], [35], [], [], ?_⟩⟩
  conv => whnf
  have hres := h s2 I2 nb2 nc2 (UInt8.ofNat l[i].1 :: l[i].2) hs2 (hi1.trans hi2) (by rw [hstrip hd0] at f2; exact f2) (by rw [hcnt]; simp only [List.length_cons]; exact Nat.le_trans f3 (Nat.mul_le_mul_right _ (by omega)))
  rw [List.length_cons, List.map_cons, hbv, Nat.add_comm] at hres
  exact hres
 ·replace hvd : VsRep I [vNum 5 c] (.slice db 1 dc) := hvd
  obtain ⟨vb, vo, rfl, _⟩ := hvd.some (by simp)
  obtain ⟨cx, hcx, hcc⟩ := hvd.get (i := 0) (x := vNum 5 c) rfl
  have hcx' := hcx
  obtain ⟨yb, yc, yd, ye, rfl, _⟩ := hcx.inv2
  refine G ?_
  intro b2
  refine G ?_
  refine .inr ⟨12, rfl, fun b12 => ?_⟩
  refine G ?_
  refine ⟨_, _, _, _, 0, rfl, rfl, Nat.zero_lt_one, ?_⟩
  refine G ?_
  refine ⟨_, .imm hcc, rfl, ?_⟩
  refine G ?_
  refine Cx [1000] ?_
  refine PutP.froz (hd (vNum 5 c) (by simp [V.desc])) hcx' hs fun s0 I0 eb ec ed hs0 hi0 hed hedl hbe => ?_
  have hdc : (vNum 5 c).cnt = 1 := by rw [vNum, cnt_mk, cntL_nil]
  rw [hdc] at hedl
  refine G ?_
  refine .own 12 1 ed.length _ _ rfl rfl hbe (oneAll_bytes _) (by rw [hb1]; omega) fun ob oc => ?_
  refine G ?_
  refine Cx [1000] ?_
  refine hp _ _ _ _ _ _ (hr'.mono hi0) hs0 fun s1 I1 v l hs1 hi1 hrow hne hall => ?_
  obtain ⟨lb, lc, rfl⟩ := Row.form hrow
  have hll := hrow.1
  have hpos : 0 < l.length := List.length_pos_iff.2 hne
  refine G ?_
  refine Cx [1000] ?_
  refine pick_law (n := l.length) ⟨hpos, by omega⟩ hs1 fun s2 i hi hs2 => ?_
  obtain ⟨qb, qo, rfl, _⟩ := Row.some hrow hpos
  obtain ⟨cp, ⟨sv, rfl, hsv, hsl⟩, _, hcp⟩ := Row.get hrow (i := i) (x := l[i]) (by simp [hi])
  obtain ⟨sb, sc, rfl⟩ := bytes_form hsv
  obtain ⟨f1, f2, f3⟩ := hall l[i] (by simp)
  have hbv : byteV (UInt8.ofNat l[i].1) = .int .u8 (l[i].1 : Nat) := by rw [byteV_ofNat, Nat.mod_eq_of_lt f1]
  refine G ?_
  refine ⟨_, _, _, _, i, rfl, rfl, hi, ?_⟩
  refine G ?_
  refine ⟨_, .imm hcp, rfl, ?_⟩
  refine G ?_
  intro b7
  refine G ?_
  refine ⟨[0,1,2,3,6,7,4,5,8,9], [], [], [], by kernel_rfl, ?_⟩
  refine G ?_
  refine .inl fun bq I2 hi2 hcq => ?_
  refine G ?_
  refine .own 12 (1 + ed.length) 1 _ [.int .u8 (l[i].1 : Nat)] rfl rfl ⟨rfl, by omega, rfl, hcq⟩ rfl (by rw [hb1]; omega) fun nb nc => ?_
  refine G ?_
  refine .own 12 (1 + ed.length + 1) l[i].2.length _ _ rfl rfl (SlAt.mono hi2 hsv) (oneAll_bytes _) (by rw [hb1]; omega) fun nb2 nc2 => ?_
  refine G ?_
  refine ⟨⟨[], [12], [], [], ?_⟩⟩
  conv => whnf
  have hul : UlongE c ed := by cases hed with | sc h => cases h; assumption
  have hed9 : ed.length ≤ 9 := by cases hul <;> simp
  have henc : Enc (.mk 21 0 [] ks o [vNum 5 c]) (0 :: (ed ++ (UInt8.ofNat l[i].1 :: l[i].2))) := by
   generalize UInt8.ofNat l[i].1 :: l[i].2 = e at f2
   change Enc (.mk 21 0 [] ks o []) e at f2
   cases f2 with
   | sc h => cases h
   | list hl h hh => exact .comp hul hl h hh
  simp only [V.kids, V.desc] at hcnt f3
  rw [cntL_cons, cntL_nil, hdc] at hcnt
  have hres := h s2 I2 nb2 nc2 (0 :: (ed ++ (UInt8.ofNat l[i].1 :: l[i].2))) hs2 ((hi0.trans hi1).trans hi2) henc (by
   rw [hcnt]; simp only [List.length_cons, List.length_append]
   have : (1 + cntL ks + (1 + 0)) * 131200 = (1 + cntL ks) * 131200 + 131200 := by omega
   omega)
  have e1 : (0 :: (ed ++ (UInt8.ofNat l[i].1 :: l[i].2))).length = 1 + ed.length + 1 + l[i].2.length := by simp only [List.length_cons, List.length_append]; omega
  have e2 : (0 :: (ed ++ (UInt8.ofNat l[i].1 :: l[i].2))).map byteV = [.int .u8 0] ++ ed.map byteV ++ [.int .u8 (l[i].1 : Nat)] ++ l[i].2.map byteV := by
   rw [List.map_cons, List.map_append, List.map_cons, hbv]
   simp [byteV]
  rw [e1, e2] at hres
  exact hres
theorem put_all : ∀ (n : Nat) (x : V), x.sz ≤ n → Pv x → x.cnt ≤ 2000 → PutP x := by
 intro n
 induction n with
 | zero => intro x h; have := x.sz_pos; omega
 | succ n ih =>
  intro x hsz hx hn
  have hk : ∀ (i : Nat) (y : V), x.kids[i]? = some y → PutP y := fun i y hy => by
   have hm := List.mem_of_getElem? hy
   have h1 := V.sz_kid hm
   have h2 := cntL_mem hm
   have h3 := cnt_eq x
   refine ih y (by omega) ?_ (by omega)
   cases hx with
   | sc _ => cases hm
   | list h => exact h i y hy
   | map _ h => exact h i y hy
   | arr hk _ h => obtain ⟨n, t, o, rfl, hs⟩ := h i y hy; exact .sc hs
   | comp _ h => exact h i y hy
  have hd : ∀ y ∈ x.desc, PutP y := fun y hm => by
   have h1 := V.sz_desc hm
   have h2 := cntL_mem hm
   have h3 := cnt_eq x
   refine ih y (by omega) ?_ (by omega)
   cases hx with
   | sc _ => cases hm
   | list h => cases hm
   | map _ h => cases hm
   | arr hk _ h => cases hm
   | comp hc h => obtain rfl := List.mem_singleton.1 hm; exact .sc (.ulong hc)
  exact put_of hx hn (pcs_of hx hn hk) hd
theorem PutValue_law {x : V} (hx : Pv x) (hn : x.cnt ≤ 2000) : PutP x := put_all x.sz x (Nat.le_refl _) hx hn
end laws
def goV (k : Int) (n : Nat) (t : List UInt8) : Value :=
 if k = 0 then .nilIface else if k = 1 then .iface 4 (.bool (n == 1)) else if k = 2 then .iface 5 (.int .u8 (n : Nat)) else if k = 3 then .iface 44 (.int .u16 (n : Nat))
 else if k = 4 then .iface 43 (.int .u32 (n : Nat)) else if k = 5 then .iface 23 (.int .u64 (n : Nat)) else if k = 6 then .iface 207 (.int .i8 (sg n)) else if k = 7 then .iface 211 (.int .i16 (sg n))
 else if k = 8 then .iface 21 (.int .i32 (sg n)) else if k = 9 then .iface 2 (.int .i64 (sg n)) else if k = 10 then .iface 227 (.float .f32 n) else if k = 11 then .iface 231 (.float .f64 n)
 else if k = 16 then .iface 243 (timeV (sg n)) else if k = 17 then .iface 311 (uuidV t) else .iface 9 (strV t)
def arrT (k : Int) : Nat :=
 if k = 1 then 315 else if k = 2 then 317 else if k = 3 then 320 else if k = 4 then 53 else if k = 5 then 325 else if k = 6 then 328 else if k = 7 then 331 else if k = 8 then 334 else if k = 9 then 337
 else if k = 10 then 340 else if k = 11 then 343 else if k = 16 then 345 else if k = 17 then 348 else if k = 18 then 351 else if k = 19 then 45 else 97
def arrSz (k : Int) : Nat := if k = 16 then 2 else if k = 17 then 16 else 1
def elemC (I : Imm) (k : Int) (n : Nat) (t : List UInt8) (c : List Value) : Prop :=
 (k = 1 → c = [.bool (n == 1)]) ∧ (k = 2 → c = [.int .u8 (n : Nat)]) ∧ (k = 3 → c = [.int .u16 (n : Nat)]) ∧ (k = 4 → c = [.int .u32 (n : Nat)]) ∧ (k = 5 → c = [.int .u64 (n : Nat)]) ∧ (k = 6 → c = [.int .i8 (sg n)]) ∧
 (k = 7 → c = [.int .i16 (sg n)]) ∧ (k = 8 → c = [.int .i32 (sg n)]) ∧ (k = 9 → c = [.int .i64 (sg n)]) ∧ (k = 10 → c = [.float .f32 n]) ∧ (k = 11 → c = [.float .f64 n]) ∧ (k = 16 → c = timeC (sg n)) ∧ (k = 17 → c = t.map byteV) ∧
 (k = 18 → ∃ sv, c = [sv] ∧ BytesAt I t sv) ∧ (k = 19 ∨ k = 20 → c = [strV t])
theorem elemC.mono {I J : Imm} (hi : I.le J) {k : Int} {n : Nat} {t : List UInt8} {c : List Value} (h : elemC I k n t c) : elemC J k n t c := by
 obtain ⟨h1, h2, h3, h4, h5, h6, h7, h8, h9, h10, h11, h12, h13, h14, h15⟩ := h
 exact ⟨h1, h2, h3, h4, h5, h6, h7, h8, h9, h10, h11, h12, h13, fun e => by obtain ⟨sv, e1, e2⟩ := h14 e; exact ⟨sv, e1, bytes_mono hi e2⟩, h15⟩
inductive GoAny (I : Imm) : V → Value → Prop where
 | sc {k : Int} {n : Nat} {t : List UInt8} {o : Int} (hs : Scal k n t) (hk : k ≠ 18) : GoAny I (.mk k n t [] o []) (goV k n t)
 | bin {n : Nat} {t : List UInt8} {o : Int} {sv : Value} (hs : Scal 18 n t) (h : BytesAt I t sv) : GoAny I (.mk 18 n t [] o []) (.iface 24 sv)
 | list {ks : List V} {o : Int} {cells : List Value} {sv : Value} (hs : SlAt I 1 ks.length cells sv) (h : ∀ (i : Nat) (x : V) (c : Value), ks[i]? = some x → cells[i]? = some c → GoAny I x c) : GoAny I (.mk 21 0 [] ks o []) (.iface 312 sv)
 | arr {ks : List V} {o k : Int} {sv : Value} (hk : arrK k) (hn : 0 < ks.length) (hs : Row (arrSz k) (fun (x : V) c => elemC I k x.num x.text c) I ks sv) (h : ∀ (i : Nat) (x : V), ks[i]? = some x → ∃ n t o, x = .mk k n t [] o [] ∧ Scal k n t) : GoAny I (.mk 23 0 [] ks o []) (.iface (arrT k) sv)
 | map {ks : List V} {o : Int} {r : Nat} {es : Array MapEntry} {ps : List (V × V)} (hm : I.m r = some (es, es.size)) (hb : ∀ (i : Nat) (e : MapEntry), es.toList[i]? = some e → e.born = i) (hp : ps.Perm (prs ks)) (hl : es.size = ps.length)
   (hk : ∀ (i : Nat) (p : V × V) (e : MapEntry), ps[i]? = some p → es.toList[i]? = some e → e.key = goV p.1.kind p.1.num p.1.text) (h : ∀ (i : Nat) (p : V × V) (e : MapEntry), ps[i]? = some p → es.toList[i]? = some e → GoAny I p.2 e.val) :
   GoAny I (.mk 22 0 [] ks o []) (.iface 291 (.map (some r)))
 | smap {ks : List V} {o : Int} {r : Nat} {es : Array MapEntry} {ps : List (V × V)} (hm : I.m r = some (es, es.size)) (hb : ∀ (i : Nat) (e : MapEntry), es.toList[i]? = some e → e.born = i) (hp : ps.Perm (prs ks)) (hl : es.size = ps.length)
   (hk : ∀ (i : Nat) (p : V × V) (e : MapEntry), ps[i]? = some p → es.toList[i]? = some e → (p.1.kind = 19 ∨ p.1.kind = 20) ∧ e.key = strV p.1.text) (h : ∀ (i : Nat) (p : V × V) (e : MapEntry), ps[i]? = some p → es.toList[i]? = some e → GoAny I p.2 e.val) :
   GoAny I (.mk 22 0 [] ks o []) (.iface 135 (.map (some r)))
theorem GoAny.mono {I J : Imm} (hi : I.le J) {x : V} {v : Value} (h : GoAny I x v) : GoAny J x v := by
 induction h with
 | sc hs hk => exact .sc hs hk
 | bin hs h => exact .bin hs (bytes_mono hi h)
 | list hs h ih => exact .list (SlAt.mono hi hs) ih
 | arr hk hn hs h => exact .arr hk hn (hs.mono hi fun _ _ h => h.mono hi) h
 | map hm hb hp hl hk h ih => exact .map (hi.m hm) hb hp hl hk ih
 | smap hm hb hp hl hk h ih => exact .smap (hi.m hm) hb hp hl hk ih
def RdP (x : V) : Prop := ∀ (I : Imm) (b : Nat) (bs : List UInt8) (v : Value) (off : Nat) (e r : List UInt8) (Q : Qt), BufAt I bs v → Enc x e → bs.drop off = e ++ r →
 (∀ I' g, I.le I' → GoAny I' x g → bs.drop (off + e.length) = r → Q (.tuple #[g, .nilIface]) [bufC v (off + e.length)] [] I') → WP Tryz.prog 136 #[ptr b] [(b, bufC v off)] [] I Q
theorem rd_sc {k : Int} {n : Nat} {t : List UInt8} {o : Int} (hs : Scal k n t) : RdP (.mk k n t [] o []) := by
 intro I b bs v off e r Q hv he hd h
 cases he with
 | list => cases hs
 | map => cases hs
 | arr => cases hs
 | sc he =>
  cases he with
  | null => exact readAny_null hv hd fun hr => h I _ (.refl I) (.sc hs (by decide)) hr
  | bool he => exact readAny_bool hv he hd fun hr => h I _ (.refl I) (.sc hs (by decide)) hr
  | ubyte he => exact readAny_ubyte hv he hd fun hr => h I _ (.refl I) (.sc hs (by decide)) hr
  | ushort he => exact readAny_ushort hv he hd fun hr => h I _ (.refl I) (.sc hs (by decide)) hr
  | uint he => exact readAny_uint hv he hd fun hr => h I _ (.refl I) (.sc hs (by decide)) hr
  | ulong he => exact readAny_ulong hv he hd fun hr => h I _ (.refl I) (.sc hs (by decide)) hr
  | byte he => exact readAny_sbyte hv he hd fun hr => h I _ (.refl I) (.sc hs (by decide)) hr
  | short he => exact readAny_short hv he hd fun hr => h I _ (.refl I) (.sc hs (by decide)) hr
  | int he => exact readAny_int hv he hd fun hr => h I _ (.refl I) (.sc hs (by decide)) hr
  | long he => exact readAny_long hv he hd fun hr => h I _ (.refl I) (.sc hs (by decide)) hr
  | float he => exact readAny_float hv he hd fun hr => h I _ (.refl I) (.sc hs (by decide)) hr
  | double he => exact readAny_double hv he hd fun hr => h I _ (.refl I) (.sc hs (by decide)) hr
  | time he => exact readAny_time hv he hd fun hr => h I _ (.refl I) (.sc hs (by decide)) hr
  | uuid he => exact readAny_uuid hv he hd fun hr => h I _ (.refl I) (.sc hs (by decide)) hr
  | bin he => exact readAny_bin hv he hd fun I' sv hi hb hr => h I' _ hi (.bin hs hb) hr
  | str he => exact readAny_str hv he hd fun hr => h I _ (.refl I) (.sc hs (by decide)) hr
  | sym he => exact readAny_sym hv he hd fun hr => h I _ (.refl I) (.sc hs (by decide)) hr
end Go.Proofs.YtcfglgelckjpmaaGreatDoor
