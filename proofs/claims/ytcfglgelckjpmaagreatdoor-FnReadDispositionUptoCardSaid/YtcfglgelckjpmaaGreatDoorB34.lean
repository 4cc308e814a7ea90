/- Own machinery, and laws of the functions that the statement reaches (part 34). -/
import Derived.Test.YtcfglgelckjpmaaGreatDoorB25
import Derived.Test.YtcfglgelckjpmaaGreatDoorB26
import Derived.Test.YtcfglgelckjpmaaGreatDoorB27
import Derived.Test.YtcfglgelckjpmaaGreatDoorB28
import Derived.Laws.StructEq
import Derived.Stop.BytesEq
set_option linter.all false
namespace Go.Proofs.YtcfglgelckjpmaaGreatDoor
set_option maxRecDepth 100000
set_option maxHeartbeats 8000000
def goT (k : Int) : Nat :=
 if k = 1 then 4 else if k = 2 then 5 else if k = 3 then 44 else if k = 4 then 43 else if k = 5 then 23 else if k = 6 then 207 else if k = 7 then 211 else if k = 8 then 21 else if k = 9 then 2
 else if k = 16 then 243 else if k = 17 then 311 else 9
def goP (k : Int) (n : Nat) (t : List UInt8) : Value :=
 if k = 1 then .bool (n == 1) else if k = 2 then .int .u8 (n : Nat) else if k = 3 then .int .u16 (n : Nat) else if k = 4 then .int .u32 (n : Nat) else if k = 5 then .int .u64 (n : Nat)
 else if k = 6 then .int .i8 (sg n) else if k = 7 then .int .i16 (sg n) else if k = 8 then .int .i32 (sg n) else if k = 9 then .int .i64 (sg n) else if k = 16 then timeV (sg n) else if k = 17 then uuidV t else strV t
theorem keyK_cases {k : Int} (h : keyK k) : k = 1 ∨ k = 2 ∨ k = 3 ∨ k = 4 ∨ k = 5 ∨ k = 6 ∨ k = 7 ∨ k = 8 ∨ k = 9 ∨ k = 16 ∨ k = 17 ∨ k = 19 ∨ k = 20 := by unfold keyK at h; omega
theorem goV_key {k : Int} (h : keyK k) (n : Nat) (t : List UInt8) : goV k n t = .iface (goT k) (goP k n t) := by
 rcases keyK_cases h with rfl | rfl | rfl | rfl | rfl | rfl | rfl | rfl | rfl | rfl | rfl | rfl | rfl <;> rfl
theorem goT_inj {k k' : Int} (h : keyK k) (h' : keyK k') : goT k = goT k' → asKind k = asKind k' := by
 rcases keyK_cases h with rfl | rfl | rfl | rfl | rfl | rfl | rfl | rfl | rfl | rfl | rfl | rfl | rfl <;>
  rcases keyK_cases h' with rfl | rfl | rfl | rfl | rfl | rfl | rfl | rfl | rfl | rfl | rfl | rfl | rfl <;> decide
theorem sg_inj {n m : Nat} (hn : n < 18446744073709551616) (hm : m < 18446744073709551616) (h : sg n = sg m) : n = m := by unfold sg at h; split at h <;> split at h <;> omega
def KeyEq (k : Int) (n : Nat) (t : List UInt8) (k' : Int) (n' : Nat) (t' : List UInt8) : Prop := asKind k = asKind k' ∧ n = n' ∧ t = t'
section eq
variable (w : World)
theorem eq_iface_ne {tx ty : Nat} {vx vy : Value} (h : tx ≠ ty) : (Op.equal 20 (.iface tx vx) (.iface ty vy)).run Tryz.prog w = .ok false w := by
 have hu : Tryz.prog.underlying 20 = some (.interface (Tryz.prog.methodsAt 20)) := by kernel_rfl
 rw [Op.equal, Op.maxDepth, show (10000 : Nat) = 9999 + 1 from rfl, Op.equalIn]
 simp only [Sem.run_bind, run_underlying hu, Result.andThen_ok, ne_eq, h, not_false_eq_true, if_true, Sem.run_pure]
theorem eq_iface_eq {tx : Nat} {inf : TypeInfo} {vx vy : Value} (hi : Tryz.prog.info? tx = some inf) (hc : inf.comparable = true) : (Op.equal 20 (.iface tx vx) (.iface tx vy)).run Tryz.prog w = (Op.equalIn 9999 tx vx vy).run Tryz.prog w := by
 have hu : Tryz.prog.underlying 20 = some (.interface (Tryz.prog.methodsAt 20)) := by kernel_rfl
 rw [Op.equal, Op.maxDepth, show (10000 : Nat) = 9999 + 1 from rfl, Op.equalIn]
 simp only [Sem.run_bind, run_underlying hu, Result.andThen_ok, ne_eq, not_true_eq_false, if_false, run_info hi, hc, Bool.not_true, Bool.false_eq_true]
theorem eq_int {k : Int} {tx : Nat} {kd : IntKind} {inf : TypeInfo} {a b : Int} (hi : Tryz.prog.info? tx = some inf) (hc : inf.comparable = true) (hu : Tryz.prog.underlying tx = some (.int kd)) : (Op.equal 20 (.iface tx (.int kd a)) (.iface tx (.int kd b))).run Tryz.prog w = .ok (a == b) w := by
 rw [eq_iface_eq w hi hc, show (9999 : Nat) = 9998 + 1 from rfl, run_equalIn_int w 9998 tx kd kd a b hu]
theorem eq_bool {a b : Bool} : (Op.equal 20 (.iface 4 (.bool a)) (.iface 4 (.bool b))).run Tryz.prog w = .ok (a == b) w := by
 rw [eq_iface_eq w (inf := Tryz.t4) (by kernel_rfl) (by kernel_rfl), show (9999 : Nat) = 9998 + 1 from rfl, run_equalIn_bool w 9998 4 a b (by kernel_rfl)]
theorem eq_str {a b : List UInt8} : (Op.equal 20 (.iface 9 (strV a)) (.iface 9 (strV b))).run Tryz.prog w = .ok (a == b) w := by
 rw [eq_iface_eq w (inf := Tryz.t9) (by kernel_rfl) (by kernel_rfl), show (9999 : Nat) = 9998 + 1 from rfl, strV, strV, run_equalIn_string w 9998 9 _ _ (by kernel_rfl), ByteArray.toList_eq, ByteArray.toList_eq]
theorem eq_uuid {a b : List UInt8} (ha : a.length = 16) (hb : b.length = 16) : (Op.equal 20 (.iface 311 (uuidV a)) (.iface 311 (uuidV b))).run Tryz.prog w = .ok (a == b) w := by
 rw [eq_iface_eq w (inf := Tryz.t311) (by kernel_rfl) (by kernel_rfl), show (9999 : Nat) = 9997 + 2 from rfl]
 exact run_equalIn_bytes w 9997 311 5 16 (by kernel_rfl) (by kernel_rfl) (fun w => by kernel_rfl) a b ha hb
theorem eq_time {a b : Int} : (Op.equal 20 (.iface 243 (timeV a)) (.iface 243 (timeV b))).run Tryz.prog w = .ok (a == b) w := by
 have hp : Tryz.prog.stoodInHeld 243 = false := by kernel_rfl
 have hS : Tryz.prog.underlying 243 = some (.struct (Tryz.prog.fieldsOf 243)) := by kernel_rfl
 rw [eq_iface_eq w (inf := Tryz.t243) (by kernel_rfl) (by kernel_rfl), show (9999 : Nat) = 9998 + 1 from rfl, timeV, timeV, run_equalIn_struct w 9998 243 _ _ hS hp]
 have hf : (Tryz.prog.fieldsOf 243).toList = [(Tryz.prog.fieldsOf 243)[0]!, (Tryz.prog.fieldsOf 243)[1]!] := by kernel_rfl
 have n0 : ((Tryz.prog.fieldsOf 243)[0]!).name ≠ "_" := by decide
 have n1 : ((Tryz.prog.fieldsOf 243)[1]!).name ≠ "_" := by decide
 have t0 : ((Tryz.prog.fieldsOf 243)[0]!).type = 2 := by kernel_rfl
 have t1 : ((Tryz.prog.fieldsOf 243)[1]!).type = 2 := by kernel_rfl
 have o0 : ((Tryz.prog.fieldsOf 243)[0]!).offset = 0 := by kernel_rfl
 have o1 : ((Tryz.prog.fieldsOf 243)[1]!).offset = 1 := by kernel_rfl
 have p0 : ∀ (a : Int) w, (part 2 (timeC a).toArray 0).run Tryz.prog w = .ok (.int .i64 (a / 1000)) w := fun a w => by kernel_rfl
 have p1 : ∀ (a : Int) w, (part 2 (timeC a).toArray 1).run Tryz.prog w = .ok (.int .i64 (a % 1000 * 1000000)) w := fun a w => by kernel_rfl
 have e2 : ∀ (x y : Int) w, (Op.equalIn 9998 2 (.int .i64 x) (.int .i64 y)).run Tryz.prog w = .ok (x == y) w := fun x y w => run_equalIn_int w 9997 2 .i64 .i64 x y (by kernel_rfl)
 rw [hf]
 simp only [Op.eqFields, ne_eq, n0, n1, not_false_eq_true, if_true, Sem.run_bind, t0, t1, o0, o1, p0, p1, e2, Result.andThen_ok]
 by_cases h1 : a / 1000 = b / 1000
 ·by_cases h2 : a % 1000 * 1000000 = b % 1000 * 1000000
  ·obtain rfl : a = b := by omega
   simp [p1, e2]
  ·have : a ≠ b := fun e => h2 (by rw [e])
   simp [h1, h2, this, p1, e2]
 ·have : a ≠ b := fun e => h1 (by rw [e])
  simp [h1, this, p1, e2]
end eq
theorem key_equal {k k' : Int} {n n' : Nat} {t t' : List UInt8} (hs : Scal k n t) (hk : keyK k) (hs' : Scal k' n' t') (hk' : keyK k') (hne : ¬ KeyEq k n t k' n' t') (w : World) :
  (Op.equal 20 (goV k n t) (goV k' n' t')).run Tryz.prog w = .ok false w := by
 rw [goV_key hk, goV_key hk']
 by_cases hT : goT k = goT k'
 ·have hkk := goT_inj hk hk' hT
  have hne' : n = n' → t = t' → False := fun h1 h2 => hne ⟨hkk, h1, h2⟩
  have num : t = [] → t' = [] → (n < 18446744073709551616) → (n' < 18446744073709551616) → n ≠ n' := fun h1 h2 _ _ h => hne' h (by rw [h1, h2])
  have bI : ∀ {a b : Int}, a ≠ b → (a == b) = false := fun h => by simpa using h
  rcases keyK_cases hk with rfl | rfl | rfl | rfl | rfl | rfl | rfl | rfl | rfl | rfl | rfl | rfl | rfl <;>
   rcases keyK_cases hk' with rfl | rfl | rfl | rfl | rfl | rfl | rfl | rfl | rfl | rfl | rfl | rfl | rfl <;>
   first | (exfalso; revert hT; decide) | skip
  all_goals clear hT hkk hk hk' hne
  ·cases hs; cases hs'
   rename_i h1 h2
   show (Op.equal 20 (.iface 4 (.bool (n == 1))) (.iface 4 (.bool (n' == 1)))).run Tryz.prog w = _
   rw [eq_bool]
   have : (n == 1) ≠ (n' == 1) := fun e => by
    have : n = 0 ∨ n = 1 := by omega
    have : n' = 0 ∨ n' = 1 := by omega
    rcases ‹n = 0 ∨ n = 1› with rfl | rfl <;> rcases ‹n' = 0 ∨ n' = 1› with rfl | rfl <;> simp_all
   congr 1
   simpa using this
  ·cases hs; cases hs'
   exact (eq_int (k := 2) w (inf := Tryz.t5) (by kernel_rfl) (by kernel_rfl) (by kernel_rfl)).trans (by rw [bI (fun e => hne' (by omega) rfl)])
  ·cases hs; cases hs'
   exact (eq_int (k := 2) w (inf := Tryz.t44) (by kernel_rfl) (by kernel_rfl) (by kernel_rfl)).trans (by rw [bI (fun e => hne' (by omega) rfl)])
  ·cases hs; cases hs'
   exact (eq_int (k := 2) w (inf := Tryz.t43) (by kernel_rfl) (by kernel_rfl) (by kernel_rfl)).trans (by rw [bI (fun e => hne' (by omega) rfl)])
  ·cases hs; cases hs'
   exact (eq_int (k := 2) w (inf := Tryz.t23) (by kernel_rfl) (by kernel_rfl) (by kernel_rfl)).trans (by rw [bI (fun e => hne' (by omega) rfl)])
  ·cases hs; cases hs'
   exact (eq_int (k := 2) w (inf := Tryz.t207) (by kernel_rfl) (by kernel_rfl) (by kernel_rfl)).trans (by rw [bI (fun e => hne' (sg_inj (by omega) (by omega) e) rfl)])
  ·cases hs; cases hs'
   exact (eq_int (k := 2) w (inf := Tryz.t211) (by kernel_rfl) (by kernel_rfl) (by kernel_rfl)).trans (by rw [bI (fun e => hne' (sg_inj (by omega) (by omega) e) rfl)])
  ·cases hs; cases hs'
   exact (eq_int (k := 2) w (inf := Tryz.t21) (by kernel_rfl) (by kernel_rfl) (by kernel_rfl)).trans (by rw [bI (fun e => hne' (sg_inj (by omega) (by omega) e) rfl)])
  ·cases hs; cases hs'
   exact (eq_int (k := 2) w (inf := Tryz.t2) (by kernel_rfl) (by kernel_rfl) (by kernel_rfl)).trans (by rw [bI (fun e => hne' (sg_inj (by omega) (by omega) e) rfl)])
  ·cases hs; cases hs'
   exact (eq_time w).trans (by rw [bI (fun e => hne' (sg_inj (by omega) (by omega) e) rfl)])
  ·cases hs with | uuid h1 => cases hs' with | uuid h2 => exact (eq_uuid w h1 h2).trans (by rw [show (t == t') = false by simpa using hne' rfl])
  ·cases hs; cases hs'; exact (eq_str w).trans (by rw [show (t == t') = false by simpa using hne' rfl])
  ·cases hs; cases hs'; exact (eq_str w).trans (by rw [show (t == t') = false by simpa using hne' rfl])
  ·cases hs; cases hs'; exact (eq_str w).trans (by rw [show (t == t') = false by simpa using hne' rfl])
  ·cases hs; cases hs'; exact (eq_str w).trans (by rw [show (t == t') = false by simpa using hne' rfl])
 ·exact eq_iface_ne w hT
theorem check_key {k : Int} {n : Nat} {t : List UInt8} (hs : Scal k n t) (hk : keyK k) (w : World) : (Instr.checkKey false 10000 20 (goV k n t)).run Tryz.prog w = .ok () w := by
 rcases keyK_cases hk with rfl | rfl | rfl | rfl | rfl | rfl | rfl | rfl | rfl | rfl | rfl | rfl | rfl
 case inr.inr.inr.inr.inr.inr.inr.inr.inr.inr.inl =>
  cases hs with
  | uuid h =>
   obtain ⟨x0, x1, x2, x3, x4, x5, x6, x7, x8, x9, x10, x11, x12, x13, x14, x15, rfl⟩ := list16 h
   kernel_rfl
 all_goals kernel_rfl
theorem find_asking {kt : TypeId} {key : Value} {w : World} : ∀ {es : List MapEntry} {i : Nat}, (∀ e ∈ es, (Op.equal kt key e.key).run Tryz.prog w = .ok false w) → (Instr.findAsking kt key es i).run Tryz.prog w = .ok none w
 | [], i, _ => by simp [Instr.findAsking]
 | e :: es, i, h => by
  rw [Instr.findAsking]
  simp only [Sem.run_bind, h e (by simp), Result.andThen_ok, Bool.false_eq_true, if_false]
  exact find_asking fun x hx => h x (by simp [hx])
theorem newKey_any {k : Int} {n : Nat} {t : List UInt8} {es : Array MapEntry} (hs : Scal k n t) (hk : keyK k)
  (h : ∀ e ∈ es.toList, ∃ k' n' t', e.key = goV k' n' t' ∧ Scal k' n' t' ∧ keyK k' ∧ ¬ KeyEq k n t k' n' t') : NewKey Tryz.prog 20 (goV k n t) es := fun w => by
 refine ⟨check_key hs hk w, ?_⟩
 have hu : Tryz.prog.underlying 20 = some (.interface (Tryz.prog.methodsAt 20)) := by kernel_rfl
 have hask : ∀ e ∈ es.toList, (Op.equal 20 (goV k n t) e.key).run Tryz.prog w = .ok false w := fun e he => by
  obtain ⟨k', n', t', e1, e2, e3, e4⟩ := h e he
  rw [e1]
  exact key_equal hs hk e2 e3 e4 w
 rw [Instr.findKey]
 simp only [Sem.run_bind, run_underlying hu, Result.andThen_ok]
 split
 ·rename_i r hr
  have : es.toList = [] := by
   cases hl : es.toList with
   | nil => rfl
   | cons e l => rw [hl] at hr; simp [Instr.findNow, Instr.sameNow] at hr
  rw [this] at hr
  simp only [Instr.findNow, Option.some.injEq] at hr
  subst hr
  simp
 ·exact find_asking hask
theorem bytes_beq (a b : List UInt8) : ((⟨a.toArray⟩ : ByteArray) == ⟨b.toArray⟩) = (a == b) := by
 rw [beq_toListBytes, ByteArray.toList_eq, ByteArray.toList_eq]
theorem find_now_str {k : List UInt8} : ∀ {es : List MapEntry} {i : Nat}, (∀ e ∈ es, ∃ t, e.key = strV t ∧ t ≠ k) → Instr.findNow .string (strV k) es i = some none
 | [], i, _ => rfl
 | e :: es, i, h => by
  obtain ⟨t, h1, h2⟩ := h e (by simp)
  have hb : ((⟨k.toArray⟩ : ByteArray) == ⟨t.toArray⟩) = false := by
   rw [bytes_beq, beq_eq_false_iff_ne]
   exact fun e => h2 e.symm
  simp only [Instr.findNow, h1, strV, Instr.sameNow, hb]
  exact find_now_str fun x hx => h x (by simp [hx])
theorem newKey_str {kt : Nat} (hu : Tryz.prog.underlying kt = some .string) {t : List UInt8} {es : Array MapEntry} (h : ∀ e ∈ es.toList, ∃ t', e.key = strV t' ∧ t' ≠ t) : NewKey Tryz.prog kt (strV t) es := fun w => by
 refine ⟨?_, ?_⟩
 ·rw [show (10000 : Nat) = 9999 + 1 from rfl, Instr.checkKey]
  simp only [Sem.run_bind, run_underlying hu, Result.andThen_ok]
  rfl
 ·rw [Instr.findKey]
  simp only [Sem.run_bind, run_underlying hu, Result.andThen_ok, find_now_str h]
  simp
theorem find_now_at {k : List UInt8} : ∀ {es : List MapEntry} {i j : Nat} {e : MapEntry}, es[j]? = some e → e.key = strV k → (∀ (l : Nat) (x : MapEntry), l < j → es[l]? = some x → ∃ t, x.key = strV t ∧ t ≠ k) → Instr.findNow .string (strV k) es i = some (some (i + j, e.val))
 | [], i, j, e, h, _, _ => by simp at h
 | x :: es, i, 0, e, h, hk, _ => by
  simp only [List.getElem?_cons_zero, Option.some.injEq] at h
  subst h
  simp [Instr.findNow, hk, strV, Instr.sameNow, bytes_beq]
 | x :: es, i, j + 1, e, h, hk, hl => by
  obtain ⟨t, h1, h2⟩ := hl 0 x (by omega) rfl
  have hb : ((⟨k.toArray⟩ : ByteArray) == ⟨t.toArray⟩) = false := by
   rw [bytes_beq, beq_eq_false_iff_ne]
   exact fun e => h2 e.symm
  simp only [Instr.findNow, h1, strV, Instr.sameNow, hb]
  have := find_now_at (es := es) (i := i + 1) (j := j) (e := e) (by simpa using h) hk fun l y hy hx => hl (l + 1) y (by omega) (by simpa using hx)
  rw [show i + 1 + j = i + (j + 1) by omega] at this
  exact this
theorem find_str {kt : Nat} (hu : Tryz.prog.underlying kt = some .string) {t : List UInt8} {es : Array MapEntry} {j : Nat} {e : MapEntry} (he : es.toList[j]? = some e) (hk : e.key = strV t)
  (h : ∀ (l : Nat) (x : MapEntry), l < j → es.toList[l]? = some x → ∃ t', x.key = strV t' ∧ t' ≠ t) : FindIs Tryz.prog kt (strV t) es (some (j, e.val)) := fun w => by
 refine ⟨?_, ?_⟩
 ·rw [show (10000 : Nat) = 9999 + 1 from rfl, Instr.checkKey]
  simp only [Sem.run_bind, run_underlying hu, Result.andThen_ok]
  rfl
 ·rw [Instr.findKey]
  simp only [Sem.run_bind, run_underlying hu, Result.andThen_ok, find_now_at he hk h]
  simp
structure MapIs (I : Imm) (K : V → Value) (ks : List V) (r : Nat) (es : Array MapEntry) : Prop where
 at' : I.m r = some (es, es.size)
 len : 2 * es.size = ks.length
 ent : ∀ (i : Nat) (k v : V) (e : MapEntry), ks[2 * i]? = some k → ks[2 * i + 1]? = some v → es.toList[i]? = some e → e.key = K k ∧ e.born = i ∧ GoAny I v e.val
def keyV (x : V) : Value := goV x.kind x.num x.text
def textV (x : V) : Value := strV x.text
theorem arr_push {es : Array MapEntry} {x e : MapEntry} {j : Nat} (h : (es.push x).toList[j]? = some e) : (j < es.size ∧ es.toList[j]? = some e) ∨ (j = es.size ∧ e = x) := by
 rw [Array.toList_push] at h
 by_cases hj : j < es.size
 ·rw [List.getElem?_append_left (by simpa using hj)] at h
  exact .inl ⟨hj, h⟩
 ·rw [List.getElem?_append_right (by simpa using hj)] at h
  have h1 := (List.getElem?_eq_some_iff.1 h).1
  simp only [Array.length_toList, List.length_cons, List.length_nil] at h1
  have : j = es.size := by omega
  subst this
  simp at h
  exact .inr ⟨rfl, h.symm⟩
section rd
variable {I : Imm} {b : Nat} {bs : List UInt8} {v : Value} {off : Nat} {Q : Qt}
theorem keyed_law {k : Int} {n : Nat} {t : List UInt8} (hk : keyK k) (h : Q (.bool true) [] [] I) : WP Tryz.prog 227 #[goV k n t] [] [] I Q := by
 rcases keyK_cases hk with rfl | rfl | rfl | rfl | rfl | rfl | rfl | rfl | rfl | rfl | rfl | rfl | rfl
 all_goals
  refine lw K227 [] [goV _ n t] Tryz.func227 ?_
  refine G ?_
  refine L0 ?_
  exact h
theorem unmarshalMapItems_law {ks : List V} {o : Int} {es : List (List UInt8)} {r : List UInt8} {bl : Nat} (hk : ∀ (i : Nat) (y : V), ks[i]? = some y → RdP y) (hx : Kv (.mk 22 0 [] ks o [])) (hn : ks.length ≤ 65536) (hv : BufAt I bs v) (hl : es.length = ks.length)
  (he : ∀ (i : Nat) (x : V) (e : List UInt8), ks[i]? = some x → es[i]? = some e → Enc x e) (hr : bs.drop off = es.flatten ++ r)
  (h : ∀ I' m me, I.le I' → MapIs I' keyV ks m me → bs.drop (off + es.flatten.length) = r → Q .nilIface [[.map (some m)], bufC v (off + es.flatten.length)] [] I') :
  WP Tryz.prog 205 #[ptr bl, ptr b, .int .u32 (ks.length : Nat)] [(bl, [.map none]), (b, bufC v off)] [] I Q := by
 have hsm := hv.small
 have hx' : (ks.length % 2 = 0) ∧ (∀ (i : Nat) (x : V), i % 2 = 0 → ks[i]? = some x → ∃ k n t o, x = .mk k n t [] o [] ∧ Scal k n t ∧ keyK k) ∧
   (∀ (i j : Nat) (x y : V), i % 2 = 0 → j % 2 = 0 → j < i → ks[i]? = some x → ks[j]? = some y → ¬ Same (asKey y) (asKey x)) := by
  cases hx with
  | sc hs => cases hs
  | map he h hk hd => exact ⟨he, hk, hd⟩
 obtain ⟨hev, hkey, hdist⟩ := hx'
 refine lw K205 [(0,1000),(1,1001)] _ Tryz.func205 ?_
 refine G ?_
 refine ⟨by decide, _, rfl, ?_⟩
 refine G ?_
 intro m
 refine G ?_
 refine ⟨⟨[8], [1001], [], fun me vs cs R J => ∃ (i : Nat) (ms : Array MapEntry), vs = [.int .u32 ((i * 2 : Nat) : Int)] ∧ cs = [bufC v (off + (es.take (i * 2)).flatten.length)] ∧ i * 2 ≤ ks.length ∧ me = ks.length - i * 2 ∧
   R = [(14, .map m ms ms.size)] ∧ ms.size = i ∧
   (∀ (j : Nat) (k x : V) (e : MapEntry), ks[2 * j]? = some k → ks[2 * j + 1]? = some x → ms.toList[j]? = some e → e.key = keyV k ∧ e.born = j ∧ GoAny J x e.val), ks.length, _, _, rfl, rfl,
  ⟨0, #[], rfl, by simp, by omega, rfl, rfl, rfl, fun j k x e _ _ he => by simp at he⟩, ?_⟩⟩
 rintro me vs cs R J hJ _ _ ⟨i, ms, rfl, rfl, hi, rfl, rfl, hms, hent⟩
 replace hJ : I.le J := hJ
 refine G ?_
 split
 ·rename_i hlt _
  have hi1 : i * 2 < ks.length := by omega
  have hi2 : i * 2 + 1 < ks.length := by omega
  have hie : i * 2 < es.length := by omega
  have hie2 : i * 2 + 1 < es.length := by omega
  have hd1 := drop_flat hr hie
  have hd2 := drop_flat hr hie2
  have htf := take_flat hie
  have htf2 := take_flat hie2
  obtain ⟨kk, kn, kt, ko, hkx, hks, hkk⟩ := hkey (i * 2) ks[i * 2] (by omega) (by simp [hi1])
  refine G ?_
  refine Cx [1001] ?_
  refine hk (i * 2) ks[i * 2] (by simp [hi1]) J b bs v _ es[i * 2] _ _ (hv.mono hJ) (he (i * 2) ks[i * 2] es[i * 2] (by simp [hi1]) (by simp [hie])) hd1 fun J1 g hJ1 hg hr1 => ?_
  have hgv : g = goV kk kn kt := by
   rw [hkx] at hg
   cases hg with
   | sc => rfl
   | bin => exfalso; revert hkk; unfold keyK; omega
   | list => cases hks
   | arr => cases hks
   | map => cases hks
   | smap => cases hks
  subst hgv
  rw [goV_key hkk]
  refine G ?_
  rw [show off + (es.take (i * 2)).flatten.length + es[i * 2].length = off + (es.take (i * 2 + 1)).flatten.length by rw [htf]; omega]
  refine Cx [1001] ?_
  refine hk (i * 2 + 1) ks[i * 2 + 1] (by simp [hi2]) J1 b bs v _ es[i * 2 + 1] _ _ (hv.mono (hJ.trans hJ1)) (he (i * 2 + 1) ks[i * 2 + 1] es[i * 2 + 1] (by simp [hi2]) (by simp [hie2])) hd2 fun J2 g2 hJ2 hg2 hr2 => ?_
  have hnew : NewKey Tryz.prog 20 (.iface (goT kk) (goP kk kn kt)) ms := by
   rw [← goV_key hkk]
   refine newKey_any hks hkk fun e he => ?_
   obtain ⟨j, hj⟩ := List.mem_iff_getElem?.1 he
   have hjl : j < i := by have := (List.getElem?_eq_some_iff.1 hj).1; simp at this; omega
   have g1 : ks[2 * j]? = some (ks[2 * j]'(by omega)) := by simp
   have g2 : ks[2 * j + 1]? = some (ks[2 * j + 1]'(by omega)) := by simp
   obtain ⟨k', n', t', o', e1, e2, e3⟩ := hkey (2 * j) _ (by omega) g1
   refine ⟨k', n', t', ?_, e2, e3, fun ⟨q1, q2, q3⟩ => ?_⟩
   ·rw [(hent j _ _ e g1 g2 hj).1, e1]; rfl
   ·refine hdist (i * 2) (2 * j) _ _ (by omega) (by omega) (by omega) (show ks[i * 2]? = some ks[i * 2] by simp [hi1]) g1 ?_
    rw [e1, hkx, asKey, asKey]
    simp only [V.kind, V.num, V.text, V.of, V.desc]
    rw [q1, q2, q3]
    exact same_sc
  rcases hg2.form with rfl | ⟨ty, p, rfl⟩
  all_goals
   refine G ?_
   refine Cx [] ?_
   rw [← goV_key hkk]
   refine keyed_law hkk ?_
   rw [goV_key hkk]
   refine G ?_
   refine ⟨14, _, _, rfl, hnew, ?_⟩
   refine G ?_
   refine ⟨ks.length - (i + 1) * 2, _, _, by omega, rfl, rfl, rfl, rfl, .inl ⟨i + 1, _, by rw [Nat.succ_mul]; rfl, ?_, by omega, rfl, by rw [Array.size_push], by rw [Array.size_push, hms], fun j k x e hk1 hk2 he1 => ?_⟩⟩
   ·rw [show (i + 1) * 2 = i * 2 + 1 + 1 by omega, htf2, Nat.add_assoc]
   ·rcases arr_push he1 with ⟨hj, he2⟩ | ⟨hj, rfl⟩
    ·obtain ⟨q1, q2, q3⟩ := hent j k x e hk1 hk2 he2
     exact ⟨q1, q2, q3.mono (hJ1.trans hJ2)⟩
    ·subst hj
     rw [hms, show 2 * i = i * 2 by omega] at hk1 hk2
     simp [hi1] at hk1
     simp [hi2] at hk2
     subst hk1 hk2
     refine ⟨?_, rfl, hg2⟩
     rw [hkx]
     exact (goV_key hkk kn kt).symm
 ·rename_i hge _
  have hik : i * 2 = ks.length := by omega
  have hfl : (es.take (i * 2)).flatten.length = es.flatten.length := by rw [List.take_of_length_le (by omega)]
  rw [hfl]
  refine G ?_
  refine ⟨⟨[], [], [], [14], ?_⟩⟩
  intro J1 hJ1 hm
  conv => whnf
  refine h J1 m ms (hJ.trans hJ1) ⟨hm, by omega, fun j k x e h1 h2 h3 => ?_⟩ (take_of_drop hr).2.2
  obtain ⟨q1, q2, q3⟩ := hent j k x e h1 h2 h3
  exact ⟨q1, q2, q3.mono hJ1⟩
theorem mapAnyUnm_law {ks : List V} {o : Int} {es : List (List UInt8)} {hd r : List UInt8} {bl : Nat} (hk : ∀ (i : Nat) (y : V), ks[i]? = some y → RdP y) (hx : Kv (.mk 22 0 [] ks o [])) (hv : BufAt I bs v) (hl : es.length = ks.length)
  (he : ∀ (i : Nat) (x : V) (e : List UInt8), ks[i]? = some x → es[i]? = some e → Enc x e) (hh : HeadE 0xc1 0xd1 ks.length hd es.flatten) (hdr : bs.drop off = hd ++ (es.flatten ++ r))
  (h : ∀ I' m me, I.le I' → MapIs I' keyV ks m me → bs.drop (off + hd.length + es.flatten.length) = r → Q .nilIface [[.map (some m)], bufC v (off + hd.length + es.flatten.length)] [] I') :
  WP Tryz.prog 132 #[ptr bl, ptr b] [(bl, [.map none]), (b, bufC v off)] [] I Q := by
 have hn : ks.length ≤ 65536 := (head_pos hh).2
 refine lw K132 [(0,1000),(1,1001)] _ Tryz.func132 ?_
 refine G ?_
 refine Cx [1001] ?_
 refine readMapHeader_law hv hh hdr fun hr => ?_
 refine G ?_
 refine Cx [1000,1001] ?_
 refine unmarshalMapItems_law hk hx hn hv hl he hr fun I' m me hi hm hr2 => ?_
 refine G ?_
 refine L0 ?_
 exact h I' m me hi hm hr2
end rd
theorem nodup_le : ∀ {n : Nat} {l : List Nat}, l.Nodup → (∀ b ∈ l, b < n) → l.length ≤ n
 | 0, [], _, _ => by simp
 | 0, b :: l, _, h => absurd (h b (by simp)) (by omega)
 | n + 1, l, hn, h => by
  by_cases hm : n ∈ l
  ·have h1 := nodup_le (n := n) (l := l.erase n) (hn.erase n) fun b hb => by
    have h2 := h b (List.mem_of_mem_erase hb)
    have h3 : b ≠ n := fun e => by subst e; exact (hn.mem_erase_iff.1 hb).1 rfl
    omega
   rw [List.length_erase_of_mem hm] at h1
   omega
  ·have := nodup_le (n := n) (l := l) hn fun b hb => by
    have h2 := h b hb
    have h3 : b ≠ n := fun e => hm (by rw [← e]; exact hb)
    omega
   omega
structure Seen (n : Nat) (seen : Array Nat) : Prop where
 nodup : seen.toList.Nodup
 lt : ∀ b ∈ seen.toList, b < n
theorem Seen.nil (n : Nat) : Seen n #[] := ⟨by simp, by simp⟩
theorem Seen.le {n : Nat} {seen : Array Nat} (h : Seen n seen) : seen.size ≤ n := by simpa using nodup_le h.nodup h.lt
theorem Seen.push {n : Nat} {seen : Array Nat} {b : Nat} (h : Seen n seen) (hb : b < n) (hn : b ∉ seen) : Seen n (seen.push b) := by
 refine ⟨?_, fun x hx => ?_⟩
 ·rw [Array.toList_push, List.nodup_append]
  refine ⟨h.nodup, by simp, fun x hx y hy e => ?_⟩
  simp at hy
  subst e hy
  exact hn (by simpa using hx)
 ·rw [Array.toList_push] at hx
  rcases List.mem_append.1 hx with hx | hx
  ·exact h.lt x hx
  ·simp at hx; omega
theorem Seen.room {n : Nat} {seen : Array Nat} {b : Nat} (h : Seen n seen) (hb : b < n) (hn : b ∉ seen) : seen.size < n := by
 have := (h.push hb hn).le
 simp at this
 omega
def Born (es : Array MapEntry) : Prop := ∀ (i : Nat) (e : MapEntry), es.toList[i]? = some e → e.born = i
theorem Born.lt {es : Array MapEntry} (h : Born es) : ∀ e ∈ es.toList, e.born < es.size := fun e he => by
 obtain ⟨i, hi⟩ := List.mem_iff_getElem?.1 he
 rw [h i e hi]
 simpa using (List.getElem?_eq_some_iff.1 hi).1
theorem Born.get {es : Array MapEntry} (h : Born es) {e : MapEntry} (he : e ∈ es.toList) : es.toList[e.born]? = some e := by
 obtain ⟨i, hi⟩ := List.mem_iff_getElem?.1 he
 rw [h i e hi]
 exact hi
theorem Born.find {es : Array MapEntry} (h : Born es) {e : MapEntry} (he : e ∈ es.toList) : es.find? (·.born == e.born) = some e := by
 rw [← Array.find?_toList]
 have hg := h.get he
 generalize hb : e.born = n at *
 have key : ∀ (l : List MapEntry) (k : Nat), (∀ (i : Nat) (x : MapEntry), l[i]? = some x → x.born = k + i) → ∀ j, l[j]? = some e → n = k + j → l.find? (fun x => x.born == n) = some e := by
  intro l
  induction l with
  | nil => intro k _ j hj; simp at hj
  | cons x l ih =>
   intro k hx j hj hn
   cases j with
   | zero =>
    simp only [List.getElem?_cons_zero, Option.some.injEq] at hj
    subst hj
    simp [List.find?_cons, hb]
   | succ j =>
    have h0 := hx 0 x rfl
    rw [List.find?_cons, show (x.born == n) = false by simp; omega]
    exact ih (k + 1) (fun i y hy => by have := hx (i + 1) y (by simpa using hy); omega) j (by simpa using hj) (by omega)
 exact key es.toList 0 (fun i x hx => by rw [Nat.zero_add]; exact h i x hx) n hg (by omega)
theorem MapIs.born {I : Imm} {K : V → Value} {ks : List V} {r : Nat} {es : Array MapEntry} (h : MapIs I K ks r es) : Born es := fun i e he => by
 have hi := (List.getElem?_eq_some_iff.1 he).1
 simp only [Array.length_toList] at hi
 have := h.len
 exact (h.ent i (ks[2 * i]'(by omega)) (ks[2 * i + 1]'(by omega)) e (by simp) (by simp) he).2.1
theorem MapIs.plen {I : Imm} {K : V → Value} {ks : List V} {r : Nat} {es : Array MapEntry} (h : MapIs I K ks r es) : es.size = (prs ks).length := by rw [prs_len]; have := h.len; omega
theorem MapIs.pat {I : Imm} {K : V → Value} {ks : List V} {r : Nat} {es : Array MapEntry} (h : MapIs I K ks r es) {i : Nat} {p : V × V} {e : MapEntry} (hp : (prs ks)[i]? = some p) (he : es.toList[i]? = some e) : e.key = K p.1 ∧ GoAny I p.2 e.val := by
 obtain ⟨h1, h2⟩ := prs_mem hp
 obtain ⟨q1, _, q3⟩ := h.ent i p.1 p.2 e h1 h2 he
 exact ⟨q1, q3⟩
theorem MapIs.go {I : Imm} {ks : List V} {o : Int} {r : Nat} {es : Array MapEntry} (h : MapIs I keyV ks r es) : GoAny I (.mk 22 0 [] ks o []) (.iface 291 (.map (some r))) :=
 .map h.at' h.born (.refl _) h.plen (fun _ _ _ hp he => (h.pat hp he).1) (fun _ _ _ hp he => (h.pat hp he).2)
theorem key_text {k : Int} {n : Nat} {t : List UInt8} {x : Value} (hk : keyK k) (h : goV k n t = .iface 9 x) : (k = 19 ∨ k = 20) ∧ x = strV t := by
 rcases keyK_cases hk with rfl | rfl | rfl | rfl | rfl | rfl | rfl | rfl | rfl | rfl | rfl | rfl | rfl
 all_goals first
  | exact ⟨by decide, by injection h with _ h; exact h.symm⟩
  | (exfalso; injection h with h _; revert h; decide)
section rd
variable {I : Imm} {b : Nat} {bs : List UInt8} {v : Value} {off : Nat} {Q : Qt}
theorem readMapItems_law {ks : List V} {o : Int} {r : Nat} {es : Array MapEntry} (hm : MapIs I keyV ks r es) (hx : Kv (.mk 22 0 [] ks o [])) (h : ∀ I' g, I.le I' → GoAny I' (.mk 22 0 [] ks o []) g → Q (.tuple #[g, .nilIface]) [] [] I') :
  WP Tryz.prog 223 #[.map (some r)] [] [] I Q := by
 have hx' : (∀ (i : Nat) (x : V), i % 2 = 0 → ks[i]? = some x → ∃ k n t o, x = .mk k n t [] o [] ∧ Scal k n t ∧ keyK k) ∧
   (∀ (i j : Nat) (x y : V), i % 2 = 0 → j % 2 = 0 → j < i → ks[i]? = some x → ks[j]? = some y → ¬ Same (asKey y) (asKey x)) := by
  cases hx with
  | sc hs => cases hs
  | map he h hk hd => exact ⟨hk, hd⟩
 obtain ⟨hkey, hdist⟩ := hx'
 have hb := hm.born
 have hmem : ∀ e ∈ es.toList, e.born < es.size := hb.lt
 have hlen := hm.len
 have pr : ∀ e ∈ es.toList, ∃ k n t o x, ks[2 * e.born]? = some (.mk k n t [] o []) ∧ ks[2 * e.born + 1]? = some x ∧ Scal k n t ∧ keyK k ∧ e.key = goV k n t ∧ GoAny I x e.val := fun e he => by
  have hlt := hmem e he
  have hg := hb.get he
  have g1 : ks[2 * e.born]? = some (ks[2 * e.born]'(by omega)) := by simp
  have g2 : ks[2 * e.born + 1]? = some (ks[2 * e.born + 1]'(by omega)) := by simp
  obtain ⟨k, n, t, o', e1, e2, e3⟩ := hkey (2 * e.born) _ (by omega) g1
  obtain ⟨q1, q2, q3⟩ := hm.ent e.born _ _ e g1 g2 hg
  rw [e1] at g1 q1
  exact ⟨k, n, t, o', _, g1, g2, e2, e3, q1, q3⟩
 refine lw K223 [] _ Tryz.func223 ?_
 refine G ?_
 refine ⟨es, _, .inl hm.at', ?_⟩
 refine G ?_
 split
 ·rename_i hz _
  refine G ?_
  refine L0 ?_
  exact h I _ (.refl I) hm.go
 ·rename_i hz _
  refine G ?_
  refine ⟨es, _, hm.at', fun it => ?_⟩
  refine G ?_
  refine ⟨⟨[4], [], [], fun m vs cs R J => ∃ seen : Array Nat, vs = [.bool true] ∧ cs = [] ∧ m = es.size - seen.size ∧ I = J ∧ R = [(17, .iter it (some r) es.size seen es.size)] ∧ Seen es.size seen ∧
    (∀ e ∈ es.toList, e.born ∈ seen → ∃ t, e.key = .iface 9 (strV t)), es.size, _, _, rfl, rfl, ⟨#[], rfl, rfl, rfl, rfl, rfl, .nil _, by simp⟩, ?_⟩⟩
  rintro m vs cs R J hJ _ _ ⟨seen, rfl, rfl, rfl, rfl, rfl, hse, hstr⟩
  refine G ?_
  refine ⟨17, some r, es.size, seen, es.size, rfl, es, hm.at', rfl, hmem, fun hall => ?_, fun e he hns => ?_⟩
  ·have hall' : ∀ e ∈ es.toList, ∃ t, e.key = .iface 9 (strV t) := fun e he => hstr e he (hall e he)
   refine G ?_
   refine ⟨es, _, .inl hm.at', ?_⟩
   refine G ?_
   intro r2
   refine G ?_
   refine ⟨es, _, hm.at', fun it2 => ?_⟩
   refine G ?_
   refine ⟨⟨[], [], [], fun m vs cs R J => ∃ (sn : Array Nat) (ms : Array MapEntry), vs = [] ∧ cs = [] ∧ m = es.size - sn.size ∧ I = J ∧
     R = [(17, .iter it (some r) es.size seen es.size), (32, .map r2 ms ms.size), (34, .iter it2 (some r) es.size sn es.size)] ∧ Seen es.size sn ∧ ms.size = sn.size ∧
     (∀ (i : Nat) (e : MapEntry) (bo : Nat) (e0 : MapEntry), ms.toList[i]? = some e → sn.toList[i]? = some bo → es.toList[bo]? = some e0 → e.born = i ∧ e0.key = .iface 9 e.key ∧ e.val = e0.val), es.size, _, _, rfl, rfl,
    ⟨#[], #[], rfl, rfl, rfl, rfl, rfl, .nil _, rfl, by simp⟩, ?_⟩⟩
   rintro m vs cs R J hJ2 _ _ ⟨sn, ms, rfl, rfl, rfl, rfl, rfl, hsn, hms, hent⟩
   refine G ?_
   refine ⟨34, some r, es.size, sn, es.size, rfl, es, hm.at', rfl, hmem, fun hall2 => ?_, fun e he hns => ?_⟩
   ·refine G ?_
    refine ⟨⟨[], [], [], [32], ?_⟩⟩
    intro J1 hJ1 hfm
    conv => whnf
    have hperm : sn.toList.Perm (List.range es.size) := by
     refine (List.perm_ext_iff_of_nodup hsn.nodup List.nodup_range).2 fun a => ⟨fun h => List.mem_range.2 (hsn.lt a h), fun h => ?_⟩
     have hlt := List.mem_range.1 h
     have hg : es.toList[a]? = some es.toList[a] := by simp [hlt]
     have := hall2 _ (List.mem_of_getElem? hg)
     rw [hb a _ hg] at this
     simpa using this
    have hlp : ms.size = (sn.toList.map fun b => (prs ks).getD b (vNull, vNull)).length := by rw [List.length_map, hms]; simp
    have pget : ∀ (i : Nat) (p : V × V), (sn.toList.map fun b => (prs ks).getD b (vNull, vNull))[i]? = some p → ∃ bo e0, sn.toList[i]? = some bo ∧ (prs ks)[bo]? = some p ∧ es.toList[bo]? = some e0 := fun i p hp => by
     simp only [List.getElem?_map, Option.map_eq_some_iff] at hp
     obtain ⟨bo, h1, h2⟩ := hp
     have hlt := hsn.lt bo (List.mem_of_getElem? h1)
     have hlt2 : bo < (prs ks).length := by rw [← hm.plen]; exact hlt
     refine ⟨bo, es.toList[bo]'(by simpa using hlt), h1, ?_, by simp [hlt]⟩
     rw [← h2, List.getD_eq_getElem?_getD, List.getElem?_eq_getElem hlt2]
     rfl
    refine h J1 _ hJ1 (.smap hfm (fun i e hi => ?_) (ps := sn.toList.map fun b => (prs ks).getD b (vNull, vNull)) ?_ hlp (fun i p e hp he => ?_) (fun i p e hp he => ?_))
    ·have hi' : i < sn.toList.length := by have := (List.getElem?_eq_some_iff.1 hi).1; simp at this ⊢; omega
     have hlt := hsn.lt sn.toList[i] (by simp)
     exact (hent i e sn.toList[i] (es.toList[sn.toList[i]]'(by simpa using hlt)) hi (by simp) (by simp)).1
    ·refine (hperm.map _).trans (List.Perm.of_eq ?_)
     refine List.ext_getElem? fun i => ?_
     by_cases hi : i < es.size
     ·have : i < (prs ks).length := by rw [← hm.plen]; exact hi
      rw [List.getElem?_map, List.getElem?_range hi, Option.map_some, List.getD_eq_getElem?_getD, List.getElem?_eq_getElem this]
      rfl
     ·rw [List.getElem?_eq_none (by simp; omega), List.getElem?_eq_none (by rw [← hm.plen]; omega)]
    ·obtain ⟨bo, e0, h1, h2, h3⟩ := pget i p hp
     obtain ⟨q1, q2, q3⟩ := hent i e bo e0 he h1 h3
     have hk := (hm.pat h2 h3).1
     rw [q2] at hk
     obtain ⟨k, n, t, o', e1, e2, e3⟩ := hkey (2 * bo) p.1 (by omega) (prs_mem h2).1
     rw [e1] at hk ⊢
     exact key_text e3 hk.symm
    ·obtain ⟨bo, e0, h1, h2, h3⟩ := pget i p hp
     obtain ⟨q1, q2, q3⟩ := hent i e bo e0 he h1 h3
     rw [q3]
     exact (hm.pat h2 h3).2.mono hJ1
   ·have hlt := hmem e he
    have hg := hb.get he
    have hfd := hb.find he
    obtain ⟨k, n, t, o', x, p1, p2, p3, p4, p5, p6⟩ := pr e he
    obtain ⟨t', ht'⟩ := hall' e he
    obtain ⟨hk19, htt⟩ := key_text p4 (p5.symm.trans ht')
    have hroom := hsn.room hlt hns
    have hnew : NewKey Tryz.prog 9 (strV t') ms := by
     refine newKey_str (by kernel_rfl) fun e' he' => ?_
     obtain ⟨i, hi⟩ := List.mem_iff_getElem?.1 he'
     have hi' : i < sn.toList.length := by have := (List.getElem?_eq_some_iff.1 hi).1; simp at this ⊢; omega
     have hlt2 := hsn.lt sn.toList[i] (by simp)
     have hmem2 : sn.toList[i] ∈ sn := by simpa using List.getElem_mem hi'
     have g0 : es.toList[sn.toList[i]]? = some (es.toList[sn.toList[i]]'(by simpa using hlt2)) := by simp
     obtain ⟨q1, q2, q3⟩ := hent i e' sn.toList[i] _ hi (by simp) g0
     generalize es.toList[sn.toList[i]]'(by simpa using hlt2) = e0 at g0 q2 q3
     have hb0 := hb _ _ g0
     obtain ⟨k2, n2, t2, o2, x2, r1, r2, r3, r4, r5, r6⟩ := pr e0 (List.mem_of_getElem? g0)
     obtain ⟨hk2, htt2⟩ := key_text r4 (r5.symm.trans q2)
     refine ⟨t2, htt2, fun e9 => ?_⟩
     have htt' : strV t' = strV t := htt
     have e10 : t' = t := by unfold strV at htt'; injection htt' with h; injection h with h; simpa using h
     have hne : e0.born ≠ e.born := fun h => hns (by rw [← h, hb0]; exact hmem2)
     have n0 : n = 0 := by rcases hk19 with rfl | rfl <;> cases p3 <;> rfl
     have n2' : n2 = 0 := by rcases hk2 with rfl | rfl <;> cases r3 <;> rfl
     have key : ∀ a b o o', (a = 19 ∨ a = 20) → (b = 19 ∨ b = 20) → Same (asKey (.mk a 0 t' [] o [])) (asKey (.mk b 0 t' [] o' [])) := fun a b o o' ha hb => by
      rcases ha with rfl | rfl <;> rcases hb with rfl | rfl <;> exact same_sc
     subst e10 e9 n0 n2'
     rcases Nat.lt_or_gt_of_ne hne with hl | hl
     ·exact hdist (2 * e.born) (2 * e0.born) _ _ (by omega) (by omega) (by omega) p1 r1 (key _ _ _ _ hk2 hk19)
     ·exact hdist (2 * e0.born) (2 * e.born) _ _ (by omega) (by omega) (by omega) r1 p1 (key _ _ _ _ hk19 hk2)
    obtain ⟨key, val, born⟩ := e
    obtain rfl : key = .iface 9 (strV t') := ht'
    refine G ?_
    refine ⟨34, r, es.size, sn.push born, ⟨.iface 9 (strV t'), val, born⟩, es, rfl, hm.at', by simp, hfd, ?_⟩
    refine G ?_
    refine ⟨32, _, _, rfl, hnew, ?_⟩
    refine G ?_
    refine ⟨es.size - (sn.push born).size, _, _, by simp; omega, rfl, rfl, rfl, rfl, .inl ⟨sn.push born, _, rfl, rfl, rfl, rfl, by rw [Array.size_push], hsn.push hlt hns, by simp [hms], fun i e' bo e0 h1 h2 h3 => ?_⟩⟩
    rcases arr_push h1 with ⟨hj, he2⟩ | ⟨hj, rfl⟩
    ·rw [Array.toList_push, List.getElem?_append_left (by simp; omega)] at h2
     exact hent i e' bo e0 he2 h2 h3
    ·subst hj
     rw [Array.toList_push, List.getElem?_append_right (by simp; omega)] at h2
     simp [hms] at h2
     subst h2
     rw [hg] at h3
     cases h3
     exact ⟨rfl, rfl, rfl⟩
  ·have hlt := hmem e he
   have hfd := hb.find he
   obtain ⟨k, n, t, o', x, p1, p2, p3, p4, p5, p6⟩ := pr e he
   have hroom := hse.room hlt hns
   have stp : (k = 19 ∨ k = 20) → ∀ e' ∈ es.toList, e'.born ∈ seen.push e.born → ∃ t, e'.key = .iface 9 (strV t) := fun hk e' he' hs' => by
    rcases Array.mem_push.1 hs' with h1 | h1
    ·exact hstr e' he' h1
    ·have g1 := hb.get he'
     rw [h1, hb.get he] at g1
     cases g1
     refine ⟨t, p5.trans ?_⟩
     rcases hk with rfl | rfl <;> rfl
   obtain ⟨key, val, born⟩ := e
   obtain rfl : key = goV k n t := p5
   rcases keyK_cases p4 with rfl | rfl | rfl | rfl | rfl | rfl | rfl | rfl | rfl | rfl | rfl | rfl | rfl
   all_goals
    refine G ?_
    refine ⟨17, r, es.size, seen.push born, ⟨goV _ n t, val, born⟩, es, rfl, hm.at', by simp, hfd, ?_⟩
    refine G ?_
    first
    | (refine L0 ?_; exact h I _ (.refl I) hm.go)
    | (refine ⟨es.size - (seen.push born).size, _, _, by simp; omega, rfl, rfl, rfl, rfl, .inl ⟨seen.push born, rfl, rfl, rfl, rfl, rfl, hse.push hlt hns, stp (by decide)⟩⟩)
theorem readAnyMap_law {ks : List V} {o : Int} {es : List (List UInt8)} {hd r : List UInt8} (hk : ∀ (i : Nat) (y : V), ks[i]? = some y → RdP y) (hx : Kv (.mk 22 0 [] ks o [])) (hv : BufAt I bs v) (hl : es.length = ks.length)
  (he : ∀ (i : Nat) (x : V) (e : List UInt8), ks[i]? = some x → es[i]? = some e → Enc x e) (hh : HeadE 0xc1 0xd1 ks.length hd es.flatten) (hdr : bs.drop off = hd ++ (es.flatten ++ r))
  (h : ∀ I' g, I.le I' → GoAny I' (.mk 22 0 [] ks o []) g → bs.drop (off + (hd.length + es.flatten.length)) = r → Q (.tuple #[g, .nilIface]) [bufC v (off + (hd.length + es.flatten.length))] [] I') :
  WP Tryz.prog 210 #[ptr b] [(b, bufC v off)] [] I Q := by
 refine lw K210 [(0,1000)] _ Tryz.func210 ?_
 refine G ?_
 intro b4
 refine G ?_
 refine Cx [4,1000] ?_
 refine mapAnyUnm_law hk hx hv hl he hh hdr fun I1 m me hi1 hm hr => ?_
 refine G ?_
 refine Cx [] ?_
 refine readMapItems_law hm hx fun I2 g hi2 hg => ?_
 rcases hg.form with rfl | ⟨ty, p, rfl⟩
 all_goals
  refine G ?_
  refine L0 ?_
  rw [Nat.add_assoc] at hr ⊢
  exact h I2 _ (hi1.trans hi2) hg hr
theorem rd_map {ks : List V} {o : Int} (hk : ∀ (i : Nat) (y : V), ks[i]? = some y → RdP y) (hx : Kv (.mk 22 0 [] ks o [])) : RdP (.mk 22 0 [] ks o []) := by
 intro I b bs v off e r Q hv he hd h
 cases he with
 | sc he => cases he
 | map hl he hh =>
  rename_i es hdd
  rw [List.append_assoc] at hd
  have hh' := hh
  have first : ∃ c rest, hdd = c :: rest ∧ (c = 0xc1 ∨ c = 0xd1) := by
   generalize ks.length = m at hh
   generalize es.flatten = bd at hh
   cases hh <;> exact ⟨_, _, rfl, by decide⟩
  obtain ⟨c, rest, rfl, hc⟩ := first
  rw [List.length_append] at h
  refine lw K136 [(0,1000)] [ptr b] Tryz.func136 ?_
  rcases hc with rfl | rfl
  all_goals
   refine G ?_
   refine Cx [1000] ?_
   refine tryReadNull_law hv (Nat.le_of_lt (drop_le hd)) hd (fun z r' hz => by cases hz; decide) ?_
   refine G ?_
   refine Cx [1000] ?_
   refine peekType_law hv hd ?_
   refine G ?_
   refine Cx [1000] ?_
   refine readAnyMap_law (o := o) hk hx hv hl he hh' hd fun I1 g hi1 hg hr => ?_
   rcases hg.form with rfl | ⟨ty, p, rfl⟩
   all_goals
    refine G ?_
    refine L0 ?_
    exact h I1 _ hi1 hg hr
end rd
theorem flat_drop {n : Nat} : ∀ {cs : List (List Value)} {k : Nat}, (∀ c ∈ cs, c.length = n) → cs.flatten.drop (k * n) = (cs.drop k).flatten
 | [], k, _ => by simp
 | c :: cs, 0, _ => by simp
 | c :: cs, k + 1, h => by
  have h1 := h c (by simp)
  rw [List.drop_succ_cons, ← flat_drop (cs := cs) fun x hx => h x (by simp [hx]), List.flatten_cons, show (k + 1) * n = c.length + k * n by rw [h1, Nat.succ_mul]; omega, List.drop_length_add_append]
theorem flat_take {n : Nat} : ∀ {cs : List (List Value)} {k : Nat}, (∀ c ∈ cs, c.length = n) → cs.flatten.take (k * n) = (cs.take k).flatten
 | [], k, _ => by simp
 | c :: cs, 0, _ => by simp
 | c :: cs, k + 1, h => by
  have h1 := h c (by simp)
  rw [List.take_succ_cons, List.flatten_cons, List.flatten_cons, ← flat_take (cs := cs) fun x hx => h x (by simp [hx]), show (k + 1) * n = c.length + k * n by rw [h1, Nat.succ_mul]; omega, List.take_length_add_append]
theorem Row.cut {α : Type} {sz : Nat} {Rp : α → List Value → Prop} {I : Imm} {l : List α} {base : Option Addr} {m cap a u : Nat} (h : Row sz Rp I l (.slice base m cap)) (ha : a ≤ u) (hu : u ≤ l.length) : Row sz Rp I ((l.drop a).take (u - a)) (sliceV base a u cap sz) := by
 obtain ⟨hl, cs, h1, h2, h3⟩ := h
 have hw : ∀ c ∈ cs, c.length = sz := fun c hc => by
  obtain ⟨i, hi⟩ := List.mem_iff_getElem?.1 hc
  have hil : i < l.length := by rw [← h2]; exact (List.getElem?_eq_some_iff.1 hi).1
  exact (h3 i l[i] c (by simp [hil]) hi).2
 have hlen : ((l.drop a).take (u - a)).length = u - a := by simp; omega
 refine ⟨by rw [hlen]; omega, (cs.drop a).take (u - a), ?_, by simp; omega, fun i x c hx hc => ?_⟩
 ·rw [hlen]
  have := slAt_cut h1 ha hu
  rw [flat_drop hw, flat_take fun c hc => hw c (List.mem_of_mem_drop hc)] at this
  exact this
 ·rw [List.getElem?_take] at hx hc
  split at hx
  ·rename_i hi
   rw [if_pos hi] at hc
   rw [List.getElem?_drop] at hx hc
   exact h3 (a + i) x c hx hc
  ·cases hx
theorem f_bool {m : Bool} {e : List UInt8} (h : BoolE m e) : ∃ z t, e = z :: t ∧ z ≠ 0x40 := by cases h <;> exact ⟨_, _, rfl, by decide⟩
theorem f_byte {m : Int} {e : List UInt8} (h : SbyteE m e) : ∃ z t, e = z :: t ∧ z ≠ 0x40 := by cases h <;> exact ⟨_, _, rfl, by decide⟩
theorem f_short {m : Int} {e : List UInt8} (h : ShortE m e) : ∃ z t, e = z :: t ∧ z ≠ 0x40 := by cases h <;> exact ⟨_, _, rfl, by decide⟩
theorem f_int {m : Int} {e : List UInt8} (h : IntE m e) : ∃ z t, e = z :: t ∧ z ≠ 0x40 := by cases h <;> exact ⟨_, _, rfl, by decide⟩
theorem f_long {m : Int} {e : List UInt8} (h : LongE m e) : ∃ z t, e = z :: t ∧ z ≠ 0x40 := by cases h <;> exact ⟨_, _, rfl, by decide⟩
theorem f_time {m : Int} {e : List UInt8} (h : TimeE m e) : ∃ z t, e = z :: t ∧ z ≠ 0x40 := by cases h <;> exact ⟨_, _, rfl, by decide⟩
theorem f_head {c8 c32 : UInt8} {n : Nat} {hd body : List UInt8} (h : HeadE c8 c32 n hd body) (h8 : c8 ≠ 0x40) (h32 : c32 ≠ 0x40) : ∃ z t, hd = z :: t ∧ z ≠ 0x40 := by
 cases h
 ·exact ⟨_, _, rfl, h8⟩
 ·exact ⟨_, _, rfl, h32⟩
theorem f_list {n : Nat} {hd body : List UInt8} (h : ListH n hd body) : ∃ z t, hd = z :: t ∧ z ≠ 0x40 := by
 cases h with
 | z => exact ⟨_, _, rfl, by decide⟩
 | h h => exact f_head h (by decide) (by decide)
theorem enc_first {x : V} {e : List UInt8} (h : Enc x e) (hk : x.kind ≠ 0) : ∃ z t, e = z :: t ∧ z ≠ 0x40 := by
 cases h with
 | sc h =>
  cases h with
  | null => exact absurd rfl hk
  | bool h => exact f_bool h
  | ubyte h => cases h <;> exact ⟨_, _, rfl, by decide⟩
  | ushort h => cases h <;> exact ⟨_, _, rfl, by decide⟩
  | uint h => cases h <;> exact ⟨_, _, rfl, by decide⟩
  | ulong h => cases h <;> exact ⟨_, _, rfl, by decide⟩
  | byte h => exact f_byte h
  | short h => exact f_short h
  | int h => exact f_int h
  | long h => exact f_long h
  | float h => cases h <;> exact ⟨_, _, rfl, by decide⟩
  | double h => cases h <;> exact ⟨_, _, rfl, by decide⟩
  | time h => exact f_time h
  | uuid h => cases h <;> exact ⟨_, _, rfl, by decide⟩
  | bin h => cases h <;> exact ⟨_, _, rfl, by decide⟩
  | str h => cases h <;> exact ⟨_, _, rfl, by decide⟩
  | sym h => cases h <;> exact ⟨_, _, rfl, by decide⟩
 | list _ _ hh => obtain ⟨z, t, e1, e2⟩ := f_list hh; rw [e1]; exact ⟨_, _, rfl, e2⟩
 | map _ _ hh => obtain ⟨z, t, e1, e2⟩ := f_head hh (by decide) (by decide); rw [e1]; exact ⟨_, _, rfl, e2⟩
 | arr _ _ hh => obtain ⟨z, t, e1, e2⟩ := f_head hh (by decide) (by decide); rw [e1]; exact ⟨_, _, rfl, e2⟩
 | comp => exact ⟨_, _, rfl, by decide⟩
theorem enc_null {x : V} {e : List UInt8} (h : Enc x e) (hk : x.kind = 0) : e = [0x40] := by
 cases h with
 | sc h => cases h <;> first | rfl | (simp [V.kind] at hk)
 | list => simp [V.kind] at hk
 | map => simp [V.kind] at hk
 | arr => simp [V.kind] at hk
 | comp => simp [V.kind] at hk
def FldRep (p : Value × Value) (c : List Value) : Prop := c = [p.1, p.2]
structure Flds (br bx : Nat) (bs : List UInt8) (v : Value) (l : List (Value × Value)) (kids : List V) (S : Nat → List Value → Imm → Prop) : Prop where
 mono : ∀ {i cs I J}, I.le J → S i cs I → S i cs J
 form : ∀ {p}, p ∈ l → (∃ ty x, p.1 = .iface ty x) ∧ (p.2 = .nilFunc ∨ ∃ g a b, p.2 = .func g a b)
 field : ∀ (i : Nat) (p : Value × Value) (k : V) (J : Imm) (cs : List Value) (off : Nat) (e r : List UInt8) (Q : Qt), l[i]? = some p → kids[i]? = some k → k.kind ≠ 0 → S i cs J → BufAt J bs v → Enc k e → bs.drop off = e ++ r →
  (∀ J' cs', J.le J' → S (i + 1) cs' J' → Q .nilIface [bufC v (off + e.length), cs'] [] J') → WP Tryz.prog 84 #[ptr br, p.1] [(br, bufC v off), (bx, cs)] [] J Q
 null : ∀ (i : Nat) (p : Value × Value) (J : Imm) (cs : List Value), l[i]? = some p → (∀ k, kids[i]? = some k → k.kind = 0) → S i cs J →
  (p.2 = .nilFunc ∧ S (i + 1) cs J) ∨ ∃ (g : Nat) (cap : Array Value), p.2 = .func (.func g) #[] cap ∧ ∀ (Q : Qt), (∀ cs', S (i + 1) cs' J → Q .nilIface [cs'] [] J) → WP Tryz.prog g cap [(bx, cs)] [] J Q
section rd
variable {I : Imm} {br bx : Nat} {bs : List UInt8} {v : Value} {off : Nat} {Q : Qt}
theorem compHeader_law {c n : Nat} {ed hd body r : List UInt8} (hv : BufAt I bs v) (hc : UlongE c ed) (hc8 : c < 256) (hh : ListH n hd body) (hdr : bs.drop off = 0 :: (ed ++ (hd ++ (body ++ r))))
  (h : bs.drop (off + 1 + ed.length + hd.length) = body ++ r → Q (.tuple #[.int .u8 (c : Nat), .int .i64 (n : Nat), .nilIface]) [bufC v (off + 1 + ed.length + hd.length)] [] I) :
  WP Tryz.prog 82 #[ptr br] [(br, bufC v off)] [] I Q := by
 refine lw K82 [(0,1000)] _ Tryz.func82 ?_
 refine G ?_
 refine Cx [1000] ?_
 refine readType_law hv hdr fun hr => ?_
 refine G ?_
 refine Cx [1000] ?_
 refine readUlong_law hv hc hr fun hr => ?_
 refine G ?_
 refine Cx [1000] ?_
 refine readListHeader_law hv hh hr fun hr => ?_
 refine G ?_
 refine L0 ?_
 exact h hr
theorem UnmarshalComposite_law {l : List (Value × Value)} {kids : List V} {S : Nat → List Value → Imm → Prop} {c : Nat} {o : Int} {e r : List UInt8} {cs : List Value} {fv : Value} (hf : Flds br bx bs v l kids S) (hl : Row 2 FldRep I l fv) (hv : BufAt I bs v)
  (hc8 : c < 256) (hn : kids.length ≤ l.length) (he : Enc (.mk 21 0 [] kids o [vNum 5 c]) e) (hdr : bs.drop off = e ++ r) (hS : S 0 cs I)
  (h : ∀ I' cs', I.le I' → S l.length cs' I' → bs.drop (off + e.length) = r → Q .nilIface [bufC v (off + e.length), cs'] [] I') :
  WP Tryz.prog 58 #[ptr br, .int .u8 (c : Nat), fv] [(br, bufC v off), (bx, cs)] [] I Q := by
 have hsm := hv.small
 cases he with
 | comp hc hle hen hh =>
 rename_i ed es hd
 have hdr' : bs.drop off = 0 :: (ed ++ (hd ++ (es.flatten ++ r))) := by rw [hdr]; simp
 have hlen0 : (0 :: (ed ++ (hd ++ es.flatten))).length = 1 + ed.length + hd.length + es.flatten.length := by simp; omega
 rw [hlen0] at h
 obtain ⟨fb, fc, rfl⟩ := hl.form
 have hll := hl.1
 refine lw K58 [(0,1000)] [ptr br, .int .u8 (c : Nat), .slice fb l.length fc] Tryz.func58 ?_
 refine G ?_
 refine Cx [1000] ?_
 refine compHeader_law hv hc hc8 hh hdr' fun hr => ?_
 have hbl := congrArg List.length hr
 rw [List.length_drop, List.length_append] at hbl
 refine G ?_
 repeat ((first | (split; omega) | (split; rotate_left; omega)); refine G ?_)
 refine ⟨0, kids.length, rfl, rfl, by omega, by have := (slAt_le hl.2.choose_spec.1).2.1; omega, ?_⟩
 intro s1 hs1
 have hl1 : Row 2 FldRep I (l.take kids.length) s1 := by
  have := Row.cut hl (a := 0) (u := kids.length) (by omega) hn
  rw [hs1]
  show Row 2 FldRep I (l.take kids.length) (sliceV fb 0 kids.length fc 2)
  simpa using this
 obtain ⟨b1, c1, rfl⟩ := hl1.form
 have ht1 : (l.take kids.length).length = kids.length := by simp; omega
 rw [ht1]
 clear hs1
 refine G ?_
 refine ⟨⟨[36], [1000, 1001], [], fun m vs css R J => ∃ (i : Nat) (cs : List Value), vs = [.int .i64 (i : Nat)] ∧ css = [bufC v (off + 1 + ed.length + hd.length + (es.take i).flatten.length), cs] ∧ i ≤ kids.length ∧ m = kids.length - i ∧ R = [] ∧ S i cs J,
  kids.length, _, _, rfl, rfl, ⟨0, cs, rfl, by simp, by omega, rfl, rfl, hS⟩, ?_⟩⟩
 rintro m vs css R J hJ _ _ ⟨i, cs, rfl, rfl, hi, rfl, rfl, hSi⟩
 replace hJ : I.le J := hJ
 refine G ?_
 split
 ·rename_i hlt _
  have hi' : i < kids.length := by omega
  have hie : i < es.length := by omega
  have hil : i < l.length := by omega
  obtain ⟨vb, vo, rfl, _⟩ := hl1.some (by omega)
  have hg1 : (l.take kids.length)[i]? = some l[i] := by rw [List.getElem?_take_of_lt hi']; simp [hil]
  obtain ⟨cx, hcx, hcw, hcc⟩ := hl1.get hg1
  have hlg : l[i]? = some l[i] := by simp [hil]
  have hkg : kids[i]? = some kids[i] := by simp [hi']
  obtain ⟨⟨ty, x, hx⟩, hnul⟩ := hf.form (List.mem_of_getElem? hlg)
  have hdi := drop_flat hr hie
  have htf := take_flat hie
  have hen' := hen i kids[i] es[i] hkg (by simp [hie])
  obtain rfl : cx = [l[i].1, l[i].2] := hcx
  by_cases hk0 : kids[i].kind = 0
  ·have hen0 := enc_null hen' hk0
   rw [hen0] at hdi
   rcases hf.null i l[i] J cs hlg (fun k hk => by rw [hkg] at hk; cases hk; exact hk0) hSi with ⟨hp, hS1⟩ | ⟨g, cap, hp, hcall⟩
   ·rw [hx, hp] at hcc
    refine G ?_
    refine ⟨_, _, _, _, i, rfl, rfl, hi', ?_⟩
    refine G ?_
    refine ⟨_, .imm (hcc.mono hJ), rfl, ?_⟩
    refine G ?_
    intro b11
    refine G ?_
    refine Cx [1000] ?_
    refine tryReadNull_law' (hv.mono hJ) hdi fun hr1 => ?_
    refine G ?_
    refine ⟨kids.length - (i + 1), _, _, by omega, rfl, rfl, rfl, rfl, .inl ⟨i + 1, cs, rfl, ?_, hi', rfl, rfl, hS1⟩⟩
    rw [htf, hen0]; rfl
   ·rw [hx, hp] at hcc
    refine G ?_
    refine ⟨_, _, _, _, i, rfl, rfl, hi', ?_⟩
    refine G ?_
    refine ⟨_, .imm (hcc.mono hJ), rfl, ?_⟩
    refine G ?_
    intro b11
    refine G ?_
    refine Cx [1000] ?_
    refine tryReadNull_law' (hv.mono hJ) hdi fun hr1 => ?_
    refine G ?_
    refine Cx [1001] ?_
    have hcap : (#[].toList ++ [] ++ cap.toList).toArray = cap := by simp
    refine hcall _ fun cs' hS1 => ?_
    refine G ?_
    refine ⟨kids.length - (i + 1), _, _, by omega, rfl, rfl, rfl, rfl, .inl ⟨i + 1, cs', rfl, ?_, hi', rfl, rfl, hS1⟩⟩
    rw [htf, hen0]; rfl
  ·obtain ⟨z, t, hz1, hz2⟩ := enc_first hen' hk0
   have hfield := hf.field i l[i] kids[i] J cs (off + 1 + ed.length + hd.length + (es.take i).flatten.length) es[i] ((es.drop (i + 1)).flatten ++ r)
   rw [hx] at hfield
   have hoff := drop_le (y := z) (r := t ++ ((es.drop (i + 1)).flatten ++ r)) (hdi.trans (by rw [hz1]; rfl))
   rcases hnul with hp | ⟨g, a1, a2, hp⟩
   all_goals
    rw [hx, hp] at hcc
    refine G ?_
    refine ⟨_, _, _, _, i, rfl, rfl, hi', ?_⟩
    refine G ?_
    refine ⟨_, .imm (hcc.mono hJ), rfl, ?_⟩
    refine G ?_
    intro b11
    refine G ?_
    refine Cx [1000] ?_
    refine tryReadNull_law (hv.mono hJ) (Nat.le_of_lt hoff) hdi (fun z' r' hz => by rw [hz1] at hz; cases hz; exact hz2) ?_
    refine G ?_
    refine Cx [1000,1001] ?_
    refine hfield _ hlg hkg hk0 hSi (hv.mono hJ) hen' hdi fun J1 cs1 hJ1 hS1 => ?_
    refine G ?_
    refine ⟨kids.length - (i + 1), _, _, by omega, rfl, rfl, rfl, rfl, .inl ⟨i + 1, cs1, rfl, ?_, hi', rfl, rfl, hS1⟩⟩
    rw [htf]; simp only [Nat.add_assoc]
 ·rename_i hge _
  obtain rfl : i = kids.length := by omega
  have hfl : (es.take kids.length).flatten.length = es.flatten.length := by rw [List.take_of_length_le (by omega)]
  have hend := (take_of_drop hr).2.2
  rw [hfl]
  refine G ?_
  refine ⟨kids.length, l.length, rfl, rfl, hn, by have := (slAt_le hl.2.choose_spec.1).2.1; omega, ?_⟩
  intro s2 hs2
  have hl2 : Row 2 FldRep I (l.drop kids.length) s2 := by
   have := Row.cut hl (a := kids.length) (u := l.length) hn (Nat.le_refl _)
   rw [hs2]
   show Row 2 FldRep I (l.drop kids.length) (sliceV fb kids.length l.length fc 2)
   rw [List.take_of_length_le (by simp)] at this
   exact this
  obtain ⟨b2, c2, rfl⟩ := hl2.form
  have ht2 : (l.drop kids.length).length = l.length - kids.length := by simp
  rw [ht2]
  clear hs2
  refine G ?_
  refine ⟨⟨[63], [1001], [], fun m vs css R J2 => ∃ (i : Nat) (cs : List Value), vs = [.int .i64 (i : Nat)] ∧ css = [cs] ∧ i ≤ l.length - kids.length ∧ m = l.length - kids.length - i ∧ R = [] ∧ S (kids.length + i) cs J2,
   l.length - kids.length, _, _, rfl, rfl, ⟨0, cs, rfl, rfl, by omega, rfl, rfl, hSi⟩, ?_⟩⟩
  rintro m vs css R J2 hJ2 _ _ ⟨i, cs, rfl, rfl, hi, rfl, rfl, hSi⟩
  replace hJ2 : J.le J2 := hJ2
  refine G ?_
  split
  ·rename_i hlt2 _
   have hi' : i < l.length - kids.length := by omega
   have hil : kids.length + i < l.length := by omega
   obtain ⟨vb, vo, rfl, _⟩ := hl2.some (by omega)
   have hlg : l[kids.length + i]? = some l[kids.length + i] := by simp [hil]
   have hg1 : (l.drop kids.length)[i]? = some l[kids.length + i] := by rw [List.getElem?_drop, hlg]
   obtain ⟨cx, hcx, hcw, hcc⟩ := hl2.get hg1
   obtain ⟨⟨ty, x, hx⟩, _⟩ := hf.form (List.mem_of_getElem? hlg)
   obtain rfl : cx = [l[kids.length + i].1, l[kids.length + i].2] := hcx
   rcases hf.null (kids.length + i) l[kids.length + i] J2 cs hlg (fun k hk => by have := (List.getElem?_eq_some_iff.1 hk).1; omega) hSi with ⟨hp, hS1⟩ | ⟨g, cap, hp, hcall⟩
   ·rw [hx, hp] at hcc
    refine G ?_
    refine ⟨_, _, _, _, i, rfl, rfl, hi', ?_⟩
    refine G ?_
    refine ⟨_, .imm (hcc.mono (hJ.trans hJ2)), rfl, ?_⟩
    refine G ?_
    intro b13
    refine G ?_
    refine ⟨l.length - kids.length - (i + 1), _, _, by omega, rfl, rfl, rfl, rfl, .inl ⟨i + 1, cs, rfl, rfl, hi', rfl, rfl, hS1⟩⟩
   ·rw [hx, hp] at hcc
    refine G ?_
    refine ⟨_, _, _, _, i, rfl, rfl, hi', ?_⟩
    refine G ?_
    refine ⟨_, .imm (hcc.mono (hJ.trans hJ2)), rfl, ?_⟩
    refine G ?_
    intro b13
    refine G ?_
    refine Cx [1001] ?_
    refine hcall _ fun cs' hS1 => ?_
    refine G ?_
    refine ⟨l.length - kids.length - (i + 1), _, _, by omega, rfl, rfl, rfl, rfl, .inl ⟨i + 1, cs', rfl, rfl, hi', rfl, rfl, hS1⟩⟩
  ·rename_i hge2 _
   have e1 : kids.length + i = l.length := by omega
   rw [e1] at hSi
   refine G ?_
   refine L0 ?_
   have e2 : off + 1 + ed.length + hd.length + es.flatten.length = off + (1 + ed.length + hd.length + es.flatten.length) := by omega
   rw [← e2] at h
   exact h J2 cs (hJ.trans hJ2) hSi hend
end rd
section rd
variable {I : Imm} {b : Nat} {bs : List UInt8} {v : Value} {off : Nat} {Q : Qt}
theorem readAnyArray_law {ks : List V} {o k : Int} {c : UInt8} {data hd r : List UInt8} (hk : arrK k) (hv : BufAt I bs v) (hn : 0 < ks.length) (hs : ∀ (i : Nat) (x : V), ks[i]? = some x → ∃ n t o, x = .mk k n t [] o [] ∧ Scal k n t)
  (hne : 18 ≤ k → ∀ (i : Nat) (x : V), ks[i]? = some x → x.text ≠ []) (ha : ArrE k ks c data) (hh : HeadE 0xe0 0xf0 ks.length hd (c :: data)) (hdr : bs.drop off = hd ++ ((c :: data) ++ r))
  (h : ∀ I' g, I.le I' → GoAny I' (.mk 23 0 [] ks o []) g → bs.drop (off + (hd.length + 1 + data.length)) = r → Q (.tuple #[g, .nilIface]) [bufC v (off + (hd.length + 1 + data.length))] [] I') :
  WP Tryz.prog 208 #[ptr b] [(b, bufC v off)] [] I Q := by
 have one : ∃ n t d, EncS k n t (c :: d) := by
  obtain ⟨ds, h1, h2, h3⟩ := ha
  exact ⟨_, _, _, h3 0 ks[0] (ds[0]'(by omega)) (by simp) (by simp)⟩
 obtain ⟨n, t, d, he⟩ := one
 generalize hcd : c :: d = e at he
 have hc1 : ∀ {z : UInt8} {l : List UInt8}, e = z :: l → c = z := fun h1 => by rw [h1] at hcd; injection hcd
 cases he with
 | null => exact absurd hk (by unfold arrK; omega)
 | bool he => generalize (n == 1) = m at he; cases he <;> (have hcc := hc1 rfl; subst hcc; exact raa_all (by decide) hv hn hs hne ha hh hdr h)
 | ubyte he => cases he <;> (have hcc := hc1 rfl; subst hcc; exact raa_all (by decide) hv hn hs hne ha hh hdr h)
 | ushort he => cases he <;> (have hcc := hc1 rfl; subst hcc; exact raa_all (by decide) hv hn hs hne ha hh hdr h)
 | uint he => cases he <;> (have hcc := hc1 rfl; subst hcc; exact raa_all (by decide) hv hn hs hne ha hh hdr h)
 | ulong he => cases he <;> (have hcc := hc1 rfl; subst hcc; exact raa_all (by decide) hv hn hs hne ha hh hdr h)
 | byte he => generalize sg n = m at he; cases he <;> (have hcc := hc1 rfl; subst hcc; exact raa_all (by decide) hv hn hs hne ha hh hdr h)
 | short he => generalize sg n = m at he; cases he <;> (have hcc := hc1 rfl; subst hcc; exact raa_all (by decide) hv hn hs hne ha hh hdr h)
 | int he => generalize sg n = m at he; cases he <;> (have hcc := hc1 rfl; subst hcc; exact raa_all (by decide) hv hn hs hne ha hh hdr h)
 | long he => generalize sg n = m at he; cases he <;> (have hcc := hc1 rfl; subst hcc; exact raa_all (by decide) hv hn hs hne ha hh hdr h)
 | float he => cases he <;> (have hcc := hc1 rfl; subst hcc; exact raa_all (by decide) hv hn hs hne ha hh hdr h)
 | double he => cases he <;> (have hcc := hc1 rfl; subst hcc; exact raa_all (by decide) hv hn hs hne ha hh hdr h)
 | time he => generalize sg n = m at he; cases he <;> (have hcc := hc1 rfl; subst hcc; exact raa_all (by decide) hv hn hs hne ha hh hdr h)
 | uuid he => cases he <;> (have hcc := hc1 rfl; subst hcc; exact raa_all (by decide) hv hn hs hne ha hh hdr h)
 | bin he => cases he <;> (have hcc := hc1 rfl; subst hcc; exact raa_all (by decide) hv hn hs hne ha hh hdr h)
 | str he => cases he <;> (have hcc := hc1 rfl; subst hcc; exact raa_all (by decide) hv hn hs hne ha hh hdr h)
 | sym he => cases he <;> (have hcc := hc1 rfl; subst hcc; exact raa_all (by decide) hv hn hs hne ha hh hdr h)
theorem rd_arr {ks : List V} {o k : Int} (hk : arrK k) (hn : 0 < ks.length) (hs : ∀ (i : Nat) (x : V), ks[i]? = some x → ∃ n t o, x = .mk k n t [] o [] ∧ Scal k n t) (hne : 18 ≤ k → ∀ (i : Nat) (x : V), ks[i]? = some x → x.text ≠ []) : RdP (.mk 23 0 [] ks o []) := by
 intro I b bs v off e r Q hv he hd h
 cases he with
 | sc he => cases he
 | arr ha hkk hh =>
  rename_i k' c data hdd
  have hk' : k' = k := by
   obtain ⟨n, t, o1, e1, _⟩ := hs 0 ks[0] (by simp)
   have := hkk 0 ks[0] (by simp)
   rw [e1] at this
   exact this.symm
  subst hk'
  have hd' : bs.drop off = hdd ++ ((c :: data) ++ r) := by rw [hd]; simp
  have hlen : (hdd ++ c :: data).length = hdd.length + 1 + data.length := by simp; omega
  rw [hlen] at h
  have first : ∃ z rest, hdd = z :: rest ∧ (z = 0xe0 ∨ z = 0xf0) := by
   rcases head_form hh with ⟨y, z, rfl⟩ | ⟨y0, y1, y2, y3, z0, z1, z2, z3, rfl⟩
   ·exact ⟨_, _, rfl, by decide⟩
   ·exact ⟨_, _, rfl, by decide⟩
  obtain ⟨z, rest, rfl, hz⟩ := first
  refine lw K136 [(0,1000)] [ptr b] Tryz.func136 ?_
  rcases hz with rfl | rfl
  all_goals
   refine G ?_
   refine Cx [1000] ?_
   refine tryReadNull_law hv (Nat.le_of_lt (drop_le hd')) hd' (fun z r' hz => by cases hz; decide) ?_
   refine G ?_
   refine Cx [1000] ?_
   refine peekType_law hv hd' ?_
   refine G ?_
   refine Cx [1000] ?_
   refine readAnyArray_law (o := o) hk hv hn hs hne ha hh hd' fun I1 g hi1 hg hr => ?_
   rcases hg.form with rfl | ⟨ty, p, rfl⟩
   all_goals
    refine G ?_
    refine L0 ?_
    exact h I1 _ hi1 hg hr
inductive Rv : V → Prop where
 | sc {k : Int} {n : Nat} {t : List UInt8} {o : Int} (h : Scal k n t) : Rv (.mk k n t [] o [])
 | list {ks : List V} {o : Int} (h : ∀ (i : Nat) (x : V), ks[i]? = some x → Rv x) : Rv (.mk 21 0 [] ks o [])
 | arr {ks : List V} {o k : Int} (hk : arrK k) (hn : 0 < ks.length) (h : ∀ (i : Nat) (x : V), ks[i]? = some x → ∃ n t o, x = .mk k n t [] o [] ∧ Scal k n t) (hne : 18 ≤ k → ∀ (i : Nat) (x : V), ks[i]? = some x → x.text ≠ []) : Rv (.mk 23 0 [] ks o [])
 | map {ks : List V} {o : Int} (hk : Kv (.mk 22 0 [] ks o [])) (h : ∀ (i : Nat) (x : V), ks[i]? = some x → Rv x) : Rv (.mk 22 0 [] ks o [])
theorem ReadAny_law {x : V} (h : Rv x) : RdP x := by
 induction h with
 | sc h => exact rd_sc h
 | list h ih => exact rd_list ih
 | arr hk hn h hne => exact rd_arr hk hn h hne
 | map hk h ih => exact rd_map ih hk
end rd
def pt (b k : Nat) : Value := .pointer (some ⟨b, k, none⟩)
noncomputable def missB (a t : Nat) : Option Bool := match Tryz.prog.underlying a, Tryz.prog.info? t with
 | some (.interface want), some inf => some (Instr.missingMethod want inf.methods).isNone
 | _, _ => none
theorem missing_is {a t : Nat} {r : Bool} (h : missB a t = some r) : Missing Tryz.prog a t r := by
 unfold missB at h
 split at h
 ·rename_i want inf h1 h2
  exact ⟨want, inf, h1, h2, by simpa using h⟩
 ·cases h
section un
variable {I : Imm} {br bx k : Nat} {bs : List UInt8} {v : Value} {off : Nat} {cs : List Value} {e r : List UInt8} {Q : Qt}
theorem unm_str {t : List UInt8} (hk : k < cs.length) (hv : BufAt I bs v) (hz : ∃ z zt, e = z :: zt ∧ z ≠ 0x40) (he : TextE 0xa1 0xb1 t e ∨ TextE 0xa3 0xb3 t e) (hdr : bs.drop off = e ++ r)
  (h : bs.drop (off + e.length) = r → Q .nilIface [bufC v (off + e.length), splice cs k [strV t]] [] I) : WP Tryz.prog 84 #[ptr br, .iface 155 (pt bx k)] [(br, bufC v off), (bx, cs)] [] I Q := by
 obtain ⟨z, zt, hz1, hz2⟩ := hz
 have hoff := drop_le (y := z) (r := zt ++ r) (hdr.trans (by rw [hz1]; rfl))
 refine lw K84 [(0,1000)] _ Tryz.func84 ?_
 refine G ?_
 refine Cx [1000] ?_
 refine tryReadNull_law hv (Nat.le_of_lt hoff) hdr (fun z' r' hz => by rw [hz1] at hz; cases hz; exact hz2) ?_
 refine G ?_
 refine Cx [1000] ?_
 refine ReadString_law hv he hdr fun hr => ?_
 refine G ?_
 refine .loc 1001 cs rfl hk ?_
 refine G ?_
 refine L0 ?_
 exact h hr
theorem cond_law {t : List UInt8} (hk : k < cs.length) (hv : BufAt I bs v) (he : TextE 0xa1 0xb1 t e ∨ TextE 0xa3 0xb3 t e) (hdr : bs.drop off = e ++ r)
  (h : bs.drop (off + e.length) = r → Q .nilIface [bufC v (off + e.length), splice cs k [strV t]] [] I) : WP Tryz.prog 385 #[pt bx k, ptr br] [(br, bufC v off), (bx, cs)] [] I Q := by
 refine lw K385 [(1,1000)] _ Tryz.func385 ?_
 refine G ?_
 refine Cx [1000] ?_
 refine ReadString_law hv he hdr fun hr => ?_
 refine G ?_
 refine .loc 1001 cs rfl hk ?_
 refine G ?_
 refine L0 ?_
 exact h hr
theorem unm_cond {t : List UInt8} (hk : k < cs.length) (hv : BufAt I bs v) (hz : ∃ z zt, e = z :: zt ∧ z ≠ 0x40) (he : TextE 0xa1 0xb1 t e ∨ TextE 0xa3 0xb3 t e) (hdr : bs.drop off = e ++ r)
  (h : bs.drop (off + e.length) = r → Q .nilIface [bufC v (off + e.length), splice cs k [strV t]] [] I) : WP Tryz.prog 84 #[ptr br, .iface 456 (pt bx k)] [(br, bufC v off), (bx, cs)] [] I Q := by
 obtain ⟨z, zt, hz1, hz2⟩ := hz
 have hoff := drop_le (y := z) (r := zt ++ r) (hdr.trans (by rw [hz1]; rfl))
 refine lw K84 [(0,1000)] _ Tryz.func84 ?_
 refine G ?_
 refine Cx [1000] ?_
 refine tryReadNull_law hv (Nat.le_of_lt hoff) hdr (fun z' r' hz => by rw [hz1] at hz; cases hz; exact hz2) ?_
 refine G ?_
 refine ⟨true, missing_is (by kernel_rfl), ?_⟩
 refine G ?_
 refine ⟨385, pt bx k, fun w => by kernel_rfl, ?_⟩
 refine G ?_
 refine Cx [1000,1001] ?_
 refine cond_law hk hv he hdr fun hr => ?_
 refine G ?_
 refine L0 ?_
 exact h hr
end un
theorem u8x (x : Int) : ∃ y : UInt8, IntKind.u8.wrap x = ((y.toNat : Nat) : Int) := by
 have h : 0 ≤ IntKind.u8.wrap x ∧ IntKind.u8.wrap x < 256 := by
  have hm : IntKind.u8.wrap x = x % 256 := by simp [IntKind.wrap, IntKind.bits, IntKind.signed]
  rw [hm]; omega
 refine ⟨UInt8.ofNat (IntKind.u8.wrap x).toNat, ?_⟩
 rw [ofNat_toNat]
 omega
def wrC (sv : Value) (i0 : Value) : List Value := [sv, i0]
theorem oneAll_byteV (bs : List UInt8) : oneAll (bs.map byteV) = true := oneAll_bytes bs
section wr
variable {I : Imm} {b : Nat} {i0 : Value} {Q : Qt}
theorem AppendByte_nil {y : UInt8} (h : ∀ I' nb nc, I.le I' → Q (.tuple #[]) [[.slice nb 1 nc, i0]] [.vec (.slice nb 1 nc) 1 ([y].map byteV)] I') : WP Tryz.prog 262 #[ptr b, byteV y] [(b, [.slice none 0 0, i0])] [] I Q := by
 refine lw K262 [(0,1000)] _ Tryz.func262 ?_
 refine G ?_
 refine .inl fun be I2 hi2 hce => ?_
 refine G ?_
 refine .nil 1 [byteV y] rfl ⟨rfl, by omega, rfl, hce⟩ (by rw [show ti5.bytes = 1 by kernel_rfl]; omega) fun nb nc => ?_
 refine G ?_
 refine ⟨⟨[], [11], [], [], ?_⟩⟩
 conv => whnf
 exact h I2 nb nc hi2
theorem AppendByte_own {y : UInt8} {bs : List UInt8} {ob : Option Addr} {oc : Nat} (hl : bs.length < 1000000) (h : ∀ I' nb nc, I.le I' → Q (.tuple #[]) [[.slice nb (bs ++ [y]).length nc, i0]] [.vec (.slice nb (bs ++ [y]).length nc) 1 ((bs ++ [y]).map byteV)] I') :
  WP Tryz.prog 262 #[ptr b, byteV y] [(b, [.slice ob bs.length oc, i0])] [.vec (.slice ob bs.length oc) 1 (bs.map byteV)] I Q := by
 rw [List.length_append, List.map_append] at h
 refine lw K262 [(0,1000)] _ Tryz.func262 ?_
 refine G ?_
 refine .inl fun be I2 hi2 hce => ?_
 refine G ?_
 refine .own 2000 bs.length 1 (bs.map byteV) [byteV y] rfl rfl ⟨rfl, by omega, rfl, hce⟩ rfl (by rw [show ti5.bytes = 1 by kernel_rfl]; omega) fun nb nc => ?_
 refine G ?_
 refine ⟨⟨[], [2000], [], [], ?_⟩⟩
 conv => whnf
 exact h I2 nb nc hi2
theorem Append_nil {ps : List UInt8} {pv : Value} (hp : BytesAt I ps pv) (hl : ps.length < 1000000) (h : ∀ nb nc, Q (.tuple #[]) [[.slice nb ps.length nc, i0]] [.vec (.slice nb ps.length nc) 1 (ps.map byteV)] I) : WP Tryz.prog 266 #[ptr b, pv] [(b, [.slice none 0 0, i0])] [] I Q := by
 obtain ⟨pb, pc, rfl⟩ := bytes_form hp
 refine lw K266 [(0,1000)] [ptr b, .slice pb ps.length pc] Tryz.func266 ?_
 refine G ?_
 refine .nil ps.length (ps.map byteV) rfl hp (by rw [show ti5.bytes = 1 by kernel_rfl]; omega) fun nb nc => ?_
 refine G ?_
 refine ⟨⟨[], [10], [], [], ?_⟩⟩
 conv => whnf
 exact h nb nc
theorem Append_row {ps bs : List UInt8} {bp : Nat} {ob : Option Addr} {oc : Nat} (hl : ps.length < 1000000) (hb : bs.length < 1000000) (h : ∀ nb nc, Q (.tuple #[]) [[.slice nb (bs.length + ps.length) nc, i0], ps.map byteV] [.vec (.slice nb (bs.length + ps.length) nc) 1 (bs.map byteV ++ ps.map byteV)] I) :
  WP Tryz.prog 266 #[ptr b, .slice (some ⟨bp, 0, none⟩) ps.length ps.length] [(b, [.slice ob bs.length oc, i0]), (bp, ps.map byteV)] [.vec (.slice ob bs.length oc) 1 (bs.map byteV)] I Q := by
 refine lw K266 [(0,1000)] _ Tryz.func266 ?_
 refine G ?_
 refine .ownR 2000 bs.length ps.length bp 0 ps.length (bs.map byteV) (ps.map byteV) rfl rfl rfl (by show (ps.map byteV).length = ps.length * 1; simp) (.loc 1001 _ rfl fun j x h => by rw [Nat.zero_add]; exact h) (oneAll_bytes _) (by rw [show ti5.bytes = 1 by kernel_rfl]; omega) fun nb nc => ?_
 refine G ?_
 refine ⟨⟨[], [2000], [], [], ?_⟩⟩
 conv => whnf
 exact h nb nc
theorem AppendString_own {t bs : List UInt8} {ob : Option Addr} {oc : Nat} (ht : t.length < 1000000) (hl : bs.length < 1000000) (h : ∀ nb nc, Q (.tuple #[]) [[.slice nb (bs ++ t).length nc, i0]] [.vec (.slice nb (bs ++ t).length nc) 1 ((bs ++ t).map byteV)] I) :
  WP Tryz.prog 312 #[ptr b, strV t] [(b, [.slice ob bs.length oc, i0])] [.vec (.slice ob bs.length oc) 1 (bs.map byteV)] I Q := by
 rw [List.length_append, List.map_append] at h
 refine lw K312 [(0,1000)] _ Tryz.func312 ?_
 refine G ?_
 refine .own 2000 bs.length t.length (bs.map byteV) (t.map byteV) rfl rfl ⟨rfl, rfl, rfl⟩ (oneAll_bytes _) (by rw [show ti5.bytes = 1 by kernel_rfl]; omega) fun nb nc => ?_
 refine G ?_
 refine ⟨⟨[], [2000], [], [], ?_⟩⟩
 conv => whnf
 exact h nb nc
def NumW (F : Nat) (arg : Value) (k : Nat) : Prop := ∀ (I : Imm) (b : Nat) (i0 : Value) (bs : List UInt8) (ob : Option Addr) (oc : Nat) (Q : Qt), bs.length < 1000000 →
 (∀ I' nb nc (ys : List UInt8), I.le I' → ys.length = k → Q (.tuple #[]) [[.slice nb (bs ++ ys).length nc, i0]] [.vec (.slice nb (bs ++ ys).length nc) 1 ((bs ++ ys).map byteV)] I') →
 WP Tryz.prog F #[ptr b, arg] [(b, [.slice ob bs.length oc, i0])] [.vec (.slice ob bs.length oc) 1 (bs.map byteV)] I Q
def NumW0 (F : Nat) (arg : Value) (k : Nat) : Prop := ∀ (I : Imm) (b : Nat) (i0 : Value) (Q : Qt),
 (∀ I' nb nc (ys : List UInt8), I.le I' → ys.length = k → Q (.tuple #[]) [[.slice nb k nc, i0]] [.vec (.slice nb k nc) 1 (ys.map byteV)] I') → WP Tryz.prog F #[ptr b, arg] [(b, [.slice none 0 0, i0])] [] I Q
theorem AppendUint16_own (n : Nat) : NumW 265 (.int .u16 (n : Nat)) 2 := by
 intro I b i0 bs ob oc Q hl h
 refine lw K265 [(0,1000)] [ptr b, .int .u16 (n : Nat)] Tryz.func265 ?_
 conv => whnf
 refine ⟨by decide, exO fun X hX => ?_⟩
 clear hX
 conv => whnf
 obtain ⟨y0, hy⟩ := u8x X
 refine ⟨_, hy, ?_⟩
 clear hy
 conv => whnf
 obtain ⟨y1, hy⟩ := u8x ((n : Nat) : Int)
 refine ⟨_, hy, ?_⟩
 conv => whnf
 refine .inl fun be I2 hi2 hce => ?_
 refine G ?_
 refine .own 2000 bs.length 2 (bs.map byteV) [byteV y0, byteV y1] rfl rfl ⟨rfl, by omega, rfl, hce⟩ rfl (by rw [show ti5.bytes = 1 by kernel_rfl]; omega) fun nb nc => ?_
 refine G ?_
 refine ⟨⟨[], [2000], [], [], ?_⟩⟩
 conv => whnf
 have := h I2 nb nc [y0, y1] hi2 rfl
 rw [List.length_append, List.map_append] at this
 exact this
theorem AppendUint32_own (n : Nat) : NumW 311 (.int .u32 (n : Nat)) 4 := by
 intro I b i0 bs ob oc Q hl h
 refine lw K311 [(0,1000)] [ptr b, .int .u32 (n : Nat)] Tryz.func311 ?_
 conv => whnf
 refine ⟨by decide, exO fun X hX => ?_⟩
 clear hX
 conv => whnf
 obtain ⟨y0, hy⟩ := u8x X
 refine ⟨_, hy, ?_⟩
 clear hy
 conv => whnf
 refine ⟨by decide, exO fun X hX => ?_⟩
 clear hX
 conv => whnf
 obtain ⟨y1, hy⟩ := u8x X
 refine ⟨_, hy, ?_⟩
 clear hy
 conv => whnf
 refine ⟨by decide, exO fun X hX => ?_⟩
 clear hX
 conv => whnf
 obtain ⟨y2, hy⟩ := u8x X
 refine ⟨_, hy, ?_⟩
 clear hy
 conv => whnf
 obtain ⟨y3, hy⟩ := u8x ((n : Nat) : Int)
 refine ⟨_, hy, ?_⟩
 conv => whnf
 refine .inl fun be I2 hi2 hce => ?_
 refine G ?_
 refine .own 2000 bs.length 4 (bs.map byteV) [byteV y0, byteV y1, byteV y2, byteV y3] rfl rfl ⟨rfl, by omega, rfl, hce⟩ rfl (by rw [show ti5.bytes = 1 by kernel_rfl]; omega) fun nb nc => ?_
 refine G ?_
 refine ⟨⟨[], [2000], [], [], ?_⟩⟩
 conv => whnf
 have := h I2 nb nc [y0, y1, y2, y3] hi2 rfl
 rw [List.length_append, List.map_append] at this
 exact this
theorem AppendUint64_own (n : Int) : NumW 310 (.int .u64 n) 8 := by
 intro I b i0 bs ob oc Q hl h
 refine lw K310 [(0,1000)] [ptr b, .int .u64 n] Tryz.func310 ?_
 conv => whnf
 refine ⟨by decide, exO fun X hX => ?_⟩
 clear hX
 conv => whnf
 obtain ⟨y0, hy⟩ := u8x X
 refine ⟨_, hy, ?_⟩
 clear hy
 conv => whnf
 refine ⟨by decide, exO fun X hX => ?_⟩
 clear hX
 conv => whnf
 obtain ⟨y1, hy⟩ := u8x X
 refine ⟨_, hy, ?_⟩
 clear hy
 conv => whnf
 refine ⟨by decide, exO fun X hX => ?_⟩
 clear hX
 conv => whnf
 obtain ⟨y2, hy⟩ := u8x X
 refine ⟨_, hy, ?_⟩
 clear hy
 conv => whnf
 refine ⟨by decide, exO fun X hX => ?_⟩
 clear hX
 conv => whnf
 obtain ⟨y3, hy⟩ := u8x X
 refine ⟨_, hy, ?_⟩
 clear hy
 conv => whnf
 refine ⟨by decide, exO fun X hX => ?_⟩
 clear hX
 conv => whnf
 obtain ⟨y4, hy⟩ := u8x X
 refine ⟨_, hy, ?_⟩
 clear hy
 conv => whnf
 refine ⟨by decide, exO fun X hX => ?_⟩
 clear hX
 conv => whnf
 obtain ⟨y5, hy⟩ := u8x X
 refine ⟨_, hy, ?_⟩
 clear hy
 conv => whnf
 refine ⟨by decide, exO fun X hX => ?_⟩
 clear hX
 conv => whnf
 obtain ⟨y6, hy⟩ := u8x X
 refine ⟨_, hy, ?_⟩
 clear hy
 conv => whnf
 obtain ⟨y7, hy⟩ := u8x n
 refine ⟨_, hy, ?_⟩
 conv => whnf
 refine .inl fun be I2 hi2 hce => ?_
 refine G ?_
 refine .own 2000 bs.length 8 (bs.map byteV) [byteV y0, byteV y1, byteV y2, byteV y3, byteV y4, byteV y5, byteV y6, byteV y7] rfl rfl ⟨rfl, by omega, rfl, hce⟩ rfl (by rw [show ti5.bytes = 1 by kernel_rfl]; omega) fun nb nc => ?_
 refine G ?_
 refine ⟨⟨[], [2000], [], [], ?_⟩⟩
 conv => whnf
 have := h I2 nb nc [y0, y1, y2, y3, y4, y5, y6, y7] hi2 rfl
 rw [List.length_append, List.map_append] at this
 exact this
end wr
theorem ascii_valid {t : List UInt8} (h : ∀ b ∈ t, b.toNat < 128) : Lib.validD t = true := by
 rw [Lib.validD_ascii t.length t (fun b hb => h b (List.mem_of_mem_take hb)), List.drop_length]
 exact Lib.validD_nil
def WrP (F : Nat) (args : Nat → Array Value) (res : Value) : Prop := ∀ (I : Imm) (b : Nat) (i0 : Value) (Q : Qt),
 (∀ I' nb nc (ys : List UInt8), I.le I' → ys.length < 1000000 → Q res [[.slice nb ys.length nc, i0]] [.vec (.slice nb ys.length nc) 1 (ys.map byteV)] I') → WP Tryz.prog F (args b) [(b, [.slice none 0 0, i0])] [] I Q
theorem copied_law {I : Imm} {Q : Qt} {bs : List UInt8} {sv : Value} (hb : BytesAt I bs sv) (hl : bs.length < 1099511627776) (h : ∀ I' sv', I.le I' → BytesAt I' bs sv' → Q sv' [] [] I') : WP Tryz.prog 23 #[sv] [] [] I Q := by
 obtain ⟨base, cap, rfl⟩ := bytes_form hb
 refine lw K23 [] [.slice base bs.length cap] Tryz.func23 ?_
 refine G ?_
 refine .inr ⟨3, rfl, fun eb => ?_⟩
 refine G ?_
 refine .own 3 0 bs.length [] (bs.map byteV) rfl rfl hb (oneAll_bytes _) (by rw [show ti5.bytes = 1 by kernel_rfl]; omega) fun nb nc => ?_
 refine G ?_
 refine ⟨⟨[], [], [], [3], ?_⟩⟩
 intro J hJ ⟨n, hn, hsl⟩
 conv => whnf
 have hn' : 0 + bs.length = n := hn
 subst hn'
 refine h J _ hJ ?_
 rw [Nat.zero_add] at hsl ⊢
 exact hsl
section wr
theorem writeUint64_wr {n : Nat} : WrP 263 (fun b => #[ptr b, .int .u64 (n : Nat)]) (.tuple #[]) := by
 intro I b i0 Q h
 show WP Tryz.prog 263 #[ptr b, .int .u64 (n : Nat)] _ _ _ _
 refine lw K263 [(0,1000)] _ Tryz.func263 ?_
 refine G ?_
 split
 ·refine G ?_
  refine Cx [1000] ?_
  refine AppendByte_nil (y := 68) fun I1 nb nc hi1 => ?_
  refine G ?_
  refine ⟨⟨[], [7], [], [], ?_⟩⟩
  exact h I1 nb nc [68] hi1 (by decide)
 ·refine G ?_
  split
  ·conv => whnf
   obtain ⟨y, hy⟩ := u8x ((n : Nat) : Int)
   refine ⟨_, hy, ?_⟩
   conv => whnf
   refine .inl fun be I2 hi2 hce => ?_
   refine G ?_
   refine Cx [1000] ?_
   refine Append_nil (ps := [83, y]) ⟨rfl, Nat.le_refl _, rfl, hce⟩ (by simp) fun nb nc => ?_
   refine G ?_
   refine ⟨⟨[], [14], [], [], ?_⟩⟩
   exact h I2 nb nc [83, y] hi2 (by simp)
  ·refine G ?_
   refine Cx [1000] ?_
   refine AppendByte_nil (y := 128) fun I1 nb nc hi1 => ?_
   refine G ?_
   refine Cx [1000] ?_ [16]
   refine AppendUint64_own _ I1 b i0 [128] nb nc _ (by decide) fun I2 nb2 nc2 ys hi2 hy => ?_
   refine G ?_
   refine ⟨⟨[], [19], [], [], ?_⟩⟩
   exact h I2 nb2 nc2 ([128] ++ ys) (hi1.trans hi2) (by simp [hy])
theorem writeUint32_wr {n : Nat} : WrP 264 (fun b => #[ptr b, .int .u32 (n : Nat)]) (.tuple #[]) := by
 intro I b i0 Q h
 show WP Tryz.prog 264 #[ptr b, .int .u32 (n : Nat)] _ _ _ _
 refine lw K264 [(0,1000)] _ Tryz.func264 ?_
 refine G ?_
 split
 ·refine G ?_
  refine Cx [1000] ?_
  refine AppendByte_nil (y := 67) fun I1 nb nc hi1 => ?_
  refine G ?_
  refine ⟨⟨[], [7], [], [], ?_⟩⟩
  exact h I1 nb nc [67] hi1 (by decide)
 ·refine G ?_
  split
  ·conv => whnf
   obtain ⟨y, hy⟩ := u8x ((n : Nat) : Int)
   refine ⟨_, hy, ?_⟩
   conv => whnf
   refine .inl fun be I2 hi2 hce => ?_
   refine G ?_
   refine Cx [1000] ?_
   refine Append_nil (ps := [82, y]) ⟨rfl, Nat.le_refl _, rfl, hce⟩ (by simp) fun nb nc => ?_
   refine G ?_
   refine ⟨⟨[], [14], [], [], ?_⟩⟩
   exact h I2 nb nc [82, y] hi2 (by simp)
  ·refine G ?_
   refine Cx [1000] ?_
   refine AppendByte_nil (y := 112) fun I1 nb nc hi1 => ?_
   refine G ?_
   refine Cx [1000] ?_ [16]
   refine AppendUint32_own _ I1 b i0 [112] nb nc _ (by decide) fun I2 nb2 nc2 ys hi2 hy => ?_
   refine G ?_
   refine ⟨⟨[], [19], [], [], ?_⟩⟩
   exact h I2 nb2 nc2 ([112] ++ ys) (hi1.trans hi2) (by simp [hy])
theorem wrapU32 (n : Int) : IntKind.u32.wrap n = (((n % 4294967296).toNat : Nat) : Int) := by
 have hm : IntKind.u32.wrap n = n % 4294967296 := by simp [IntKind.wrap, IntKind.bits, IntKind.signed]
 rw [hm]; omega
theorem writeInt64_wr {n : Int} : WrP 267 (fun b => #[ptr b, .int .i64 n]) (.tuple #[]) := by
 intro I b i0 Q h
 show WP Tryz.prog 267 #[ptr b, .int .i64 n] _ _ _ _
 refine lw K267 [(0,1000)] _ Tryz.func267 ?_
 refine G ?_
 split
 ·refine G ?_
  split
  ·
   conv => whnf
   obtain ⟨y, hy⟩ := u8x n
   refine ⟨_, hy, ?_⟩
   conv => whnf
   refine .inl fun be I2 hi2 hce => ?_
   refine G ?_
   refine Cx [1000] ?_
   refine Append_nil (ps := [85, y]) ⟨rfl, Nat.le_refl _, rfl, hce⟩ (by simp) fun nb nc => ?_
   refine G ?_
   refine ⟨⟨[], [14], [], [], ?_⟩⟩
   exact h I2 nb nc [85, y] hi2 (by simp)
  ·
   refine G ?_
   refine Cx [1000] ?_
   refine AppendByte_nil (y := 129) fun I1 nb nc hi1 => ?_
   conv => whnf
   refine ⟨_, rfl, ?_⟩
   conv => whnf
   refine Cx [1000] ?_ [16]
   refine AppendUint64_own _ I1 b i0 [129] nb nc _ (by decide) fun I2 nb2 nc2 ys hi2 hy => ?_
   refine G ?_
   refine ⟨⟨[], [20], [], [], ?_⟩⟩
   exact h I2 nb2 nc2 ([129] ++ ys) (hi1.trans hi2) (by simp [hy])
 ·
  refine G ?_
  refine Cx [1000] ?_
  refine AppendByte_nil (y := 129) fun I1 nb nc hi1 => ?_
  conv => whnf
  refine ⟨_, rfl, ?_⟩
  conv => whnf
  refine Cx [1000] ?_ [16]
  refine AppendUint64_own _ I1 b i0 [129] nb nc _ (by decide) fun I2 nb2 nc2 ys hi2 hy => ?_
  refine G ?_
  refine ⟨⟨[], [20], [], [], ?_⟩⟩
  exact h I2 nb2 nc2 ([129] ++ ys) (hi1.trans hi2) (by simp [hy])
theorem writeInt32_wr {n : Int} : WrP 268 (fun b => #[ptr b, .int .i32 n]) (.tuple #[]) := by
 intro I b i0 Q h
 show WP Tryz.prog 268 #[ptr b, .int .i32 n] _ _ _ _
 refine lw K268 [(0,1000)] _ Tryz.func268 ?_
 refine G ?_
 split
 ·refine G ?_
  split
  ·
   conv => whnf
   obtain ⟨y, hy⟩ := u8x n
   refine ⟨_, hy, ?_⟩
   conv => whnf
   refine .inl fun be I2 hi2 hce => ?_
   refine G ?_
   refine Cx [1000] ?_
   refine Append_nil (ps := [84, y]) ⟨rfl, Nat.le_refl _, rfl, hce⟩ (by simp) fun nb nc => ?_
   refine G ?_
   refine ⟨⟨[], [14], [], [], ?_⟩⟩
   exact h I2 nb nc [84, y] hi2 (by simp)
  ·
   refine G ?_
   refine Cx [1000] ?_
   refine AppendByte_nil (y := 113) fun I1 nb nc hi1 => ?_
   conv => whnf
   refine ⟨_, wrapU32 n, ?_⟩
   conv => whnf
   refine Cx [1000] ?_ [16]
   refine AppendUint32_own _ I1 b i0 [113] nb nc _ (by decide) fun I2 nb2 nc2 ys hi2 hy => ?_
   refine G ?_
   refine ⟨⟨[], [20], [], [], ?_⟩⟩
   exact h I2 nb2 nc2 ([113] ++ ys) (hi1.trans hi2) (by simp [hy])
 ·
  refine G ?_
  refine Cx [1000] ?_
  refine AppendByte_nil (y := 113) fun I1 nb nc hi1 => ?_
  conv => whnf
  refine ⟨_, wrapU32 n, ?_⟩
  conv => whnf
  refine Cx [1000] ?_ [16]
  refine AppendUint32_own _ I1 b i0 [113] nb nc _ (by decide) fun I2 nb2 nc2 ys hi2 hy => ?_
  refine G ?_
  refine ⟨⟨[], [20], [], [], ?_⟩⟩
  exact h I2 nb2 nc2 ([113] ++ ys) (hi1.trans hi2) (by simp [hy])
theorem writeString_wr {t : List UInt8} (ht : t.length ≤ 131072) (hvt : Lib.validD t = true) {I : Imm} (hu : Utf I) {b : Nat} {i0 : Value} {Q : Qt}
  (h : ∀ I' nb nc (ys : List UInt8), I.le I' → ys.length < 1000000 → Q .nilIface [[.slice nb ys.length nc, i0]] [.vec (.slice nb ys.length nc) 1 (ys.map byteV)] I') : WP Tryz.prog 271 #[ptr b, strV t] [(b, [.slice none 0 0, i0])] [] I Q := by
 refine lw K271 [(0,1000)] _ Tryz.func271 ?_
 refine G ?_
 refine Cx [] ?_
 refine hu I (.refl I) t _ (by omega) ?_
 rw [hvt]
 conv => whnf
 have hsz : ((⟨t.toArray⟩ : ByteArray).size) = t.length := by simp [ByteArray.size]
 refine ⟨t.length, hsz, ?_⟩
 obtain ⟨L, hL⟩ : ∃ L : Int, ((t.length : Nat) : Int) = L := ⟨_, rfl⟩
 rw [hL]
 refine G ?_
 split
 ·conv => whnf
  obtain ⟨y, hy⟩ := u8x L
  refine ⟨_, hy, ?_⟩
  conv => whnf
  refine .inl fun be I2 hi2 hce => ?_
  refine G ?_
  refine Cx [1000] ?_
  refine Append_nil (ps := [161, y]) ⟨rfl, Nat.le_refl _, rfl, hce⟩ (by simp) fun nb nc => ?_
  refine G ?_
  refine Cx [1000] ?_ [20]
  refine AppendString_own (bs := [161, y]) (by omega) (by simp) fun nb2 nc2 => ?_
  refine G ?_
  refine ⟨⟨[], [23], [], [], ?_⟩⟩
  exact h I2 nb2 nc2 ([161, y] ++ t) hi2 (by simp; omega)
 ·refine G ?_
  split
  ·refine G ?_
   refine Cx [1000] ?_
   refine AppendByte_nil (y := 177) fun I1 nb nc hi1 => ?_
   conv => whnf
   refine ⟨_, wrapU32 L, ?_⟩
   conv => whnf
   refine Cx [1000] ?_ [29]
   refine AppendUint32_own _ I1 b i0 [177] nb nc _ (by decide) fun I2 nb2 nc2 ys hi2 hy => ?_
   refine G ?_
   refine Cx [1000] ?_ [33]
   refine AppendString_own (bs := [177] ++ ys) (by omega) (by simp [hy]) fun nb3 nc3 => ?_
   refine G ?_
   refine ⟨⟨[], [36], [], [], ?_⟩⟩
   exact h I2 nb3 nc3 ([177] ++ ys ++ t) (hi1.trans hi2) (by simp [hy]; omega)
  ·rename_i hn _
   exact absurd ht (by omega)
theorem writeTimestamp_wr {ms : Int} (hms : -9223372036854775808 ≤ ms ∧ ms < 9223372036854775808) : WrP 274 (fun b => #[ptr b, timeV ms]) (.tuple #[]) := by
 intro I b i0 Q h
 show WP Tryz.prog 274 #[ptr b, timeV ms] _ _ _ _
 refine lw K274 [(0,1000)] _ Tryz.func274 ?_
 refine G ?_
 intro b3
 refine G ?_
 refine Cx [1000] ?_
 refine AppendByte_nil (y := 131) fun I1 nb nc hi1 => ?_
 refine G ?_
 refine Cx [] ?_
 refine UnixMilli_law hms ?_
 conv => whnf
 refine ⟨_, rfl, ?_⟩
 conv => whnf
 refine Cx [1000] ?_ [6]
 refine AppendUint64_own _ I1 b i0 [131] nb nc _ (by decide) fun I2 nb2 nc2 ys hi2 hy => ?_
 refine G ?_
 refine ⟨⟨[], [12], [], [], ?_⟩⟩
 exact h I2 nb2 nc2 ([131] ++ ys) (hi1.trans hi2) (by simp [hy])
theorem UUIDMarshal_wr {t : List UInt8} (ht : t.length = 16) {I : Imm} {b : Nat} {i0 : Value} {Q : Qt}
  (h : ∀ I' nb nc (ys : List UInt8), I.le I' → ys.length < 1000000 → Q .nilIface [[.slice nb ys.length nc, i0]] [.vec (.slice nb ys.length nc) 1 (ys.map byteV)] I') : WP Tryz.prog 377 #[uuidV t, ptr b] [(b, [.slice none 0 0, i0])] [] I Q := by
 obtain ⟨x0, x1, x2, x3, x4, x5, x6, x7, x8, x9, x10, x11, x12, x13, x14, x15, rfl⟩ := list16 ht
 refine lw K377 [(1,1000)] [uuidV [x0, x1, x2, x3, x4, x5, x6, x7, x8, x9, x10, x11, x12, x13, x14, x15], ptr b] Tryz.func377 ?_
 refine G ?_
 intro b2
 refine G ?_
 refine Cx [1000] ?_
 refine AppendByte_nil (y := 152) fun I1 nb nc hi1 => ?_
 refine G ?_
 refine Cx [1000,2] ?_ [6]
 refine Append_row (ps := [x0, x1, x2, x3, x4, x5, x6, x7, x8, x9, x10, x11, x12, x13, x14, x15]) (bs := [152]) (by simp) (by decide) fun nb2 nc2 => ?_
 refine G ?_
 refine ⟨⟨[], [9], [], [], ?_⟩⟩
 exact h I1 nb2 nc2 [152, x0, x1, x2, x3, x4, x5, x6, x7, x8, x9, x10, x11, x12, x13, x14, x15] hi1 (by simp)
end wr
theorem wrapU16 (n : Int) : IntKind.u16.wrap n = (((n % 65536).toNat : Nat) : Int) := by
 have hm : IntKind.u16.wrap n = n % 65536 := by simp [IntKind.wrap, IntKind.bits, IntKind.signed]
 rw [hm]; omega
section wr
variable {I : Imm} {b : Nat} {i0 : Value} {Q : Qt}
theorem Marshal_key {k : Int} {n : Nat} {t : List UInt8} (hu : Utf I) (hs : Scal k n t) (hk : keyK k)
  (h : ∀ I' nb nc (ys : List UInt8), I.le I' → ys.length < 1000000 → Q .nilIface [[.slice nb ys.length nc, i0]] [.vec (.slice nb ys.length nc) 1 (ys.map byteV)] I') : WP Tryz.prog 248 #[ptr b, goV k n t] [(b, [.slice none 0 0, i0])] [] I Q := by
 have hsg : -9223372036854775808 ≤ sg n ∧ sg n < 9223372036854775808 := by have := scal_num hs; unfold sg; split <;> omega
 cases hs with
 | null => exact absurd hk (by unfold keyK; omega)
 | float => exact absurd hk (by unfold keyK; omega)
 | double => exact absurd hk (by unfold keyK; omega)
 | bin => exact absurd hk (by unfold keyK; omega)
 | bool hn =>
  rcases (show n = 0 ∨ n = 1 by omega) with rfl | rfl
  ·refine lw K248 [(0,1000)] [ptr b, .iface 4 (.bool false)] Tryz.func248 ?_
   refine G ?_
   refine Cx [1000] ?_
   refine AppendByte_nil (y := 66) fun I1 nb nc hi1 => ?_
   refine G ?_
   refine ⟨⟨[], [94], [], [], ?_⟩⟩
   exact h I1 nb nc [66] hi1 (by decide)
  ·refine lw K248 [(0,1000)] [ptr b, .iface 4 (.bool true)] Tryz.func248 ?_
   refine G ?_
   refine Cx [1000] ?_
   refine AppendByte_nil (y := 65) fun I1 nb nc hi1 => ?_
   refine G ?_
   refine ⟨⟨[], [92], [], [], ?_⟩⟩
   exact h I1 nb nc [65] hi1 (by decide)
 | ubyte hn =>
  refine lw K248 [(0,1000)] [ptr b, .iface 5 (.int .u8 (n : Nat))] Tryz.func248 ?_
  have hb : Value.int .u8 ((n : Nat) : Int) = byteV (UInt8.ofNat n) := by rw [byteV_ofNat]; congr 1; omega
  rw [hb]
  refine G ?_
  refine .inl fun be I2 hi2 hce => ?_
  refine G ?_
  refine Cx [1000] ?_
  refine Append_nil (ps := [80, UInt8.ofNat n]) ⟨rfl, Nat.le_refl _, rfl, hce⟩ (by simp) fun nb nc => ?_
  refine G ?_
  refine ⟨⟨[], [171], [], [], ?_⟩⟩
  exact h I2 nb nc [80, UInt8.ofNat n] hi2 (by simp)
 | ushort hn =>
  refine lw K248 [(0,1000)] [ptr b, .iface 44 (.int .u16 (n : Nat))] Tryz.func248 ?_
  refine G ?_
  refine Cx [1000] ?_
  refine AppendByte_nil (y := 96) fun I1 nb nc hi1 => ?_
  refine G ?_
  refine Cx [1000] ?_ [151]
  refine AppendUint16_own n I1 b i0 [96] nb nc _ (by decide) fun I2 nb2 nc2 ys hi2 hy => ?_
  refine G ?_
  refine ⟨⟨[], [154], [], [], ?_⟩⟩
  exact h I2 nb2 nc2 ([96] ++ ys) (hi1.trans hi2) (by simp [hy])
 | uint hn =>
  refine lw K248 [(0,1000)] [ptr b, .iface 43 (.int .u32 (n : Nat))] Tryz.func248 ?_
  refine G ?_
  refine Cx [1000] ?_
  refine writeUint32_wr I b i0 _ fun I1 nb nc ys hi1 hy => ?_
  refine G ?_
  refine ⟨⟨[], [138], [], [], ?_⟩⟩
  exact h I1 nb nc ys hi1 hy
 | ulong hn =>
  refine lw K248 [(0,1000)] [ptr b, .iface 23 (.int .u64 (n : Nat))] Tryz.func248 ?_
  refine G ?_
  refine Cx [1000] ?_
  refine writeUint64_wr I b i0 _ fun I1 nb nc ys hi1 hy => ?_
  refine G ?_
  refine ⟨⟨[], [124], [], [], ?_⟩⟩
  exact h I1 nb nc ys hi1 hy
 | byte hn =>
  refine lw K248 [(0,1000)] [ptr b, .iface 207 (.int .i8 (sg n))] Tryz.func248 ?_
  conv => whnf
  obtain ⟨y, hy⟩ := u8x (sg n)
  refine ⟨_, hy, ?_⟩
  conv => whnf
  refine .inl fun be I2 hi2 hce => ?_
  refine G ?_
  refine Cx [1000] ?_
  refine Append_nil (ps := [81, y]) ⟨rfl, Nat.le_refl _, rfl, hce⟩ (by simp) fun nb nc => ?_
  refine G ?_
  refine ⟨⟨[], [202], [], [], ?_⟩⟩
  exact h I2 nb nc [81, y] hi2 (by simp)
 | short hn =>
  refine lw K248 [(0,1000)] [ptr b, .iface 211 (.int .i16 (sg n))] Tryz.func248 ?_
  refine G ?_
  refine Cx [1000] ?_
  refine AppendByte_nil (y := 97) fun I1 nb nc hi1 => ?_
  conv => whnf
  refine ⟨_, wrapU16 _, ?_⟩
  conv => whnf
  refine Cx [1000] ?_ [217]
  refine AppendUint16_own _ I1 b i0 [97] nb nc _ (by decide) fun I2 nb2 nc2 ys hi2 hy => ?_
  refine G ?_
  refine ⟨⟨[], [221], [], [], ?_⟩⟩
  exact h I2 nb2 nc2 ([97] ++ ys) (hi1.trans hi2) (by simp [hy])
 | int hn =>
  refine lw K248 [(0,1000)] [ptr b, .iface 21 (.int .i32 (sg n))] Tryz.func248 ?_
  refine G ?_
  refine Cx [1000] ?_
  refine writeInt32_wr I b i0 _ fun I1 nb nc ys hi1 hy => ?_
  refine G ?_
  refine ⟨⟨[], [238], [], [], ?_⟩⟩
  exact h I1 nb nc ys hi1 hy
 | long hn =>
  refine lw K248 [(0,1000)] [ptr b, .iface 2 (.int .i64 (sg n))] Tryz.func248 ?_
  refine G ?_
  refine Cx [1000] ?_
  refine writeInt64_wr I b i0 _ fun I1 nb nc ys hi1 hy => ?_
  refine G ?_
  refine ⟨⟨[], [252], [], [], ?_⟩⟩
  exact h I1 nb nc ys hi1 hy
 | time hn =>
  refine lw K248 [(0,1000)] [ptr b, .iface 243 (timeV (sg n))] Tryz.func248 ?_
  refine G ?_
  intro b44
  refine G ?_
  refine Cx [1000] ?_
  refine writeTimestamp_wr hsg I b i0 _ fun I1 nb nc ys hi1 hy => ?_
  refine G ?_
  refine ⟨⟨[], [386], [], [], ?_⟩⟩
  exact h I1 nb nc ys hi1 hy
 | uuid ht =>
  refine lw K248 [(0,1000)] [ptr b, .iface 311 (uuidV t)] Tryz.func248 ?_
  refine G ?_
  refine ⟨true, ⟨_, Tryz.t311, (by kernel_rfl : Tryz.prog.underlying 482 = some (.interface (Tryz.prog.methodsAt 482))), by kernel_rfl, by kernel_rfl⟩, ?_⟩
  refine G ?_
  refine ⟨377, uuidV t, fun w => by kernel_rfl, ?_⟩
  refine Cx [1000] ?_
  refine UUIDMarshal_wr ht fun I1 nb nc ys hi1 hy => ?_
  refine G ?_
  refine ⟨⟨[], [638], [], [], ?_⟩⟩
  exact h I1 nb nc ys hi1 hy
 | str ht hvt =>
  refine lw K248 [(0,1000)] [ptr b, .iface 9 (strV t)] Tryz.func248 ?_
  refine G ?_
  refine Cx [1000] ?_
  refine writeString_wr ht hvt hu fun I1 nb nc ys hi1 hy => ?_
  refine G ?_
  refine ⟨⟨[], [294], [], [], ?_⟩⟩
  exact h I1 nb nc ys hi1 hy
 | sym ht ha =>
  refine lw K248 [(0,1000)] [ptr b, .iface 9 (strV t)] Tryz.func248 ?_
  refine G ?_
  refine Cx [1000] ?_
  refine writeString_wr ht (ascii_valid ha) hu fun I1 nb nc ys hi1 hy => ?_
  refine G ?_
  refine ⟨⟨[], [294], [], [], ?_⟩⟩
  exact h I1 nb nc ys hi1 hy
theorem marshaled_key {k : Int} {n : Nat} {t : List UInt8} (hu : Utf I) (hs : Scal k n t) (hk : keyK k) (h : ∀ I' (ys : List UInt8) sv, I.le I' → BytesAt I' ys sv → Q (.tuple #[sv, .bool true]) [] [] I') : WP Tryz.prog 213 #[goV k n t] [] [] I Q := by
 rw [goV_key hk]
 refine lw K213 [] [.iface (goT k) (goP k n t)] Tryz.func213 ?_
 refine G ?_
 intro b6
 refine G ?_
 refine Cx [6] ?_
 rw [← goV_key hk]
 refine Marshal_key hu hs hk fun I1 nb nc ys hi1 hy => ?_
 refine G ?_
 refine .inr ⟨[6], [], [9], ?_⟩
 conv => whnf
 intro I2 hi2 hf
 have hb := froz_bytes (n := ys.length) hf ⟨_, _, rfl⟩ rfl
 conv => whnf
 refine Bytes_law (off := 0) ⟨hb, by omega⟩ (by omega) fun sv hsv => ?_
 obtain ⟨xb, xc, rfl⟩ := bytes_form hsv
 refine G ?_
 refine Cx [] ?_
 refine copied_law hsv (by simp; omega) fun I3 sv3 hi3 hb3 => ?_
 obtain ⟨yb, yc, rfl⟩ := bytes_form hb3
 refine G ?_
 refine L0 ?_
 exact h I3 _ _ (hi1.trans (hi2.trans hi3)) hb3
end wr
end Go.Proofs.YtcfglgelckjpmaaGreatDoor
