/- Own machinery, and laws of the functions that the statement reaches (part 24). -/
import Derived.Test.YtcfglgelckjpmaaGreatDoorB23
set_option linter.all false
namespace Go.Proofs.YtcfglgelckjpmaaGreatDoor
set_option maxRecDepth 100000
set_option maxHeartbeats 8000000
structure StateD where
 code : Nat
 number : Nat
 offset : Nat
 faults : List Fault
 failed : Bool
 elsewhere : Bool
 ann : List V
def bit (t : Bool) : Nat := bif t then 1 else 0
def flagV (t : Bool) : V × V := (vNum 1 (bit t), vNum 1 0)
def StateRep (I : Imm) (s : StateD) (cs : List Value) : Prop := ∃ v1 v2, cs = [.int .i64 (s.code : Nat), .int .u32 (s.number : Nat), .int .u64 (s.offset : Nat), v1, .bool s.failed, .bool s.elsewhere, v2] ∧
 s.code < 9223372036854775808 ∧ s.number < 4294967296 ∧ s.offset < 18446744073709551616 ∧ Row 3 (FaultRep I) I s.faults v1 ∧ VsRep I s.ann v2
def stateOf (s : StateD) : C := ⟨s.code, if s.code = 35 then [(vNum 4 s.number, vNull), (vNum 5 s.offset, vNull)] else if s.code = 37 then [faultsV s.faults] else if s.code = 39 then [flagV s.failed, flagV s.elsewhere, mapFieldV s.ann] else []⟩
section laws
variable {I : Imm} {Q : Qt}
theorem flag_law' {t : Bool} (h : ∀ cs, FRep I (flagV t) cs → Q (.agg cs.toArray) [] [] I) : WP Tryz.prog 55 #[.bool t] [] [] I Q := flag_law h
theorem StateOf_law {s : StateD} {cs : List Value} (ho : StateRep I s cs) (h : ∀ I' cs', I.le I' → CRep I' (stateOf s) cs' → Q (.agg cs'.toArray) [] [] I') : WP Tryz.prog 80 #[.agg cs.toArray] [] [] I Q := by
 obtain ⟨v1, v2, rfl, h1, h2, h3, r1, r2⟩ := ho
 obtain ⟨x1, y1, rfl⟩ := r1.form
 obtain ⟨x2, y2, rfl⟩ := r2.form
 refine lw K80 [] [.agg #[.int .i64 (s.code : Nat), .int .u32 (s.number : Nat), .int .u64 (s.offset : Nat), .slice x1 s.faults.length y1, .bool s.failed, .bool s.elsewhere, .slice x2 s.ann.length y2]] Tryz.func80 ?_
 have fin : ∀ I' fv fs, I.le I' → FsRep I' fs fv → stateOf s = ⟨s.code, fs⟩ → Q (.agg #[.int .u64 (s.code : Nat), fv]) [] [] I' := fun I' fv fs hi hr e => h I' [_, fv] hi (by rw [e]; exact ⟨show s.code < _ by omega, fv, rfl, hr⟩)
 refine G ?_
 intro b1
 refine G ?_
 intro b2
 refine G ?_
 intro b3
 refine G ?_
 split
 ·rename_i e _
  have e' : s.code = 35 := by omega
  refine G ?_
  refine ⟨[0,1,2,5,6,3,4,7,8,9,10,11], [], [], [], by kernel_rfl, ?_⟩
  refine G ?_
  refine .inr ?_
  refine G ?_
  refine ofNumber_law ?_
  refine G ?_
  refine .inr ?_
  refine G ?_
  refine ofNumber_law ?_
  refine G ?_
  refine .inl fun b I' hi hc => ?_
  refine G ?_
  refine L0 ?_
  refine fin I' _ _ hi (row_lit (l := [(vNum 4 s.number, vNull), (vNum 5 s.offset, vNull)]) (css := [numC 4 s.number ++ numC 0 0, numC 5 s.offset ++ numC 0 0]) hc rfl (by simp) rfl (rowsC ⟨⟨_, _, vNum_rep (by omega) (by omega), vNull_rep, rfl⟩, rfl⟩ (rowsC ⟨⟨_, _, vNum_rep (by omega) (by omega), vNull_rep, rfl⟩, rfl⟩ rows0))) (by rw [stateOf, if_pos e'])
 ·rename_i e _
  have e' : ¬ s.code = 35 := by omega
  refine G ?_
  split
  ·rename_i e2 _
   have e2' : s.code = 37 := by omega
   refine G ?_
   refine Cx [] ?_
   refine faults_law r1 fun I1 cs1 hi1 hr1 => ?_
   obtain ⟨a1, a2, a3, a4, a5, a6, a7, a8, a9, a10, a11, a12, rfl, hm1⟩ := hr1.inv
   refine G ?_
   refine .inl fun b I' hi hc => ?_
   refine G ?_
   refine L0 ?_
   exact fin I' _ _ (hi1.trans hi) (row_lit (css := [_]) hc rfl (by simp) rfl (rowsC ⟨hm1 _ hi, rfl⟩ rows0)) (by rw [stateOf, if_neg e', if_pos e2'])
  ·rename_i e2 _
   have e2' : ¬ s.code = 37 := by omega
   refine G ?_
   split
   ·rename_i e3 _
    have e3' : s.code = 39 := by omega
    refine G ?_
    refine ⟨[0,1,3,4,6,7,2,5,8,9,10,11], [], [], [], by kernel_rfl, ?_⟩
    refine G ?_
    refine .inr ?_
    refine G ?_
    refine flag_law' fun c1 hc1 => ?_
    obtain ⟨a1, a2, a3, a4, a5, a6, a7, a8, a9, a10, a11, a12, rfl, hm1⟩ := hc1.inv
    refine G ?_
    refine .inr ?_
    refine G ?_
    refine flag_law' fun c2 hc2 => ?_
    obtain ⟨d1, d2, d3, d4, d5, d6, d7, d8, d9, d10, d11, d12, rfl, hm2⟩ := hc2.inv
    refine G ?_
    refine .inr ?_
    refine G ?_
    refine mapField_law r2 fun c3 hc3 => ?_
    obtain ⟨g1, g2, g3, g4, g5, g6, g7, g8, g9, g10, g11, g12, rfl, hm3⟩ := hc3.inv
    refine G ?_
    refine .inl fun b I' hi hc => ?_
    refine G ?_
    refine L0 ?_
    exact fin I' _ _ hi (row_lit (css := [_, _, _]) hc rfl (by simp) rfl (rowsC ⟨hm1 _ hi, rfl⟩ (rowsC ⟨hm2 _ hi, rfl⟩ (rowsC ⟨hm3 _ hi, rfl⟩ rows0)))) (by rw [stateOf, if_neg e', if_neg e2', if_pos e3'])
   ·rename_i e3 _
    have e3' : ¬ s.code = 39 := by omega
    refine G ?_
    refine L0 ?_
    exact fin I _ [] (.refl I) Row.nil (by rw [stateOf, if_neg e', if_neg e2', if_neg e3'])
end laws
theorem StateRep.len {I : Imm} {s : StateD} {cs : List Value} (h : StateRep I s cs) : cs.length = 7 := by obtain ⟨_, _, rfl, _⟩ := h; rfl
theorem StateRep.mono {I J : Imm} (hi : I.le J) {s : StateD} {cs : List Value} (h : StateRep I s cs) : StateRep J s cs := by
 obtain ⟨v1, v2, rfl, h1, h2, h3, r1, r2⟩ := h
 exact ⟨v1, v2, rfl, h1, h2, h3, r1.mono hi (fun _ _ h => h.mono hi), r2.mono hi⟩
def statesV (l : List StateD) : V × V := match l with | [] => (vNull, vNull) | s :: _ => (whole (stateOf s), vNull)
structure DispD where
 receiver : Bool
 first : Nat
 last : List Nat
 settled : Bool
 batchable : Bool
 state : List StateD
def DispRep (I : Imm) (d : DispD) (cs : List Value) : Prop := ∃ v1 v2, cs = [.bool d.receiver, .int .u32 (d.first : Nat), v1, .bool d.settled, .bool d.batchable, v2] ∧ d.first < 4294967296 ∧ Row 1 U32Rep I d.last v1 ∧ Row 7 (StateRep I) I d.state v2
def dispOf (d : DispD) : C := ⟨0x15, [(vNum 1 (bit d.receiver), vNull), (vNum 4 d.first, vNull), maybeV 4 d.last, flagV d.settled, statesV d.state, flagV d.batchable]⟩
section laws
variable {I : Imm} {Q : Qt}
theorem states_law {l : List StateD} {v : Value} (hl : Row 7 (StateRep I) I l v) (h : ∀ I' cs', I.le I' → FRep I' (statesV l) cs' → Q (.agg cs'.toArray) [] [] I') : WP Tryz.prog 56 #[v] [] [] I Q := by
 obtain ⟨base, cap, rfl⟩ := hl.form
 refine lw K56 [] [.slice base l.length cap] Tryz.func56 ?_
 refine G ?_
 intro b1
 refine G ?_
 split
 ·rename_i e _
  obtain rfl : l = [] := List.eq_nil_of_length_eq_zero (by omega)
  refine G ?_
  refine L0 ?_
  exact h I _ (.refl I) ⟨_, _, vNull_rep, vNull_rep, rfl⟩
 ·rename_i e _
  cases l with
  | nil => simp at e
  | cons f l =>
   obtain ⟨vb, vo, rfl, _⟩ := hl.some (by simp)
   obtain ⟨c, hc, hcl, hcc⟩ := hl.get (i := 0) (x := f) rfl
   have hc' := hc
   obtain ⟨_, _, rfl, _⟩ := hc
   refine G ?_
   refine ⟨_, _, _, _, 0, rfl, rfl, by simp, ?_⟩
   refine G ?_
   refine ⟨_, .imm hcc, rfl, ?_⟩
   refine G ?_
   refine Cx [] ?_
   refine StateOf_law hc' fun I1 cs1 hi1 hr1 => ?_
   have hr1' := hr1
   obtain ⟨h0, fv, rfl, hf⟩ := hr1
   refine G ?_
   refine .inl fun b2 I2 hi2 hc2 => ?_
   refine G ?_
   refine Cx [] ?_
   refine inner_law hc2 (hr1'.mono hi2) fun I3 cs3 hi3 hr3 => ?_
   have hr3' := hr3
   obtain ⟨c3, d3, g1, g2, rfl⟩ := hr3
   obtain ⟨xb, xc, xd, xe, rfl, _⟩ := g1.inv2
   obtain ⟨yb, yc, yd, ye, rfl, _⟩ := g2.inv2
   refine G ?_
   refine L0 ?_
   exact h I3 _ ((hi1.trans hi2).trans hi3) hr3'
theorem DispositionOf_law {d : DispD} {cs : List Value} (ho : DispRep I d cs) (h : ∀ I' cs', I.le I' → CRep I' (dispOf d) cs' → Q (.agg cs'.toArray) [] [] I') : WP Tryz.prog 19 #[.agg cs.toArray] [] [] I Q := by
 obtain ⟨v1, v2, rfl, h1, r1, r2⟩ := ho
 obtain ⟨x1, y1, rfl⟩ := r1.form
 obtain ⟨x2, y2, rfl⟩ := r2.form
 refine lw K19 [] [.agg #[.bool d.receiver, .int .u32 (d.first : Nat), .slice x1 d.last.length y1, .bool d.settled, .bool d.batchable, .slice x2 d.state.length y2]] Tryz.func19 ?_
 refine G ?_
 intro b1
 refine G ?_
 intro b2
 refine G ?_
 refine ⟨[0,1,5,6,7,10,11,13,14,16,17,19,20,2,3,4,8,9,12,15,18,21,22,23,24], [], [], [], by kernel_rfl, ?_⟩
 refine G ?_
 refine .inr ?_
 refine G ?_
 refine truth_law ?_
 have hb : (bif d.receiver then (1 : Int) else 0) = ((bit d.receiver : Nat) : Int) := by cases d.receiver <;> rfl
 have hbl : bit d.receiver < 2 := by cases d.receiver <;> decide
 rw [hb]
 refine G ?_
 refine .inr ?_
 refine G ?_
 refine ofNumber_law ?_
 refine G ?_
 refine .inr ?_
 refine G ?_
 refine ofNumber_law ?_
 refine G ?_
 refine .inr ?_
 refine G ?_
 refine maybe_law (by omega) r1 fun c1 hc1 => ?_
 obtain ⟨a1, a2, a3, a4, a5, a6, a7, a8, a9, a10, a11, a12, rfl, hm1⟩ := hc1.inv
 refine G ?_
 refine .inr ?_
 refine G ?_
 refine flag_law' fun c2 hc2 => ?_
 obtain ⟨d1, d2, d3, d4, d5, d6, d7, d8, d9, d10, d11, d12, rfl, hm2⟩ := hc2.inv
 refine G ?_
 refine .inr ?_
 refine G ?_
 refine states_law r2 fun I1 c3 hi1 hc3 => ?_
 obtain ⟨e1, e2, e3, e4, e5, e6, e7, e8, e9, e10, e11, e12, rfl, hm3⟩ := hc3.inv
 refine G ?_
 refine .inr ?_
 refine G ?_
 refine flag_law' fun c4 hc4 => ?_
 obtain ⟨f1, f2, f3, f4, f5, f6, f7, f8, f9, f10, f11, f12, rfl, hm4⟩ := hc4.inv
 refine G ?_
 refine .inl fun b I' hi hc => ?_
 refine G ?_
 refine L0 ?_
 refine h I' _ (hi1.trans hi) ⟨(show (21 : Nat) < 18446744073709551616 by decide), _, rfl, row_lit (css := [numC 1 (bit d.receiver) ++ numC 0 0, numC 4 d.first ++ numC 0 0, _, _, _, _]) hc rfl (by simp [dispOf]) rfl
  (rowsC ⟨⟨_, _, vNum_rep (by omega) (by omega), vNull_rep, rfl⟩, rfl⟩ (rowsC ⟨⟨_, _, vNum_rep (by omega) (by omega), vNull_rep, rfl⟩, rfl⟩ (rowsC ⟨hm1 _ (hi1.trans hi), rfl⟩ (rowsC ⟨hm2 _ (hi1.trans hi), rfl⟩ (rowsC ⟨hm3 _ hi, rfl⟩ (rowsC ⟨hm4 _ hi, rfl⟩ rows0))))))⟩
end laws
section laws
variable {I : Imm} {Q : Qt}
def formC (s : Int) (sh : Bool) : List Value := [.int .u64 s, .bool sh]
theorem wrapU64_range (x : Int) : 0 ≤ IntKind.u64.wrap x ∧ IntKind.u64.wrap x < 18446744073709551616 := by
 have hm : x % 2 ^ IntKind.u64.bits = x % 18446744073709551616 := rfl
 simp only [IntKind.wrap, hm, IntKind.signed, Bool.false_and, Bool.false_eq_true, if_false]
 omega
theorem pick_law {b : Nat} {s : Int} {sh : Bool} {n : Nat} (hn : 0 < n ∧ n < 9223372036854775808) (hs : 0 ≤ s ∧ s < 18446744073709551616) (h : ∀ (s' : Int) (v : Nat), v < n → (0 ≤ s' ∧ s' < 18446744073709551616) → Q (.int .i64 (v : Nat)) [formC s' sh] [] I) :
  WP Tryz.prog 30 #[.pointer (some ⟨b, 0, none⟩), .int .i64 (n : Nat)] [(b, formC s sh)] [] I Q := by
 refine lw K30 [(0,1000)] _ Tryz.func30 ?_
 refine G ?_
 cases sh
 ·refine G ?_
  split
  ·refine G ?_
   refine L0 ?_
   exact h s 0 hn.1 hs
  ·refine G ?_
   have hX := wrapU64_range (IntKind.u64.wrap (s * 6364136223846793005) + 1442695040888963407)
   generalize IntKind.u64.wrap (IntKind.u64.wrap (s * 6364136223846793005) + 1442695040888963407) = X at hX ⊢
   refine ⟨by decide, _, rfl, ?_⟩
   have hY : 0 ≤ X.fdiv (2 ^ min (Int.toNat 33) IntKind.u64.bits) ∧ X.fdiv (2 ^ min (Int.toNat 33) IntKind.u64.bits) < 2147483648 := by
    rw [show (2 : Int) ^ min (Int.toNat 33) IntKind.u64.bits = 8589934592 from rfl, Int.fdiv_eq_ediv_of_nonneg _ (by decide)]
    omega
   generalize X.fdiv (2 ^ min (Int.toNat 33) IntKind.u64.bits) = Y at hY ⊢
   refine G ?_
   refine ⟨by omega, _, rfl, ?_⟩
   have h1 := Int.tmod_nonneg (n : Int) hY.1
   have h2 := Int.tmod_lt_of_pos Y (b := (n : Int)) (by omega)
   generalize Y.tmod (n : Int) = Z at h1 h2 ⊢
   obtain ⟨z, rfl⟩ := Int.eq_ofNat_of_zero_le h1
   refine G ?_
   refine L0 ?_
   exact h X z (by omega) hX
 ·refine G ?_
  refine L0 ?_
  exact h s 0 hn.1 hs
end laws
def codedT : List (Nat × Nat) := [(0, 64), (1, 86), (2, 80), (3, 96), (4, 112), (5, 128), (6, 81), (7, 97), (8, 113), (9, 129), (10, 114), (11, 130), (12, 116), (13, 132), (14, 148), (15, 115), (16, 131), (17, 152), (18, 176), (19, 177), (20, 179), (21, 208), (22, 209), (23, 240)]
section laws
variable {I : Imm} {Q : Qt}
theorem coded_law {k : Int} (h : Q (.int .i64 (lookN codedT k)) [] [] I) : WP Tryz.prog 87 #[.int .i64 k] [] [] I Q := by
 refine lw K87 [] _ Tryz.func87 ?_
 refine G ?_
 intro r
 refine G ?_
 repeat (refine ⟨rfl, ?_⟩; conv => whnf)
 refine ⟨3, _, _, rfl, rfl, ?_⟩
 refine G ?_
 refine L0 ?_
 exact h
def bigB (u : Nat) : Nat → List UInt8
 | 0 => []
 | n + 1 => UInt8.ofNat (u / 256 ^ n) :: bigB u n
theorem boolSize_law {k : Int} (h : ∀ t : Int, (t = if k = 0 ∨ k = 1 ∨ 18 ≤ k then 1 else 0) → Q (.int .i64 t) [] [] I) : WP Tryz.prog 216 #[.int .i64 k] [] [] I Q := by
 refine lw K216 [] _ Tryz.func216 ?_
 refine G ?_
 split
 ·rename_i e _
  refine G ?_
  refine L0 ?_
  exact h 1 (by rw [if_pos (.inl e)])
 ·rename_i e1 _
  refine G ?_
  split
  ·rename_i e _
   refine G ?_
   refine L0 ?_
   exact h 1 (by rw [if_pos (.inr (.inl e))])
  ·rename_i e2 _
   refine G ?_
   split
   ·rename_i e _
    refine G ?_
    refine L0 ?_
    exact h 1 (by rw [if_pos (.inr (.inr e))])
   ·rename_i e3 _
    refine G ?_
    refine L0 ?_
    exact h 0 (by rw [if_neg (by omega)])
def fixedT : List (Nat × Nat) := [(2, 1), (3, 2), (4, 4), (5, 8), (6, 1), (7, 2), (8, 4), (9, 8), (10, 4), (11, 8), (12, 4), (13, 8), (14, 16), (15, 4), (16, 8), (17, 16)]
theorem fixedSize_law {k : Int} (h : ∀ I', I.le I' → Q (.int .i64 (lookN fixedT k - if k = 0 ∨ k = 1 ∨ 18 ≤ k then 1 else 0)) [] [] I') : WP Tryz.prog 176 #[.int .i64 k] [] [] I Q := by
 refine lw K176 [] _ Tryz.func176 ?_
 refine G ?_
 refine ⟨[18,20,21,0,1,2,3,4,5,6,7,8,9,10,11,12,13,14,15,16,17,19,22,23], [], [], [8], by kernel_rfl, ?_⟩
 refine G ?_
 refine ⟨fun v I' => v = .int .i64 (if k = 0 ∨ k = 1 ∨ 18 ≤ k then 1 else 0), boolSize_law fun t ht => ⟨rfl, by rw [ht]⟩, ⟨_, I, .refl I, rfl⟩, ?_⟩
 rintro v I' hi rfl
 refine G ?_
 intro r
 refine G ?_
 repeat (refine ⟨rfl, ?_⟩; conv => whnf)
 refine ⟨lookN fixedT k, rfl, ?_⟩
 have hb : 0 ≤ lookN fixedT k ∧ lookN fixedT k ≤ 16 := by
  simp only [fixedT, lookN]
  repeat' split
  all_goals omega
 have hc : 0 ≤ (if k = 0 ∨ k = 1 ∨ 18 ≤ k then (1 : Int) else 0) ∧ (if k = 0 ∨ k = 1 ∨ 18 ≤ k then (1 : Int) else 0) ≤ 1 := by split <;> omega
 have h' := h I' hi
 change 0 ≤ _ ∧ _ at hc
 generalize (if k = 0 ∨ k = 1 ∨ 18 ≤ k then (1 : Int) else 0) = z at hc h' ⊢
 conv => whnf
 refine ⟨_, w64 (x := lookN fixedT k - z) (by omega), ?_⟩
 refine G ?_
 refine L0 ?_
 exact h'
end laws
theorem bigB_len (u : Nat) : ∀ n, (bigB u n).length = n
 | 0 => rfl
 | n + 1 => by simp [bigB, bigB_len u n]
theorem bigB_get (u : Nat) : ∀ {n j : Nat}, j < n → (bigB u n)[j]? = some (UInt8.ofNat (u / 256 ^ (n - 1 - j)))
 | 0, j, h => by omega
 | n + 1, 0, _ => by simp [bigB]
 | n + 1, j + 1, h => by
  rw [bigB, List.getElem?_cons_succ, bigB_get u (by omega)]
  congr 4; omega
theorem take_succ_get {α : Type} {l : List α} {j : Nat} {x : α} (h : l[j]? = some x) : l.take (j + 1) = l.take j ++ [x] := by
 rw [List.take_add_one, h]; rfl
theorem byteV_ofNat (m : Nat) : byteV (UInt8.ofNat m) = .int .u8 ((m % 256 : Nat) : Int) := by
 unfold byteV
 rw [UInt8.toNat_ofNat']
theorem wrapU8 (m : Nat) : IntKind.u8.wrap (m : Int) = ((m % 256 : Nat) : Int) := by
 have hm : (m : Int) % 2 ^ IntKind.u8.bits = ((m % 256 : Nat) : Int) := by
  rw [show (2 : Int) ^ IntKind.u8.bits = 256 from rfl]; omega
 simp only [IntKind.wrap, hm, IntKind.signed, Bool.false_and, Bool.false_eq_true, if_false]
section laws
variable {I : Imm} {Q : Qt}
theorem big_own {u n : Nat} (hn : n ≤ 8) (h : ∀ I' kb kc, I.le I' → Q (.slice kb n kc) [] [.vec (.slice kb n kc) 1 ((bigB u n).map byteV)] I') : WP Tryz.prog 174 #[.int .u64 (u : Nat), .int .i64 (n : Nat)] [] [] I Q := by
 refine lw K174 [] _ Tryz.func174 ?_
 refine G ?_
 refine ⟨⟨[5, 6], [], [(900, 1)], fun m vs cs R I' => ∃ (j : Nat) (kb : Option Addr) (kc : Nat), vs = [.slice kb j kc, .int .i64 ((n : Int) - 1 - (j : Nat))] ∧ cs = [] ∧ j ≤ n ∧ m = n - j ∧
   R = [(900, .vec (.slice kb j kc) 1 (((bigB u n).take j).map byteV))], n, _, _, rfl, rfl, ⟨0, none, 0, ?_, rfl, by omega, rfl, rfl⟩, ?_⟩⟩
 ·simp
 rintro m vs cs R I' hI _ _ ⟨j, kb, kc, rfl, rfl, hj, rfl, rfl⟩
 replace hI : I.le I' := hI
 refine G ?_
 split
 ·rename_i hlt _
  have hj' : j < n := by omega
  have hexp : (n : Int) - 1 - (j : Nat) = ((n - 1 - j : Nat) : Int) := by omega
  rw [hexp]
  generalize hk : n - 1 - j = k
  refine G ?_
  refine ⟨by omega, _, rfl, ?_⟩
  have hsh : ((u : Int)).fdiv (2 ^ min (8 * (k : Int)).toNat IntKind.u64.bits) = ((u / 256 ^ k : Nat) : Int) := by
   have : min (8 * (k : Int)).toNat IntKind.u64.bits = 8 * k := by simp only [IntKind.bits]; omega
   rw [this, Int.pow_mul]
   rw [show (2 : Int) ^ 8 = 256 from rfl, Int.fdiv_eq_ediv_of_nonneg _ (Int.pow_nonneg (by decide))]
   norm_cast
  rw [hsh]
  refine G ?_
  rw [wrapU8]
  refine .inl fun be I2 hi2 hce => ?_
  refine G ?_
  refine .own 900 j 1 (((bigB u n).take j).map byteV) [byteV (UInt8.ofNat (u / 256 ^ k))] rfl rfl ⟨rfl, by omega, rfl, ?_⟩ rfl (by rw [show ti5.bytes = 1 by kernel_rfl]; omega) fun nb nc => ?_
  ·rw [byteV_ofNat]; exact hce
  refine G ?_
  refine ⟨_, _, _, ?_, rfl, rfl, rfl, rfl, .inl ⟨j + 1, nb, nc, ?_, rfl, hj', rfl, ?_⟩⟩
  ·omega
  ·rw [show ((n : Int) - 1 - ((j + 1 : Nat) : Int)) = (k : Int) - 1 by omega]
  ·rw [take_succ_get (bigB_get u hj'), hk, List.map_append]; rfl
 ·rename_i hge _
  refine G ?_
  obtain rfl : j = n := by omega
  refine ⟨⟨[], [900], [], [], ?_⟩⟩
  conv => whnf
  have e : (bigB u j).take j = bigB u j := by rw [List.take_of_length_le]; rw [bigB_len]; exact Nat.le_refl _
  rw [e]
  exact h I' _ _ hI
end laws
theorem CellsAt.mono {I J : Imm} (h : I.le J) {b o : Nat} {xs : List Value} (hc : CellsAt I b o xs) : CellsAt J b o xs := fun j x e => h.c (hc j x e)
theorem Froz.mono {I J : Imm} (h : I.le J) : ∀ {r : Res}, Froz I r → Froz J r
 | .blk b cs, hr => CellsAt.mono h hr
 | .vec v sz cs, ⟨n, h1, h2⟩ => ⟨n, h1, SlAt.mono h h2⟩
 | .map r es cl, hr => h.m hr
 | .lmap r kvs, _ => trivial
 | .iter .., _ => trivial
theorem froz_all {w : World} {X : List Res} : ∀ {Rn : List Res} {I : Imm}, Sat I (X ++ Rn) w → ∃ I', I.le I' ∧ (∀ r ∈ Rn, Froz I' r) ∧ Step I (X ++ Rn) w I' X w
 | [], I, hs => ⟨I, .refl I, by simp, by simpa using Step.refl hs⟩
 | r :: Rn, I, hs => by
  have hp : (X ++ r :: Rn).Perm (r :: (X ++ Rn)) := List.perm_middle
  obtain ⟨I1, h1, h2, h3⟩ := froz_step (hs.perm hp)
  obtain ⟨I2, g1, g2, g3⟩ := froz_all (X := X) (Rn := Rn) h3.sat
  refine ⟨I2, h1.trans g1, fun x hx => ?_, (h3.perm_left hp.symm).trans g3⟩
  rcases List.mem_cons.1 hx with rfl | hx
  ·exact h2.mono g1
  ·exact g2 x hx
theorem WP.froz {P : Program} {f : FuncId} {args : Array Value} {H : List (Nat × List Value)} {R : List Res} {I : Imm} {Q : Qt}
  (h : WP P f args H R I fun v cs Rn I' => ∀ I'', I'.le I'' → (∀ r ∈ Rn, Froz I'' r) → Q v cs [] I'') : WP P f args H R I Q :=
 ⟨h.enters, fun w hs => (h.calls w hs).mono fun _ w' ⟨v, cs, Rn, I', e, hl, hst, q⟩ => by
  obtain ⟨I'', g1, g2, g3⟩ := froz_all hst.sat
  exact ⟨v, cs, [], I'', e, hl, by simpa using hst.trans g3, q I'' g1 g2⟩⟩
theorem big_law {u n : Nat} (hn : n ≤ 8) {I : Imm} {Q : Qt} (h : ∀ I' kb kc, I.le I' → BytesAt I' (bigB u n) (.slice kb n kc) → Q (.slice kb n kc) [] [] I') : WP Tryz.prog 174 #[.int .u64 (u : Nat), .int .i64 (n : Nat)] [] [] I Q :=
 WP.froz (big_own hn fun I1 kb kc hi I2 hi2 hf => h I2 _ _ (hi.trans hi2) (froz_bytes (n := n) (hf _ (by simp)) ⟨_, _, rfl⟩ (by rw [bigB_len])))
end Go.Proofs.YtcfglgelckjpmaaGreatDoor
