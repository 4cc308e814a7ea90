/- Own machinery, and laws of the functions that the statement reaches (part 42). -/
import Derived.Test.YtcfglgelckjpmaaGreatDoorB22
import Derived.Test.YtcfglgelckjpmaaGreatDoorB23
import Derived.Test.YtcfglgelckjpmaaGreatDoorB35
import Derived.Test.YtcfglgelckjpmaaGreatDoorB40
import Derived.Test.YtcfglgelckjpmaaGreatDoorB41
set_option linter.all false
namespace Go.Proofs.YtcfglgelckjpmaaGreatDoor
set_option maxRecDepth 100000
set_option maxHeartbeats 8000000
def SymsAt (I : Imm) (l : List (List UInt8)) (x : Value) : Prop := Row 1 (fun (s : List UInt8) c => c = [strV s]) I l x
theorem SymsAt.mono {I J : Imm} (hi : I.le J) {l : List (List UInt8)} {x : Value} (h : SymsAt I l x) : SymsAt J l x := Row.mono hi (fun _ _ h => h) h
def symsV (l : List (List UInt8)) : List V := l.map fun s => .mk 20 0 s [] 0 []
theorem syms_of {I : Imm} {l : List (List UInt8)} {x : Value} (h : Row 1 (fun (x : V) c => elemC I 20 x.num x.text c) I (symsV l) x) : SymsAt I l x := by
 obtain ⟨h1, cs, h2, h3, h4⟩ := h
 simp only [symsV, List.length_map] at h1 h2 h3
 refine ⟨h1, cs, h2, h3, fun i s c hs hc => ?_⟩
 obtain ⟨q1, q2⟩ := h4 i (.mk 20 0 s [] 0 []) c (by simp [symsV, hs]) hc
 exact ⟨q1.2.2.2.2.2.2.2.2.2.2.2.2.2.2 (.inr rfl), q2⟩
section uu
variable {I : Imm} {br bx k : Nat} {bs : List UInt8} {v : Value} {off : Nat} {cs : List Value} {e r : List UInt8} {Q : Qt}
def SymsOk (l : List (List UInt8)) : Prop := ∀ s ∈ l, Scal 20 0 s ∧ s ≠ []
theorem unm_syms {l : List (List UInt8)} {o : Int} (hl : l ≠ []) (hok : SymsOk l) (hk : cs[k]? = some (.slice none 0 0)) (hv : BufAt I bs v) (hz : ∃ z zt, e = z :: zt ∧ z ≠ 0x40) (he : Enc (.mk 23 0 [] (symsV l) o []) e) (hdr : bs.drop off = e ++ r)
  (h : ∀ I' x, I.le I' → SymsAt I' l x → bs.drop (off + e.length) = r → Q .nilIface [bufC v (off + e.length), splice cs k [x]] [] I') : WP Tryz.prog 84 #[ptr br, .iface 268 (pt bx k)] [(br, bufC v off), (bx, cs)] [] I Q := by
 have hpos : 0 < (symsV l).length := by
  simp only [symsV, List.length_map]
  exact List.length_pos_iff.2 hl
 generalize hL : symsV l = L at he
 cases he with
 | sc h => cases h
 | arr ha hkk hh =>
  rename_i k' c data hd
  subst hL
  have hk' : k' = 20 := (hkk 0 (symsV l)[0] (by simp)).symm.trans (by simp [symsV, V.kind])
  subst hk'
  have hdr' : bs.drop off = hd ++ ((c :: data) ++ r) := by rw [hdr]; simp
  have hne : ∀ (i : Nat) (x : V), (symsV l)[i]? = some x → x.text ≠ [] := fun i x hx => by
   simp only [symsV, List.getElem?_map, Option.map_eq_some_iff] at hx
   obtain ⟨s, hs, rfl⟩ := hx
   exact (hok s (List.mem_of_getElem? hs)).2
  have hc : c = 0xa3 ∨ c = 0xb3 := by
   obtain ⟨ds, h1, h2, h3⟩ := ha
   have h4 := h3 0 (symsV l)[0] (ds[0]'(by omega)) (by simp) (by simp)
   have h5 := text20 _ _ _ h4
   generalize (symsV l)[0].text = tt at h5
   generalize hcd : c :: ds[0]'(by omega) = w at h5
   cases h5 with
   | s => injection hcd with h1 _; exact .inl h1
   | l => injection hcd with h1 _; exact .inr h1
  have hlen : (hd ++ c :: data).length = hd.length + 1 + data.length := by simp; omega
  rw [hlen] at h
  obtain ⟨z, zt, hz1, hz2⟩ := hz
  have hoff := drop_le (y := z) (r := zt ++ r) (hdr.trans (by rw [hz1]; rfl))
  refine lw K84 [(0,1000)] _ Tryz.func84 ?_
  refine G ?_
  refine Cx [1000] ?_
  refine tryReadNull_law hv (Nat.le_of_lt hoff) hdr (fun z' r' hz => by rw [hz1] at hz; cases hz; exact hz2) ?_
  refine G ?_
  refine Cx [1001,1000] ?_
  have fin : ∀ I1 sv, I.le I1 → Row 1 (fun (x : V) c => elemC I1 20 x.num x.text c) I1 (symsV l) sv → bs.drop (off + (hd.length + 1 + data.length)) = r → Q .nilIface [bufC v (off + (hd.length + 1 + data.length)), splice cs k [sv]] [] I1 := fun I1 sv hi1 hrow hr => h I1 sv hi1 (syms_of hrow) hr
  rcases hc with rfl | rfl
  all_goals
   first | refine arrP_20_a3 hk hv hpos hne ha hh hdr' fun I1 sv hi1 hrow hr => ?_ | refine arrP_20_b3 hk hv hpos hne ha hh hdr' fun I1 sv hi1 hrow hr => ?_
   refine G ?_
   refine L0 ?_
   exact fin I1 sv hi1 hrow hr
end uu
theorem flat_strs : ∀ l : List (List UInt8), (l.map fun s => [strV s]).flatten = l.map strV
 | [] => rfl
 | a :: l => by simp [flat_strs l]
section uv
variable {I : Imm} {br bx k : Nat} {bs : List UInt8} {v : Value} {off : Nat} {cs : List Value} {e r : List UInt8} {Q : Qt}
theorem multi_law {l : List (List UInt8)} {y : V} (hl : l ≠ []) (hok : SymsOk l) (hy : InsV (.mk 23 0 [] (symsV l) 0 []) y) (hk : cs[k]? = some (.slice none 0 0)) (hv : BufAt I bs v) (he : Enc y e) (hdr : bs.drop off = e ++ r)
  (h : ∀ I' x, I.le I' → SymsAt I' l x → bs.drop (off + e.length) = r → Q .nilIface [bufC v (off + e.length), splice cs k [x]] [] I') : WP Tryz.prog 364 #[pt bx k, ptr br] [(br, bufC v off), (bx, cs)] [] I Q := by
 have hkl : k < cs.length := (List.getElem?_eq_some_iff.1 hk).1
 rcases hy with rfl | ⟨_, z, hz, hz20, rfl⟩
 ·have hz := enc_first he (by simp [V.kind])
  have he' := he
  generalize hL : symsV l = L at he
  cases he with
  | sc h => cases h
  | arr ha hkk hh =>
   rename_i k' c data hd
   subst hL
   have hfirst : ∃ z0 zt, (hd ++ c :: data) = z0 :: zt ∧ (z0 = 0xe0 ∨ z0 = 0xf0) := by
    rcases head_form hh with ⟨y, z, rfl⟩ | ⟨y0, y1, y2, y3, z0, z1, z2, z3, rfl⟩
    ·exact ⟨_, _, rfl, .inl rfl⟩
    ·exact ⟨_, _, rfl, .inr rfl⟩
   obtain ⟨z0, zt, hz1, hz2⟩ := hfirst
   have hd1 : bs.drop off = z0 :: (zt ++ r) := by rw [hdr, hz1]; rfl
   refine lw K364 [(1,1000)] _ Tryz.func364 ?_
   rcases hz2 with rfl | rfl
   all_goals
    refine G ?_
    refine Cx [1000] ?_
    refine peekType_law hv hd1 ?_
    refine G ?_
    refine Cx [1000,1001] ?_
    refine unm_syms hl hok hk hv hz he' hdr fun I1 x hi1 hx hr => ?_
    refine G ?_
    refine L0 ?_
    exact h I1 x hi1 hx hr
 ·match l, hl, hz with
  | [s], _, hz =>
   simp only [V.kids, symsV, List.map_cons, List.map_nil, List.cons.injEq, and_true] at hz
   subst hz
   have hte := enc_text he (.inr rfl)
   have hs := (hok s (by simp)).1
   have hfirst : ∃ z0 zt, e = z0 :: zt ∧ (z0 = 0xa3 ∨ z0 = 0xb3) := by
    cases he with
    | sc h => cases h with
     | sym h => cases h with
      | s => exact ⟨_, _, rfl, .inl rfl⟩
      | l => exact ⟨_, _, rfl, .inr rfl⟩
   obtain ⟨z0, zt, hz1, hz2⟩ := hfirst
   have hd1 : bs.drop off = z0 :: (zt ++ r) := by rw [hdr, hz1]; rfl
   refine lw K364 [(1,1000)] _ Tryz.func364 ?_
   rcases hz2 with rfl | rfl
   all_goals
    refine G ?_
    refine Cx [1000] ?_
    refine peekType_law hv hd1 ?_
    refine G ?_
    refine Cx [1000] ?_
    refine ReadString_law hv hte hdr fun hr => ?_
    refine G ?_
    refine .inl fun be I1 hi1 hce => ?_
    refine G ?_
    refine .loc 1001 cs rfl hkl ?_
    refine G ?_
    refine L0 ?_
    exact h I1 _ hi1 (row_lit (css := [_]) hce rfl (show 1 < 1099511627776 by decide) rfl (rowsC ⟨rfl, rfl⟩ rows0)) hr
  | a :: b :: t, _, hz => simp [V.kids, symsV] at hz
theorem unm_multi {l : List (List UInt8)} {y : V} (hl : l ≠ []) (hok : SymsOk l) (hy : InsV (.mk 23 0 [] (symsV l) 0 []) y) (hk : cs[k]? = some (.slice none 0 0)) (hv : BufAt I bs v) (hz : ∃ z zt, e = z :: zt ∧ z ≠ 0x40) (he : Enc y e) (hdr : bs.drop off = e ++ r)
  (h : ∀ I' x, I.le I' → SymsAt I' l x → bs.drop (off + e.length) = r → Q .nilIface [bufC v (off + e.length), splice cs k [x]] [] I') : WP Tryz.prog 84 #[ptr br, .iface 160 (pt bx k)] [(br, bufC v off), (bx, cs)] [] I Q := by
 obtain ⟨z, zt, hz1, hz2⟩ := hz
 have hoff := drop_le (y := z) (r := zt ++ r) (hdr.trans (by rw [hz1]; rfl))
 refine lw K84 [(0,1000)] _ Tryz.func84 ?_
 refine G ?_
 refine Cx [1000] ?_
 refine tryReadNull_law hv (Nat.le_of_lt hoff) hdr (fun z' r' hz => by rw [hz1] at hz; cases hz; exact hz2) ?_
 refine G ?_
 refine ⟨true, missing_is (by kernel_rfl), ?_⟩
 refine G ?_
 refine ⟨364, pt bx k, fun w => by kernel_rfl, ?_⟩
 refine G ?_
 refine Cx [1000,1001] ?_
 refine multi_law hl hok hy hk hv he hdr fun I1 x hi1 hx hr => ?_
 obtain ⟨xb, xc, rfl⟩ := Row.form hx
 refine G ?_
 refine L0 ?_
 exact h I1 _ hi1 hx hr
theorem symbolTexts_law {l : List (List UInt8)} {x : Value} (hx : SymsAt I l x) (hlen : ∀ s ∈ l, s.length < 1099511627776) (h : ∀ I' x', I.le I' → Row 1 StrRep I' l x' → Q x' [] [] I') : WP Tryz.prog 72 #[x] [] [] I Q := by
 obtain ⟨base, cap, rfl⟩ := Row.form hx
 have hll := hx.1
 refine lw K72 [] [.slice base l.length cap] Tryz.func72 ?_
 refine G ?_
 refine ⟨⟨[8, 3], [], [(900, 1)], fun m vs cs R J => ∃ (i : Nat) (kb : Option Addr) (kc : Nat), vs = [.int .i64 (i : Nat), .slice kb i kc] ∧ cs = [] ∧ I.le J ∧ i ≤ l.length ∧ m = l.length - i ∧
   R = [(900, .vec (.slice kb i kc) 1 ((l.take i).map strV))], l.length, _, _, rfl, rfl, ⟨0, none, 0, rfl, rfl, .refl I, by omega, rfl, rfl⟩, ?_⟩⟩
 rintro m vs cs R J hJ0 _ _ ⟨i, kb, kc, rfl, rfl, hJ, hi, rfl, rfl⟩
 clear hJ0
 refine G ?_
 split
 ·rename_i hlt _
  have hi' : i < l.length := by omega
  have hg : l[i]? = some l[i] := by simp [hi']
  obtain ⟨vb, vo, rfl, _⟩ := Row.some hx (by omega)
  obtain ⟨c, rfl, _, hcc⟩ := Row.get hx hg
  refine G ?_
  refine ⟨_, _, _, _, i, rfl, rfl, hi', ?_⟩
  refine G ?_
  refine ⟨_, .imm (hcc.mono hJ), ?_⟩
  refine G ?_
  refine .inl fun be J2 hi2 hce => ?_
  refine G ?_
  refine .own 900 i 1 ((l.take i).map strV) [strV l[i]] rfl rfl ⟨rfl, by omega, rfl, hce⟩ rfl (by rw [show ti9.bytes = 16 by kernel_rfl]; omega) fun nb nc => ?_
  refine G ?_
  refine ⟨l.length - (i + 1), _, _, by omega, rfl, rfl, rfl, rfl, .inl ⟨i + 1, nb, nc, rfl, rfl, hJ.trans hi2, hi', rfl, ?_⟩⟩
  rw [take_succ_get hg, List.map_append]; rfl
 ·rename_i hge _
  obtain rfl : i = l.length := by omega
  refine G ?_
  refine ⟨⟨[], [], [], [900], ?_⟩⟩
  intro J1 hJ1 ⟨n, hn, hsl⟩
  obtain rfl : l.length = n := hn
  conv => whnf
  refine h J1 _ (hJ.trans hJ1) ⟨hll, l.map fun s => [strV s], ?_, by simp, fun i s c hs hc => ?_⟩
  ·rw [List.take_of_length_le (Nat.le_refl _)] at hsl
   rw [flat_strs]; exact hsl
  ·simp only [List.getElem?_map, hs, Option.map_some, Option.some.injEq] at hc
   subst hc
   exact ⟨⟨rfl, hlen s (List.mem_of_getElem? hs)⟩, rfl⟩
end uv
structure OpenRd (o : OpenD) : Prop where
 container : Scal 19 0 o.container
 host : Scal 19 0 o.host
 s1 : SymsOk o.outLoc
 s2 : SymsOk o.inLoc
 s3 : SymsOk o.offered
 s4 : SymsOk o.desired
 props : MapRd o.props
 frame : o.maxFrame < 4294967296
 chan : o.channelMax < 65536
 idle : o.idle / 1000000 < 4294967296
def openS (o : OpenD) (i : Nat) (cs : List Value) (J : Imm) : Prop := ∃ x5 x6 x7 x8 mv,
 cs = [if 1 ≤ i then strV o.container else strV [], if 2 ≤ i then strV o.host else strV [], if 3 ≤ i then .int .u32 (o.maxFrame : Nat) else .int .u32 0, if 4 ≤ i then .int .u16 (o.channelMax : Nat) else .int .u16 0,
  if 5 ≤ i then .int .i64 (((o.idle / 1000000 : Nat) : Int) * 1000000) else .int .i64 0, x5, x6, x7, x8, mv] ∧
 (if 6 ≤ i then SymsAt J o.outLoc x5 else x5 = .slice none 0 0) ∧ (if 7 ≤ i then SymsAt J o.inLoc x6 else x6 = .slice none 0 0) ∧ (if 8 ≤ i then SymsAt J o.offered x7 else x7 = .slice none 0 0) ∧
 (if 9 ≤ i then SymsAt J o.desired x8 else x8 = .slice none 0 0) ∧ (if 10 ≤ i then InfoV J o.props mv else mv = .map none)
def openF (b b2 : Nat) : List (Value × Value) := [(.iface 155 (pt b 0), .func (.func 67) #[] #[]), (.iface 155 (pt b 1), .nilFunc), (.iface 116 (pt b 2), .func (.func 69) #[] #[pt b2 0]), (.iface 157 (pt b 3), .func (.func 70) #[] #[pt b2 0]),
 (.iface 158 (pt b 4), .nilFunc), (.iface 160 (pt b 5), .nilFunc), (.iface 160 (pt b 6), .nilFunc), (.iface 160 (pt b 7), .nilFunc), (.iface 160 (pt b 8), .nilFunc), (.iface 161 (pt b 9), .nilFunc)]
section oa
variable {I : Imm} {br bx b2 k : Nat} {bs : List UInt8} {v : Value} {off : Nat} {cs : List Value} {e r : List UInt8} {Q : Qt}
theorem frameDefault_law {c0 c1 c2 c3 c4 c5 c6 c7 c8 c9 : Value} (h : Q .nilIface [[c0, c1, .int .u32 4294967295, c3, c4, c5, c6, c7, c8, c9], [pt bx 0]] [] I) : WP Tryz.prog 69 #[pt b2 0] [(bx, [c0, c1, c2, c3, c4, c5, c6, c7, c8, c9]), (b2, [pt bx 0])] [] I Q := by
 refine lw K69 [] _ Tryz.func69 ?_
 refine G ?_
 refine ⟨_, .loc 1001 _ rfl fun j x h => by cases j with | zero => exact h | succ j => simp at h, ?_⟩
 refine G ?_
 refine .loc 1000 _ rfl (show 3 ≤ 10 by decide) ?_
 refine G ?_
 refine L0 ?_
 exact h
theorem chanDefault_law {c0 c1 c2 c3 c4 c5 c6 c7 c8 c9 : Value} (h : Q .nilIface [[c0, c1, c2, .int .u16 65535, c4, c5, c6, c7, c8, c9], [pt bx 0]] [] I) : WP Tryz.prog 70 #[pt b2 0] [(bx, [c0, c1, c2, c3, c4, c5, c6, c7, c8, c9]), (b2, [pt bx 0])] [] I Q := by
 refine lw K70 [] _ Tryz.func70 ?_
 refine G ?_
 refine ⟨_, .loc 1001 _ rfl fun j x h => by cases j with | zero => exact h | succ j => simp at h, ?_⟩
 refine G ?_
 refine .loc 1000 _ rfl (show 4 ≤ 10 by decide) ?_
 refine G ?_
 refine L0 ?_
 exact h
end oa
theorem FieldVar.syms {l : List (List UInt8)} {y : V} (h : FieldVar (symbolsV l) y) : (l = [] ∧ y.kind = 0) ∨ (l ≠ [] ∧ y.kind ≠ 0 ∧ InsV (.mk 23 0 [] (symsV l) 0 []) y) := by
 by_cases hl : l = []
 ·left
  subst hl
  refine ⟨rfl, ?_⟩
  have := h.plain rfl (by simp [symbolsV, vNull, V.kind])
  rw [this]; rfl
 ·right
  unfold symbolsV at h
  rw [if_neg hl] at h
  obtain ⟨z, rfl | ⟨rfl, _, h3, _⟩, hi⟩ := h
  ·refine ⟨hl, ?_, hi⟩
   rcases hi with rfl | ⟨_, z, _, h20, rfl⟩
   ·simp [V.kind]
   ·rw [h20]; decide
  ·exact absurd rfl h3
section ob
variable {I : Imm} {br bx b2 k : Nat} {bs : List UInt8} {v : Value} {off : Nat} {cs : List Value} {e r : List UInt8} {Q : Qt}
theorem openS_mono {o : OpenD} {i : Nat} {cs : List Value} {I J : Imm} (hi : I.le J) (h : openS o i cs I) : openS o i cs J := by
 obtain ⟨x5, x6, x7, x8, mv, e, q5, q6, q7, q8, q9⟩ := h
 exact ⟨x5, x6, x7, x8, mv, e, if_mono q5 (SymsAt.mono hi), if_mono q6 (SymsAt.mono hi), if_mono q7 (SymsAt.mono hi), if_mono q8 (SymsAt.mono hi), if_mono q9 (InfoV.mono hi)⟩
theorem open_flds {o : OpenD} {kids : List V} (ho : OpenRd o) (hvar : Variant (openOf o) kids) : FldsX br bx b2 [pt bx 0] bs v (openF bx b2) kids (openS o) := {
 mono := fun hi h => openS_mono hi h
 form := by
  intro p hp
  simp only [openF, List.mem_cons, List.not_mem_nil, or_false] at hp
  rcases hp with rfl | rfl | rfl | rfl | rfl | rfl | rfl | rfl | rfl | rfl
  all_goals first | exact ⟨⟨_, _, rfl⟩, .inl rfl⟩ | exact ⟨⟨_, _, rfl⟩, .inr ⟨_, _, _, rfl⟩⟩
 field := by
  rintro i p y J cs off e r Q hp hk hy ⟨x5, x6, x7, x8, mv, rfl, q5, q6, q7, q8, q9⟩ hv he hd h
  match i, hp, hk with
  | 0, hp, hk =>
   simp only [openF, List.getElem?_cons_succ, List.getElem?_cons_zero, Option.some.injEq] at hp
   subst hp
   have hfv := (hvar.fld 0 _ y rfl hk).plain rfl (by simp [V.kind])
   rw [hfv] at he
   exact unm_str (show 0 < 10 by decide) hv (enc_first he (by simp [V.kind])) (enc_text he (.inl rfl)) hd fun hr => h J _ (.refl J) ⟨x5, x6, x7, x8, mv, rfl, q5, q6, q7, q8, q9⟩
  | 1, hp, hk =>
   simp only [openF, List.getElem?_cons_succ, List.getElem?_cons_zero, Option.some.injEq] at hp
   subst hp
   have hfv := (hvar.fld 1 _ y rfl hk).plain (by show (textFieldV 19 o.host).2.kind = 0; unfold textFieldV; split <;> rfl) (by show (textFieldV 19 o.host).1.kind ≠ 23; unfold textFieldV; split <;> simp [V.kind, vNull])
   rw [hfv] at he hy
   simp only [textFieldV] at he hy
   split at he
   ·rename_i h0; rw [if_pos h0] at hy; exact absurd rfl hy
   ·exact unm_str (show 1 < 10 by decide) hv (enc_first he (by simp [V.kind])) (enc_text he (.inl rfl)) hd fun hr => h J _ (.refl J) ⟨x5, x6, x7, x8, mv, rfl, q5, q6, q7, q8, q9⟩
  | 2, hp, hk =>
   simp only [openF, List.getElem?_cons_succ, List.getElem?_cons_zero, Option.some.injEq] at hp
   subst hp
   rcases (hvar.fld 2 _ y rfl hk).num (by decide) with rfl | ⟨h0, _⟩
   ·have hz := enc_first he hy
    cases he with
    | sc hs => cases hs with
     | uint hu => exact unm_u32 (show 2 < 10 by decide) hv hz hu hd fun hr => h J _ (.refl J) ⟨x5, x6, x7, x8, mv, rfl, q5, q6, q7, q8, q9⟩
   ·exact absurd h0 hy
  | 3, hp, hk =>
   simp only [openF, List.getElem?_cons_succ, List.getElem?_cons_zero, Option.some.injEq] at hp
   subst hp
   rcases (hvar.fld 3 _ y rfl hk).num (by decide) with rfl | ⟨h0, _⟩
   ·have hz := enc_first he hy
    cases he with
    | sc hs => cases hs with
     | ushort hu => exact unm_u16 (show 3 < 10 by decide) hv hz hu hd fun hr => h J _ (.refl J) ⟨x5, x6, x7, x8, mv, rfl, q5, q6, q7, q8, q9⟩
   ·exact absurd h0 hy
  | 4, hp, hk =>
   simp only [openF, List.getElem?_cons_succ, List.getElem?_cons_zero, Option.some.injEq] at hp
   subst hp
   rcases (hvar.fld 4 _ y rfl hk).num (by decide) with rfl | ⟨h0, _⟩
   ·have hz := enc_first he hy
    cases he with
    | sc hs => cases hs with
     | uint hu => exact unm_ms ho.idle (show 4 < 10 by decide) hv hz hu hd fun hr => h J _ (.refl J) ⟨x5, x6, x7, x8, mv, rfl, q5, q6, q7, q8, q9⟩
   ·exact absurd h0 hy
  | 5, hp, hk =>
   simp only [openF, List.getElem?_cons_succ, List.getElem?_cons_zero, Option.some.injEq] at hp
   subst hp
   have hfv := hvar.fld 5 _ y rfl hk
   rcases hfv.syms with ⟨_, h0⟩ | ⟨hl, _, hins⟩
   ·exact absurd h0 hy
   ·have hx0 : x5 = .slice none 0 0 := q5
    refine unm_multi hl ho.s1 hins (show _ = some _ by rw [hx0]; rfl) hv (enc_first he hy) he hd fun I1 x hi1 hx hr => ?_
    exact h I1 _ hi1 ⟨x, x6, x7, x8, mv, rfl, hx, q6, q7, q8, q9⟩
  | 6, hp, hk =>
   simp only [openF, List.getElem?_cons_succ, List.getElem?_cons_zero, Option.some.injEq] at hp
   subst hp
   have hfv := hvar.fld 6 _ y rfl hk
   rcases hfv.syms with ⟨_, h0⟩ | ⟨hl, _, hins⟩
   ·exact absurd h0 hy
   ·have hx0 : x6 = .slice none 0 0 := q6
    refine unm_multi hl ho.s2 hins (show _ = some _ by rw [hx0]; rfl) hv (enc_first he hy) he hd fun I1 x hi1 hx hr => ?_
    exact h I1 _ hi1 ⟨x5, x, x7, x8, mv, rfl, SymsAt.mono hi1 q5, hx, q7, q8, q9⟩
  | 7, hp, hk =>
   simp only [openF, List.getElem?_cons_succ, List.getElem?_cons_zero, Option.some.injEq] at hp
   subst hp
   have hfv := hvar.fld 7 _ y rfl hk
   rcases hfv.syms with ⟨_, h0⟩ | ⟨hl, _, hins⟩
   ·exact absurd h0 hy
   ·have hx0 : x7 = .slice none 0 0 := q7
    refine unm_multi hl ho.s3 hins (show _ = some _ by rw [hx0]; rfl) hv (enc_first he hy) he hd fun I1 x hi1 hx hr => ?_
    exact h I1 _ hi1 ⟨x5, x6, x, x8, mv, rfl, SymsAt.mono hi1 q5, SymsAt.mono hi1 q6, hx, q8, q9⟩
  | 8, hp, hk =>
   simp only [openF, List.getElem?_cons_succ, List.getElem?_cons_zero, Option.some.injEq] at hp
   subst hp
   have hfv := hvar.fld 8 _ y rfl hk
   rcases hfv.syms with ⟨_, h0⟩ | ⟨hl, _, hins⟩
   ·exact absurd h0 hy
   ·have hx0 : x8 = .slice none 0 0 := q8
    refine unm_multi hl ho.s4 hins (show _ = some _ by rw [hx0]; rfl) hv (enc_first he hy) he hd fun I1 x hi1 hx hr => ?_
    exact h I1 _ hi1 ⟨x5, x6, x7, x, mv, rfl, SymsAt.mono hi1 q5, SymsAt.mono hi1 q6, SymsAt.mono hi1 q7, hx, q9⟩
  | 9, hp, hk =>
   simp only [openF, List.getElem?_cons_succ, List.getElem?_cons_zero, Option.some.injEq] at hp
   subst hp
   have hfv := (hvar.fld 9 _ y rfl hk).plain (by show (mapFieldV o.props).2.kind = 0; unfold mapFieldV; split <;> rfl) (by show (mapFieldV o.props).1.kind ≠ 23; unfold mapFieldV; split <;> simp [V.kind, vNull])
   rw [hfv] at he hy
   simp only [mapFieldV] at he hy
   split at he
   ·rename_i h0; rw [if_pos h0] at hy; exact absurd rfl hy
   ·rename_i h0
    refine unm_map_161 (show 9 < 10 by decide) (fun i y h1 h2 => ReadAny_law (ho.props.rv i y h1 h2)) (ho.props.txt h0) hv (enc_first he (by simp [V.kind])) he hd fun I1 m me hi1 hm hr => ?_
    exact h I1 _ hi1 ⟨x5, x6, x7, x8, _, rfl, SymsAt.mono hi1 q5, SymsAt.mono hi1 q6, SymsAt.mono hi1 q7, SymsAt.mono hi1 q8, .inr ⟨m, me, rfl, hm⟩⟩
  | i + 10, hp, hk => simp [openF] at hp
 null := by
  rintro i p J cs hp hk ⟨x5, x6, x7, x8, mv, rfl, q5, q6, q7, q8, q9⟩
  match i, hp, hk with
  | 0, hp, hk =>
   obtain ⟨y, hfv, h0⟩ := hvar.null (i := 0) rfl hk
   rw [hfv.plain rfl (by simp [V.kind])] at h0
   simp [V.kind] at h0
  | 1, hp, hk =>
   simp only [openF, List.getElem?_cons_succ, List.getElem?_cons_zero, Option.some.injEq] at hp
   subst hp
   obtain ⟨y, hfv, h0⟩ := hvar.null (i := 1) rfl hk
   rw [hfv.plain (by show (textFieldV 19 o.host).2.kind = 0; unfold textFieldV; split <;> rfl) (by show (textFieldV 19 o.host).1.kind ≠ 23; unfold textFieldV; split <;> simp [V.kind, vNull])] at h0
   simp only [textFieldV] at h0
   split at h0
   ·rename_i h1
    exact .inl ⟨rfl, x5, x6, x7, x8, mv, by rw [h1]; rfl, q5, q6, q7, q8, q9⟩
   ·simp [V.kind] at h0
  | 2, hp, hk =>
   simp only [openF, List.getElem?_cons_succ, List.getElem?_cons_zero, Option.some.injEq] at hp
   subst hp
   obtain ⟨y, hfv, h0⟩ := hvar.null (i := 2) rfl hk
   rcases hfv.num (by decide) with rfl | ⟨_, h1⟩
   ·simp [vNum, V.kind] at h0
   ·refine .inr ⟨69, #[pt b2 0], rfl, fun Q hQ => frameDefault_law (hQ _ ⟨x5, x6, x7, x8, mv, by rw [h1]; rfl, q5, q6, q7, q8, q9⟩)⟩
  | 3, hp, hk =>
   simp only [openF, List.getElem?_cons_succ, List.getElem?_cons_zero, Option.some.injEq] at hp
   subst hp
   obtain ⟨y, hfv, h0⟩ := hvar.null (i := 3) rfl hk
   rcases hfv.num (by decide) with rfl | ⟨_, h1⟩
   ·simp [vNum, V.kind] at h0
   ·refine .inr ⟨70, #[pt b2 0], rfl, fun Q hQ => chanDefault_law (hQ _ ⟨x5, x6, x7, x8, mv, by rw [h1]; rfl, q5, q6, q7, q8, q9⟩)⟩
  | 4, hp, hk =>
   simp only [openF, List.getElem?_cons_succ, List.getElem?_cons_zero, Option.some.injEq] at hp
   subst hp
   obtain ⟨y, hfv, h0⟩ := hvar.null (i := 4) rfl hk
   rcases hfv.num (by decide) with rfl | ⟨_, h1⟩
   ·simp [vNum, V.kind] at h0
   ·exact .inl ⟨rfl, x5, x6, x7, x8, mv, by rw [h1]; rfl, q5, q6, q7, q8, q9⟩
  | 5, hp, hk =>
   simp only [openF, List.getElem?_cons_succ, List.getElem?_cons_zero, Option.some.injEq] at hp
   subst hp
   obtain ⟨y, hfv, h0⟩ := hvar.null (i := 5) rfl hk
   rcases hfv.syms with ⟨hl, _⟩ | ⟨_, h1, _⟩
   ·exact .inl ⟨rfl, x5, x6, x7, x8, mv, rfl, (by show SymsAt J o.outLoc x5; rw [hl, show x5 = .slice none 0 0 from q5]; exact .nil), q6, q7, q8, q9⟩
   ·exact absurd h0 h1
  | 6, hp, hk =>
   simp only [openF, List.getElem?_cons_succ, List.getElem?_cons_zero, Option.some.injEq] at hp
   subst hp
   obtain ⟨y, hfv, h0⟩ := hvar.null (i := 6) rfl hk
   rcases hfv.syms with ⟨hl, _⟩ | ⟨_, h1, _⟩
   ·exact .inl ⟨rfl, x5, x6, x7, x8, mv, rfl, q5, (by show SymsAt J o.inLoc x6; rw [hl, show x6 = .slice none 0 0 from q6]; exact .nil), q7, q8, q9⟩
   ·exact absurd h0 h1
  | 7, hp, hk =>
   simp only [openF, List.getElem?_cons_succ, List.getElem?_cons_zero, Option.some.injEq] at hp
   subst hp
   obtain ⟨y, hfv, h0⟩ := hvar.null (i := 7) rfl hk
   rcases hfv.syms with ⟨hl, _⟩ | ⟨_, h1, _⟩
   ·exact .inl ⟨rfl, x5, x6, x7, x8, mv, rfl, q5, q6, (by show SymsAt J o.offered x7; rw [hl, show x7 = .slice none 0 0 from q7]; exact .nil), q8, q9⟩
   ·exact absurd h0 h1
  | 8, hp, hk =>
   simp only [openF, List.getElem?_cons_succ, List.getElem?_cons_zero, Option.some.injEq] at hp
   subst hp
   obtain ⟨y, hfv, h0⟩ := hvar.null (i := 8) rfl hk
   rcases hfv.syms with ⟨hl, _⟩ | ⟨_, h1, _⟩
   ·exact .inl ⟨rfl, x5, x6, x7, x8, mv, rfl, q5, q6, q7, (by show SymsAt J o.desired x8; rw [hl, show x8 = .slice none 0 0 from q8]; exact .nil), q9⟩
   ·exact absurd h0 h1
  | 9, hp, hk =>
   simp only [openF, List.getElem?_cons_succ, List.getElem?_cons_zero, Option.some.injEq] at hp
   subst hp
   obtain ⟨y, hfv, h0⟩ := hvar.null (i := 9) rfl hk
   rw [hfv.plain (by show (mapFieldV o.props).2.kind = 0; unfold mapFieldV; split <;> rfl) (by show (mapFieldV o.props).1.kind ≠ 23; unfold mapFieldV; split <;> simp [V.kind, vNull])] at h0
   simp only [mapFieldV] at h0
   split at h0
   ·rename_i h1
    exact .inl ⟨rfl, x5, x6, x7, x8, mv, rfl, q5, q6, q7, q8, .inl ⟨h1, q9⟩⟩
   ·simp [V.kind] at h0
  | i + 10, hp, hk => simp [openF] at hp }
end ob
section oc
variable {I : Imm} {br bx b2 k : Nat} {bs : List UInt8} {v : Value} {off : Nat} {cs : List Value} {e r : List UInt8} {Q : Qt}
def open0 : List Value := [strV [], strV [], .int .u32 0, .int .u16 0, .int .i64 0, .slice none 0 0, .slice none 0 0, .slice none 0 0, .slice none 0 0, .map none]
theorem open_law {o : OpenD} {kids : List V} (ho : OpenRd o) (hvar : Variant (openOf o) kids) (hv : BufAt I bs v) (he : Enc (.mk 21 0 [] kids 0 [vNum 5 16]) e) (hdr : bs.drop off = e ++ r)
  (h : ∀ I' cs', I.le I' → openS o 10 cs' I' → bs.drop (off + e.length) = r → Q .nilIface [bufC v (off + e.length), cs'] [] I') :
  WP Tryz.prog 39 #[pt bx 0, ptr br] [(br, bufC v off), (bx, open0)] [] I Q := by
 have hlen : kids.length ≤ 10 := hvar.len
 refine lw K39 [(1,1000)] _ Tryz.func39 ?_
 refine G ?_
 intro b2
 refine G ?_
 refine ⟨[0,1,2,3,4,5,6,7,8,9,10,11,12,13,14,15,16,17,18,19,20,21,22,23,24,25,26,27,28,29,30,31,32,33,34,35,36,37,38,39,40,41,42,43,44,45,46,47,48,49,50,51,52,53,54,55], [1000,1001,2], [], [6,11,16,22,28,33,38,43,48,53], by kernel_rfl, ?_⟩
 refine G ?_
 refine .inl fun bl I1 hi1 hce => ?_
 refine G ?_
 refine .inr ?_
 refine G ?_
 refine UnmarshalCompositeX_law (o := 0) (c := 16) (l := openF bx b2) (kids := kids) (S := openS o) (cs := open0) (open_flds ho hvar)
  (row_lit (css := [[.iface 155 (pt bx 0), .func (.func 67) #[] #[]], [.iface 155 (pt bx 1), .nilFunc], [.iface 116 (pt bx 2), .func (.func 69) #[] #[pt b2 0]], [.iface 157 (pt bx 3), .func (.func 70) #[] #[pt b2 0]], [.iface 158 (pt bx 4), .nilFunc], [.iface 160 (pt bx 5), .nilFunc], [.iface 160 (pt bx 6), .nilFunc], [.iface 160 (pt bx 7), .nilFunc], [.iface 160 (pt bx 8), .nilFunc], [.iface 161 (pt bx 9), .nilFunc]]) hce rfl (show 10 < 1099511627776 by decide) rfl
   (rowsC ⟨rfl, rfl⟩ (rowsC ⟨rfl, rfl⟩ (rowsC ⟨rfl, rfl⟩ (rowsC ⟨rfl, rfl⟩ (rowsC ⟨rfl, rfl⟩ (rowsC ⟨rfl, rfl⟩ (rowsC ⟨rfl, rfl⟩ (rowsC ⟨rfl, rfl⟩ (rowsC ⟨rfl, rfl⟩ (rowsC ⟨rfl, rfl⟩ rows0)))))))))))
  (hv.mono hi1) (show (16 : Nat) < 256 by decide) hlen he hdr ⟨_, _, _, _, _, rfl, rfl, rfl, rfl, rfl, rfl⟩ fun I2 cs2 hi2 hS hr => ?_
 refine G ?_
 refine L0 ?_
 exact h I2 cs2 (hi1.trans hi2) hS hr
theorem open_cells {o : OpenD} {cs : List Value} (h : openS o 10 cs I) : ∃ x5 x6 x7 x8 mv, cs = [strV o.container, strV o.host, .int .u32 (o.maxFrame : Nat), .int .u16 (o.channelMax : Nat), .int .i64 (((o.idle / 1000000 : Nat) : Int) * 1000000), x5, x6, x7, x8, mv] ∧
  SymsAt I o.outLoc x5 ∧ SymsAt I o.inLoc x6 ∧ SymsAt I o.offered x7 ∧ SymsAt I o.desired x8 ∧ InfoV I o.props mv := h
end oc
end Go.Proofs.YtcfglgelckjpmaaGreatDoor
