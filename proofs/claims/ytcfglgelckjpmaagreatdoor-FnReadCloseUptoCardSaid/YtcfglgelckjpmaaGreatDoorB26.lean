/- Own machinery, and laws of the functions that the statement reaches (part 26). -/
import Derived.Test.YtcfglgelckjpmaaGreatDoorB21
import Derived.Test.YtcfglgelckjpmaaGreatDoorB25
set_option linter.all false
namespace Go.Proofs.YtcfglgelckjpmaaGreatDoor
set_option maxRecDepth 100000
set_option maxHeartbeats 8000000
section rd
variable {I : Imm} {b : Nat} {bs : List UInt8} {v : Value} {off : Nat} {Q : Qt}
theorem listH_le {n : Nat} {hd body : List UInt8} (h : ListH n hd body) : n ≤ body.length ∧ n ≤ 65536 ∧ 0 < hd.length := by
 cases h with
 | z => simp
 | h h =>
  cases h with
  | s y z body h1 h2 => exact ⟨h2, by have := z.toNat_lt; omega, by simp⟩
  | l y0 y1 y2 y3 z0 z1 z2 z3 body n h1 h2 h3 h4 => exact ⟨h3, h4, by simp⟩
theorem drop_flat {bs r : List UInt8} {off : Nat} {es : List (List UInt8)} (h : bs.drop off = es.flatten ++ r) {i : Nat} (hi : i < es.length) : bs.drop (off + (es.take i).flatten.length) = es[i] ++ ((es.drop (i + 1)).flatten ++ r) := by
 have e1 : es.flatten = (es.take i).flatten ++ (es[i] ++ (es.drop (i + 1)).flatten) := by
  conv => lhs; rw [← List.take_append_drop i es]
  rw [List.flatten_append, List.drop_eq_getElem_cons hi, List.flatten_cons]
 have e2 := congrArg (List.drop (es.take i).flatten.length) h
 rw [List.drop_drop, e1, List.append_assoc, List.drop_left, List.append_assoc] at e2
 exact e2
theorem take_flat {es : List (List UInt8)} {i : Nat} (hi : i < es.length) : (es.take (i + 1)).flatten.length = (es.take i).flatten.length + es[i].length := by
 rw [take_succ_get (x := es[i]) (by simp [hi]), List.flatten_append, List.length_append, List.flatten_cons, List.flatten_nil, List.append_nil]
theorem goV_form (k : Int) (n : Nat) (t : List UInt8) : goV k n t = .nilIface ∨ ∃ ty p, goV k n t = .iface ty p := by
 have aux : ∀ {p : Prop} [Decidable p] {ty : Nat} {x y : Value}, (y = .nilIface ∨ ∃ ty p, y = .iface ty p) → (x = .nilIface ∨ ∃ ty p, x = .iface ty p) → ((if p then x else y) = .nilIface ∨ ∃ ty q, (if p then x else y) = .iface ty q) := fun hy hx => by
  split
  ·exact hx
  ·exact hy
 unfold goV
 repeat (refine aux (ty := 0) ?_ (by first | exact .inl rfl | exact .inr ⟨_, _, rfl⟩))
 exact .inr ⟨_, _, rfl⟩
theorem GoAny.form {I : Imm} {x : V} {g : Value} (h : GoAny I x g) : g = .nilIface ∨ ∃ ty p, g = .iface ty p := by
 cases h with
 | sc hs hk => exact goV_form _ _ _
 | bin hs h => exact .inr ⟨_, _, rfl⟩
 | list hs h => exact .inr ⟨_, _, rfl⟩
 | arr hk hn hs h => exact .inr ⟨_, _, rfl⟩
 | map hm hb hp hl hk h => exact .inr ⟨_, _, rfl⟩
 | smap hm hb hp hl hk h => exact .inr ⟨_, _, rfl⟩
theorem splice_set : ∀ {cells : List Value} {i : Nat} {g : Value}, i < cells.length → splice cells i [g] = cells.set i g
 | [], i, g, h => by simp at h
 | c :: cells, 0, g, h => by simp [splice]
 | c :: cells, i + 1, g, h => by
  have ih := splice_set (cells := cells) (i := i) (g := g) (by simpa using h)
  simp only [splice, List.length_cons, List.length_nil] at ih ⊢
  simp only [List.take_succ_cons, List.cons_append, List.set_cons_succ, Nat.add_right_comm i 1, List.drop_succ_cons]
  rw [← ih]
theorem listUnm_law {ks : List V} {es : List (List UInt8)} {hd r : List UInt8} {bl : Nat} (hk : ∀ (i : Nat) (y : V), ks[i]? = some y → RdP y) (hv : BufAt I bs v) (hl : es.length = ks.length)
  (he : ∀ (i : Nat) (x : V) (e : List UInt8), ks[i]? = some x → es[i]? = some e → Enc x e) (hh : ListH ks.length hd es.flatten) (hdr : bs.drop off = hd ++ (es.flatten ++ r))
  (h : ∀ I' sv cells, I.le I' → SlAt I' 1 ks.length cells sv → (∀ (i : Nat) (x : V) (c : Value), ks[i]? = some x → cells[i]? = some c → GoAny I' x c) → bs.drop (off + hd.length + es.flatten.length) = r →
   Q .nilIface [[sv], bufC v (off + hd.length + es.flatten.length)] [] I') :
  WP Tryz.prog 131 #[ptr bl, ptr b] [(bl, [.slice none 0 0]), (b, bufC v off)] [] I Q := by
 obtain ⟨hn1, hn2, hn3⟩ := listH_le hh
 have hsm := hv.small
 have hb16 : ti20.bytes = 16 := by kernel_rfl
 refine lw K131 [(0,1000),(1,1001)] _ Tryz.func131 ?_
 refine G ?_
 refine Cx [1001] ?_
 refine readListHeader_law hv hh hdr fun hr => ?_
 have hlen := congrArg List.length hdr
 rw [List.length_drop, List.length_append, List.length_append] at hlen
 refine G ?_
 refine Cx [1001] ?_
 refine Len_law hv (by omega) ?_
 refine G ?_
 (first | (split; omega) | (split; rotate_left; omega)); refine G ?_
 by_cases h0 : ks.length = 0
 ·obtain rfl : es = [] := List.eq_nil_of_length_eq_zero (by omega)
  rw [h0]
  refine G ?_
  refine ⟨0, 0, rfl, rfl, by omega, by omega, ?_⟩
  intro sv hsv
  have hsv' : sv = .slice none 0 0 := by rw [hsv]; rfl
  subst hsv'
  refine G ?_
  refine ⟨⟨[36], [], [], fun m vs cs R J => vs = [.int .i64 0] ∧ cs = [] ∧ R = [] ∧ J = I, 0, _, _, rfl, rfl, ⟨rfl, rfl, rfl, rfl⟩, ?_⟩⟩
  rintro m vs cs R J hJ _ _ ⟨rfl, rfl, rfl, rfl⟩
  refine G ?_
  refine L0 ?_
  simp only [List.flatten_nil, List.length_nil, Nat.add_zero, List.nil_append] at h hr
  exact h J _ [] (.refl J) (by rw [h0]; exact slAt_nil J 1) (fun i x c hx => by have := (List.getElem?_eq_some_iff.1 hx).1; omega) hr
 ·(first | (split; omega) | (split; rotate_left; omega)); refine G ?_
  refine ⟨by decide, ks.length, rfl, rfl, by omega, by rw [hb16]; omega, fun bb => ?_⟩
  refine G ?_
  have hrep : (List.replicate ks.length (vcells ti20.zero)).flatten = List.replicate ks.length .nilIface := by
   have : vcells ti20.zero = [.nilIface] := by kernel_rfl
   rw [this]
   induction ks.length with
   | zero => rfl
   | succ n ih => rw [List.replicate_succ, List.replicate_succ, List.flatten_cons, ih]; rfl
  refine ⟨⟨[36], [1001], [], fun m vs cs R J => ∃ (i : Nat) (cells : List Value), vs = [.int .i64 (i : Nat)] ∧ cs = [bufC v (off + hd.length + (es.take i).flatten.length)] ∧ i ≤ ks.length ∧ m = ks.length - i ∧
    R = [(30, .vec (.slice (some ⟨bb, 0, none⟩) ks.length ks.length) 1 cells)] ∧ cells.length = ks.length ∧ (∀ (j : Nat) (x : V) (c : Value), j < i → ks[j]? = some x → cells[j]? = some c → GoAny J x c), ks.length, _, _, rfl, rfl,
   ⟨0, List.replicate ks.length .nilIface, rfl, by simp, by omega, rfl, ?_, by simp, fun j x c hj => by omega⟩, ?_⟩⟩
  ·show [(30, Res.vec _ _ (List.replicate ks.length (vcells ti20.zero)).flatten)] = _
   rw [hrep]
   rfl
  rintro m vs cs R J hJ _ _ ⟨i, cells, rfl, rfl, hi, rfl, rfl, hcl, hany⟩
  replace hJ : I.le J := hJ
  refine G ?_
  split
  ·rename_i hlt _
   have hi' : i < ks.length := by omega
   have hie : i < es.length := by omega
   refine G ?_
   refine Cx [1001] ?_
   refine hk i ks[i] (by simp [hi']) J b bs v _ es[i] _ _ (hv.mono hJ) (he i ks[i] es[i] (by simp [hi']) (by simp [hie])) (drop_flat hr hie) fun J1 g hJ1 hg hr1 => ?_
   refine G ?_
   refine ⟨_, _, _, _, i, rfl, rfl, hi', ?_⟩
   rcases hg.form with rfl | ⟨ty, p, rfl⟩
   ·refine G ?_
    refine .vec 30 _ _ 1 cells rfl (by show 0 + i * 1 + 1 ≤ cells.length; omega) ?_
    refine G ?_
    refine ⟨ks.length - (i + 1), _, _, by omega, rfl, rfl, rfl, rfl, .inl ⟨i + 1, cells.set i .nilIface, rfl, ?_, hi', rfl, ?_, by simp [hcl], fun j x c hj hx hc => ?_⟩⟩
    ·rw [take_flat hie, Nat.add_assoc]
    ·show [(30, Res.vec _ _ (splice cells (0 + i * 1) [.nilIface]))] = _
     rw [Nat.zero_add, Nat.mul_one, splice_set (by omega)]
    ·by_cases hji : j = i
     ·subst hji
      rw [List.getElem?_set_self (by omega)] at hc
      simp [hi'] at hx
      cases hc
      subst hx
      exact hg
     ·rw [List.getElem?_set_ne (Ne.symm hji)] at hc
      exact (hany j x c (by omega) hx hc).mono hJ1
   ·refine G ?_
    refine .vec 30 _ _ 1 cells rfl (by show 0 + i * 1 + 1 ≤ cells.length; omega) ?_
    refine G ?_
    refine ⟨ks.length - (i + 1), _, _, by omega, rfl, rfl, rfl, rfl, .inl ⟨i + 1, cells.set i (.iface ty p), rfl, ?_, hi', rfl, ?_, by simp [hcl], fun j x c hj hx hc => ?_⟩⟩
    ·rw [take_flat hie, Nat.add_assoc]
    ·show [(30, Res.vec _ _ (splice cells (0 + i * 1) [.iface ty p]))] = _
     rw [Nat.zero_add, Nat.mul_one, splice_set (by omega)]
    ·by_cases hji : j = i
     ·subst hji
      rw [List.getElem?_set_self (by omega)] at hc
      simp [hi'] at hx
      cases hc
      subst hx
      exact hg
     ·rw [List.getElem?_set_ne (Ne.symm hji)] at hc
      exact (hany j x c (by omega) hx hc).mono hJ1
  ·rename_i hge _
   have hik : i = ks.length := by omega
   have hfl : (es.take i).flatten.length = es.flatten.length := by rw [List.take_of_length_le (by omega)]
   rw [hfl]
   refine G ?_
   refine ⟨⟨[], [], [], [30], ?_⟩⟩
   intro J1 hJ1 ⟨n, hn, hsl⟩
   have hn' : ks.length = n := hn
   subst hn'
   conv => whnf
   refine h J1 _ cells (hJ.trans hJ1) hsl (fun j x c hx hc => (hany j x c (by have := (List.getElem?_eq_some_iff.1 hx).1; omega) hx hc).mono hJ1) ?_
   have e2 := congrArg (List.drop es.flatten.length) hr
   rw [List.drop_drop, List.drop_left] at e2
   exact e2
theorem readAnyList_law {ks : List V} {o : Int} {es : List (List UInt8)} {hd r : List UInt8} (hk : ∀ (i : Nat) (y : V), ks[i]? = some y → RdP y) (hv : BufAt I bs v) (hl : es.length = ks.length)
  (he : ∀ (i : Nat) (x : V) (e : List UInt8), ks[i]? = some x → es[i]? = some e → Enc x e) (hh : ListH ks.length hd es.flatten) (hdr : bs.drop off = hd ++ (es.flatten ++ r))
  (h : ∀ I' g, I.le I' → GoAny I' (.mk 21 0 [] ks o []) g → bs.drop (off + (hd.length + es.flatten.length)) = r → Q (.tuple #[g, .nilIface]) [bufC v (off + (hd.length + es.flatten.length))] [] I') :
  WP Tryz.prog 209 #[ptr b] [(b, bufC v off)] [] I Q := by
 refine lw K209 [(0,1000)] _ Tryz.func209 ?_
 refine G ?_
 intro b4
 refine G ?_
 refine Cx [4,1000] ?_
 refine listUnm_law hk hv hl he hh hdr fun I1 sv cells hi1 hs hg hr => ?_
 refine G ?_
 refine L0 ?_
 rw [Nat.add_assoc] at hr ⊢
 exact h I1 _ hi1 (.list hs hg) hr
theorem rd_list {ks : List V} {o : Int} (hk : ∀ (i : Nat) (y : V), ks[i]? = some y → RdP y) : RdP (.mk 21 0 [] ks o []) := by
 intro I b bs v off e r Q hv he hd h
 cases he with
 | sc he => cases he
 | list hl he hh =>
  rename_i es hdd
  rw [List.append_assoc] at hd
  have hh' := hh
  have first : ∃ c rest, hdd = c :: rest ∧ (c = 0x45 ∨ c = 0xc0 ∨ c = 0xd0) := by
   generalize ks.length = m at hh
   generalize es.flatten = bd at hh
   cases hh with
   | z => exact ⟨_, _, rfl, .inl rfl⟩
   | h hh => cases hh <;> exact ⟨_, _, rfl, by decide⟩
  obtain ⟨c, rest, rfl, hc⟩ := first
  rw [List.length_append] at h
  refine lw K136 [(0,1000)] [ptr b] Tryz.func136 ?_
  rcases hc with rfl | rfl | rfl
  all_goals
  refine G ?_
  refine Cx [1000] ?_
  refine tryReadNull_law hv (Nat.le_of_lt (drop_le hd)) hd (fun z r' hz => by cases hz; decide) ?_
  refine G ?_
  refine Cx [1000] ?_
  refine peekType_law hv hd ?_
  refine G ?_
  refine Cx [1000] ?_
  refine readAnyList_law (o := o) hk hv hl he hh' hd fun I1 g hi1 hg hr => ?_
  refine G ?_
  refine L0 ?_
  exact h I1 g hi1 hg hr
end rd
def InsV (x y : V) : Prop := y = x ∨ x.kind = 23 ∧ ∃ z, x.kids = [z] ∧ z.kind = 20 ∧ y = z
def VecOk : Res → Prop
 | .vec (.slice (some ⟨_, o, s⟩) len cap) sz cs => o = 0 ∧ s = none ∧ cs.length = len * sz ∧ len ≤ cap
 | .vec (.slice none len cap) _ cs => len = 0 ∧ cap = 0 ∧ cs = []
 | .vec _ _ _ => False
 | _ => True
theorem VecOk.of {w : World} {r : Res} (h : r.holds w) : VecOk r := by
 cases r with
 | vec v sz cs =>
  simp only [Res.holds] at h
  cases v <;> try (simp only [vecHolds] at h; done)
  rename_i a len cap
  cases a with
  | none => simp only [vecHolds] at h; exact h
  | some a =>
   obtain ⟨b', off, spot⟩ := a
   cases spot <;> cases off <;> simp only [vecHolds] at h
   obtain ⟨h1, h2, _⟩ := h
   exact ⟨rfl, rfl, h1, h2⟩
 | _ => trivial
theorem WP.vecOk {P : Program} {f : FuncId} {args : Array Value} {H : List (Nat × List Value)} {R : List Res} {I : Imm} {Q : Qt}
  (h : WP P f args H R I fun v cs Rn I' => (∀ r ∈ Rn, VecOk r) → Q v cs Rn I') : WP P f args H R I Q :=
 ⟨h.enters, fun w hs => (h.calls w hs).mono fun _ w' ⟨v, cs, Rn, I', e, hl, hst, q⟩ => ⟨v, cs, Rn, I', e, hl, hst, q fun r hr => VecOk.of (hst.sat.res r (List.mem_append_right _ hr)).1⟩⟩
section laws
variable {I : Imm} {Q : Qt}
theorem inside_law {x : V} {b : Nat} {s : Int} {sh : Bool} {cs : List Value} (hr : VRep I x cs) (hs : Rng s) (h : ∀ s' y cs', Rng s' → VRep I y cs' → InsV x y → Q (.agg cs'.toArray) [formC s' sh] [] I) :
  WP Tryz.prog 31 #[ptr b, .agg cs.toArray] [(b, formC s sh)] [] I Q := by
 have hr' := hr
 obtain ⟨kb, kc, db, dc, rfl, hvk, hvd, _⟩ := hr.inv2
 have stay : Q (.agg (cellsOf x kb kc db dc).toArray) [formC s sh] [] I := h s x _ hs hr' (.inl rfl)
 refine lw K31 [(0,1000)] [ptr b, .agg #[.int .i64 x.kind, .int .u64 (x.num : Nat), strV x.text, .slice kb x.kids.length kc, .int .i64 x.of, .slice db x.desc.length dc]] Tryz.func31 ?_
 refine G ?_
 intro b3
 refine G ?_
 intro b4
 refine G ?_
 split
 ·rename_i hk _
  refine G ?_
  split
  ·rename_i h1 _
   have hl1 : x.kids.length = 1 := by omega
   obtain ⟨vb, vo, rfl, _⟩ := hvk.some (by omega)
   obtain ⟨cx, hcx, hcc⟩ := hvk.get (i := 0) (x := x.kids[0]) (by simp [hl1])
   have hcx' := hcx
   obtain ⟨yb, yc, yd, ye, rfl, _⟩ := hcx.inv2
   refine G ?_
   refine ⟨_, _, _, _, 0, rfl, rfl, by omega, ?_⟩
   refine G ?_
   refine ⟨_, .imm (show CellsAt I vb (vo + 0 * 6 + 0) [.int .i64 x.kids[0].kind] from fun j x e => by
    match j, e with
    | 0, e => exact hcc 0 x e
    | j + 1, e => simp at e), ?_⟩
   refine G ?_
   split
   ·rename_i hk20 _
    refine G ?_
    refine Cx [1000] ?_
    refine pick_law (n := 2) (by omega) hs fun s1 v hv hs1 => ?_
    refine G ?_
    split
    ·refine G ?_
     refine ⟨_, _, _, _, 0, rfl, rfl, by omega, ?_⟩
     refine G ?_
     refine ⟨_, .imm hcc, rfl, ?_⟩
     refine G ?_
     refine L0 ?_
     refine h s1 x.kids[0] _ hs1 hcx' (.inr ⟨hk, x.kids[0], ?_, hk20, rfl⟩)
     obtain ⟨z, hz⟩ := List.length_eq_one_iff.1 hl1
     simp [hz]
    ·refine G ?_
     refine L0 ?_
     exact h s1 x _ hs1 hr' (.inl rfl)
   ·refine G ?_
    refine L0 ?_
    exact stay
  ·refine G ?_
   refine L0 ?_
   exact stay
 ·refine G ?_
  refine L0 ?_
  exact stay
theorem Whole_own {c : C} {cs : List Value} (hc : CRep I c cs) (h : ∀ I' kb kc bd (cells : List (List Value)), I.le I' → cells.length = c.fields.length → (∀ (j : Nat) (x : V) (d : List Value), (c.fields.map Prod.fst)[j]? = some x → cells[j]? = some d → VRep I' x d) → CellsAt I' bd 0 (numC 5 c.code) →
  Q (.agg #[.int .i64 21, .int .u64 0, strV [], .slice kb c.fields.length kc, .int .i64 0, .slice (some ⟨bd, 0, none⟩) 1 1]) [] [.vec (.slice kb c.fields.length kc) 6 cells.flatten] I') : WP Tryz.prog 28 #[.agg cs.toArray] [] [] I Q := by
 obtain ⟨hcode, fv, rfl, hf⟩ := hc
 obtain ⟨base, cap, rfl⟩ := hf.form
 have hlen := hf.1
 refine lw K28 [] [.agg #[.int .u64 (c.code : Nat), .slice base c.fields.length cap]] Tryz.func28 ?_
 refine G ?_
 intro b1
 refine G ?_
 intro b2
 refine G ?_
 refine Cx [] ?_
 refine ofNumber_law ?_
 refine G ?_
 refine .inl fun bd I1 hi1 hcd => ?_
 refine G ?_
 intro b3
 refine G ?_
 refine ⟨⟨[14], [3], [(900, 6)], fun m vs cs R I' => ∃ (i : Nat) (kb : Option Addr) (kc : Nat) (cells : List (List Value)), vs = [.int .i64 (i : Nat)] ∧ i ≤ c.fields.length ∧ m = c.fields.length - i ∧
   cs = [[.int .i64 21, .int .u64 0, strV [], .slice kb i kc, .int .i64 0, .slice (some ⟨bd, 0, none⟩) 1 1]] ∧ R = [(900, .vec (.slice kb i kc) 6 cells.flatten)] ∧ cells.length = i ∧
   (∀ (j : Nat) (x : V) (d : List Value), (c.fields.map Prod.fst)[j]? = some x → cells[j]? = some d → VRep I' x d),
  c.fields.length, _, _, rfl, rfl, ⟨0, none, 0, [], rfl, by omega, rfl, rfl, rfl, rfl, by simp⟩, ?_⟩⟩
 rintro m vs cs R I' hI _ _ ⟨i, kb, kc, cells, rfl, hi, rfl, rfl, rfl, hcl, hrep⟩
 replace hI : I1.le I' := hI
 have hf' := hf.mono (hi1.trans hI)
 refine G ?_
 split
 ·rename_i hlt _
  have hi' : i < c.fields.length := by omega
  obtain ⟨fb, fo, rfl, _⟩ := Row.some hf' (by omega)
  obtain ⟨cx, hcx, _, hcc⟩ := Row.get hf' (i := i) (x := c.fields[i]) (by simp [hi'])
  obtain ⟨c1, c2, hv1, hv2, rfl⟩ := hcx
  have hone := hv1.one
  have hl1 := hv1.len
  have hl2 := hv2.len
  obtain ⟨xb, xc, xd, xe, rfl, _⟩ := hv1.inv2
  obtain ⟨yb, yc, yd, ye, rfl, _⟩ := hv2.inv2
  refine G ?_
  refine ⟨_, _, _, _, i, rfl, rfl, hi', ?_⟩
  refine G ?_
  refine ⟨_, .imm hcc, rfl, ?_⟩
  refine G ?_
  intro b5
  refine G ?_
  refine .inl fun be I2 hi2 hce => ?_
  refine G ?_
  refine .own 900 i 1 cells.flatten (cellsOf c.fields[i].1 xb xc xd xe) rfl rfl ⟨rfl, by omega, rfl, hce⟩ rfl (by rw [show ti79.bytes = 88 by kernel_rfl]; omega) fun nb nc => ?_
  refine G ?_
  refine ⟨_, _, _, ?_, rfl, rfl, rfl, rfl, .inl ⟨i + 1, nb, nc, cells ++ [cellsOf c.fields[i].1 xb xc xd xe], ?_, hi', rfl, rfl, ?_, by simp [hcl], fun j x d hx hd => ?_⟩⟩
  ·omega
  ·rfl
  ·rw [List.flatten_append, List.flatten_cons, List.flatten_nil, List.append_nil]; rfl
  ·by_cases hji : j < i
   ·rw [List.getElem?_append_left (by omega)] at hd
    exact (hrep j x d hx hd).mono hi2
   ·obtain rfl : j = i := by
     have := (List.getElem?_eq_some_iff.1 hd).1
     simp at this
     omega
    rw [List.getElem?_append_right (by omega), hcl] at hd
    simp at hd
    simp [hi'] at hx
    subst hd hx
    exact hv1.mono hi2
 ·rename_i hge _
  refine G ?_
  obtain rfl : i = c.fields.length := by omega
  refine ⟨⟨[], [900], [], [], ?_⟩⟩
  conv => whnf
  exact h I' kb kc bd cells (hi1.trans hI) hcl hrep (fun j x e => hI.c (hcd j x e))
end laws
def FieldVar (f : V × V) (y : V) : Prop := ∃ z, (z = f.1 ∨ z = vNull ∧ f.1.kind ≠ 0 ∧ f.2.kind ≠ 0 ∧ Same f.1 f.2) ∧ InsV z y
structure Variant (c : C) (kids : List V) : Prop where
 len : kids.length ≤ c.fields.length
 fld : ∀ (j : Nat) (f : V × V) (y : V), c.fields[j]? = some f → kids[j]? = some y → FieldVar f y
 rest : ∀ (j : Nat) (f : V × V), kids.length ≤ j → c.fields[j]? = some f → ∃ y, FieldVar f y ∧ y.kind = 0
theorem insV_cnt {x y : V} (h : InsV x y) : y.cnt ≤ x.cnt := by
 rcases h with rfl | ⟨_, z, hz, _, rfl⟩
 ·exact Nat.le_refl _
 ·have := cnt_eq x; rw [hz, cntL_cons] at this; omega
theorem fieldVar_cnt {f : V × V} {y : V} (h : FieldVar f y) : y.cnt ≤ f.1.cnt := by
 obtain ⟨z, rfl | ⟨rfl, _⟩, h⟩ := h
 ·exact insV_cnt h
 ·have h1 := insV_cnt h
  have h2 : vNull.cnt = 1 := by simp [vNull, V.cnt, cntL_nil]
  have := cnt_pos f.1
  omega
theorem cntL_le : ∀ {l m : List V}, l.length ≤ m.length → (∀ (i : Nat) (x y : V), l[i]? = some x → m[i]? = some y → x.cnt ≤ y.cnt) → cntL l ≤ cntL m
 | [], _, _, _ => by simp [cntL_nil]
 | x :: l, [], h, _ => by simp at h
 | x :: l, y :: m, h, hc => by
  rw [cntL_cons, cntL_cons]
  have h1 := hc 0 x y rfl rfl
  have h2 := cntL_le (l := l) (m := m) (by simpa using h) fun i a b ha hb => hc (i + 1) a b (by simpa using ha) (by simpa using hb)
  omega
theorem flatten_set {n : Nat} : ∀ {cells : List (List Value)} {i : Nat} {d : List Value}, (∀ c ∈ cells, c.length = n) → d.length = n → i < cells.length → splice cells.flatten (i * n) d = (cells.set i d).flatten
 | [], i, d, _, _, h => by simp at h
 | c :: cells, 0, d, hc, hd, _ => by
  have h1 := hc c (by simp)
  simp only [splice, Nat.zero_mul, List.take_zero, List.nil_append, Nat.zero_add, List.set_cons_zero, List.flatten_cons]
  rw [List.drop_append, List.drop_of_length_le (by omega), hd, h1, Nat.sub_self]
  rfl
 | c :: cells, i + 1, d, hc, hd, h => by
  have h1 := hc c (by simp)
  have ih := flatten_set (cells := cells) (i := i) (d := d) (fun x hx => hc x (by simp [hx])) hd (by simpa using h)
  simp only [splice] at ih
  simp only [splice, List.set_cons_succ, List.flatten_cons]
  rw [← ih, show (i + 1) * n = c.length + i * n by rw [h1, Nat.add_mul]; omega, List.take_length_add_append]
  rw [show c.length + i * n + d.length = c.length + (i * n + d.length) by omega, List.drop_length_add_append]
  simp
theorem flat_len {n : Nat} : ∀ {cells : List (List Value)}, (∀ c ∈ cells, c.length = n) → cells.flatten.length = cells.length * n
 | [], _ => by simp
 | c :: cells, h => by
  rw [List.flatten_cons, List.length_append, h c (by simp), flat_len (cells := cells) fun x hx => h x (by simp [hx]), List.length_cons, Nat.add_mul]; omega
theorem flat_bound {cells : List (List Value)} {i : Nat} {d : List Value} (hc : ∀ c ∈ cells, c.length = 6) (hi : i < cells.length) (hd : d.length = 6) : i * 6 + d.length ≤ cells.flatten.length := by
 rw [flat_len hc, hd]; omega
theorem cells_get {cells : List (List Value)} {i : Nat} {c : List Value} (hl : ∀ c ∈ cells, c.length = 6) (h : cells[i]? = some c) : ∀ j x, c[j]? = some x → cells.flatten[0 + i * 6 + j]? = some x := fun j x e => by
 rw [Nat.zero_add]; exact flatten_get hl h j x e
theorem vs_prefix {I J : Imm} {kb : Option Addr} {n kc k : Nat} {ws : List V} {cells : List (List Value)} (hf : Froz J (.vec (.slice kb n kc) 6 cells.flatten)) (hi : I.le J) (hw : ws.length = n) (hc : cells.length = n) (hn : n < 1099511627776)
  (hrep : ∀ (j : Nat) (x : V) (d : List Value), ws[j]? = some x → cells[j]? = some d → VRep I x d) (hk : k ≤ n) : VsRep J (ws.take k) (.slice kb k kc) := by
 obtain ⟨m, hm, hsl⟩ := hf
 have hm' : n = m := hm
 subst hm'
 have hc6 : ∀ c ∈ cells, c.length = 6 := fun d hd => by
  obtain ⟨i, hi⟩ := List.mem_iff_getElem?.1 hd
  have hil : i < ws.length := by rw [hw, ← hc]; exact (List.getElem?_eq_some_iff.1 hi).1
  exact (hrep i ws[i] d (by simp [hil]) hi).len
 have hl : (ws.take k).length = k := by simp; omega
 refine ⟨by omega, cells.take k, ?_, by simp; omega, fun i x c hx hcx => ?_⟩
 ·rw [hl]
  have hcat : cells.flatten = (cells.take k).flatten ++ (cells.drop k).flatten := by rw [← List.flatten_append, List.take_append_drop]
  have hfl : (cells.take k).flatten.length = k * 6 := by
   rw [flat_len (n := 6) fun c hc => hc6 c (List.mem_of_mem_take hc)]; simp; omega
  cases kb with
  | none =>
   obtain ⟨_, rfl, rfl, h0⟩ := hsl
   obtain rfl : k = 0 := by omega
   exact ⟨rfl, rfl, rfl, rfl⟩
  | some a =>
   obtain ⟨b, o, sp⟩ := a
   cases sp with
   | some _ =>
    obtain ⟨_, rfl, rfl, h0⟩ := hsl
    obtain rfl : k = 0 := by omega
    exact ⟨rfl, rfl, rfl, rfl⟩
   | none =>
    obtain ⟨_, h2, h3, h4⟩ := hsl
    refine ⟨rfl, by omega, hfl, fun j x e => h4 j x ?_⟩
    rw [hcat, List.getElem?_append_left (List.getElem?_eq_some_iff.1 e).1]
    exact e
 ·rw [List.getElem?_take] at hx hcx
  split at hx
  ·rename_i hik
   rw [if_pos hik] at hcx
   exact (hrep i x c hx hcx).mono hi
  ·cases hx
section laws
variable {I : Imm} {Q : Qt}
theorem Put_law {c : C} {cs : List Value} {b : Nat} {s : Int} {sh : Bool} (hc : CRep I c cs) (hs : Rng s) (hP : ∀ (j : Nat) (f : V × V) (y : V), c.fields[j]? = some f → FieldVar f y → Pv y) (hn : cntL (c.fields.map Prod.fst) ≤ 1000)
  (h : ∀ s' I' kb kc e kids, Rng s' → I.le I' → Enc (.mk 21 0 [] kids 0 [vNum 5 c.code]) e → Variant c kids → e.length ≤ 262400000 → Q (.slice kb e.length kc) [formC s' sh] [.vec (.slice kb e.length kc) 1 (e.map byteV)] I') :
  WP Tryz.prog 8 #[.agg cs.toArray, ptr b] [(b, formC s sh)] [] I Q := by
 have hc' := hc
 obtain ⟨hcode, fv, rfl, hf⟩ := hc
 obtain ⟨base, cap, rfl⟩ := hf.form
 have hlen := hf.1
 have hlen2 := cntL_len (c.fields.map Prod.fst)
 rw [List.length_map] at hlen2
 have hz6 : ti79.size = 6 := by kernel_rfl
 refine lw K8 [(1,1000)] [.agg #[.int .u64 (c.code : Nat), .slice base c.fields.length cap], ptr b] Tryz.func8 ?_
 refine G ?_
 intro b2
 refine G ?_
 refine Cx [] ?_
 refine WP.vecOk (Whole_own hc' fun I1 kb kc bd cells0 hi1 hcl0 hrep0 hcd hok => ?_)
 replace hok := hok _ (List.mem_singleton.2 rfl)
 refine G ?_
 intro b5
 refine G ?_
 refine ⟨⟨[13], [1000], [], fun m vs cs R I' => ∃ (i : Nat) (s' : Int) (ws : List V) (cells : List (List Value)), vs = [.int .i64 (i : Nat)] ∧ cs = [formC s' sh] ∧ Rng s' ∧ i ≤ c.fields.length ∧ m = c.fields.length - i ∧
   R = [(9, .vec (.slice kb c.fields.length kc) 6 cells.flatten)] ∧ ws.length = c.fields.length ∧ cells.length = c.fields.length ∧ (∀ (j : Nat) (x : V) (d : List Value), ws[j]? = some x → cells[j]? = some d → VRep I' x d) ∧
   (∀ (j : Nat) (f : V × V) (y : V), j < i → c.fields[j]? = some f → ws[j]? = some y → FieldVar f y) ∧ (∀ (j : Nat) (f : V × V) (y : V), i ≤ j → c.fields[j]? = some f → ws[j]? = some y → y = f.1),
  c.fields.length, _, _, rfl, rfl, ⟨0, s, c.fields.map Prod.fst, cells0, rfl, rfl, hs, by omega, rfl, rfl, by simp, hcl0, hrep0, fun j f y hj => by omega, fun j f y _ hf hy => ?_⟩, ?_⟩⟩
 ·rw [List.getElem?_map, hf] at hy
  simpa using hy.symm
 rintro m vs cs R I2 hI _ _ ⟨i, s1, ws, cells, rfl, rfl, hs1, hi, rfl, rfl, hwl, hcl, hrep, hdone, hleft⟩
 replace hI : I1.le I2 := hI
 have hf2 := hf.mono (hi1.trans hI)
 have hc6 : ∀ c ∈ cells, c.length = 6 := fun d hd => by
  obtain ⟨k, hk⟩ := List.mem_iff_getElem?.1 hd
  have hkl : k < ws.length := by rw [hwl, ← hcl]; exact (List.getElem?_eq_some_iff.1 hk).1
  exact (hrep k ws[k] d (by simp [hkl]) hk).len
 refine G ?_
 split
 ·rename_i hlt _
  have hi' : i < c.fields.length := by omega
  have hiw : i < ws.length := by omega
  have hic : i < cells.length := by omega
  obtain ⟨kbb, rfl⟩ : ∃ bb, kb = some ⟨bb, 0, none⟩ := by
   cases kb with
   | none => obtain ⟨e, _⟩ := hok; omega
   | some a => obtain ⟨bb, o, sp⟩ := a; obtain ⟨rfl, rfl, _⟩ := hok; exact ⟨bb, rfl⟩
  obtain ⟨fb, fo, rfl, _⟩ := Row.some hf2 (by omega)
  obtain ⟨cx, hcx, _, hcc⟩ := Row.get hf2 (i := i) (x := c.fields[i]) (by simp [hi'])
  obtain ⟨c1, c2, hv1, hv2, rfl⟩ := hcx
  have hv1' := hv1
  have hv2' := hv2
  obtain ⟨xb, xc, xd, xe, rfl, _⟩ := hv1.inv2
  obtain ⟨yb, yc, yd, ye, rfl, _⟩ := hv2.inv2
  have hwi : ws[i] = c.fields[i].1 := hleft i c.fields[i] ws[i] (Nat.le_refl _) (by simp [hi']) (by simp [hiw])
  have hrepi : VRep I2 c.fields[i].1 cells[i] := by
   have := hrep i ws[i] cells[i] (by simp [hiw]) (by simp [hic])
   rw [hwi] at this; exact this
  have fin : ∀ (z y : V) (d : List Value), (z = c.fields[i].1 ∨ z = vNull ∧ c.fields[i].1.kind ≠ 0 ∧ c.fields[i].2.kind ≠ 0 ∧ Same c.fields[i].1 c.fields[i].2) → InsV z y → VRep I2 y d →
    (ws.set i y).length = c.fields.length ∧ (cells.set i d).length = c.fields.length ∧ (∀ (j : Nat) (x : V) (d' : List Value), (ws.set i y)[j]? = some x → (cells.set i d)[j]? = some d' → VRep I2 x d') ∧
    (∀ (j : Nat) (f : V × V) (w : V), j < i + 1 → c.fields[j]? = some f → (ws.set i y)[j]? = some w → FieldVar f w) ∧ (∀ (j : Nat) (f : V × V) (w : V), i + 1 ≤ j → c.fields[j]? = some f → (ws.set i y)[j]? = some w → w = f.1) := fun z y d hz hzy hd => by
   refine ⟨by simp [hwl], by simp [hcl], fun j x d' hx hd' => ?_, fun j f w hj hf hw => ?_, fun j f w hj hf hw => ?_⟩
   ·by_cases hji : j = i
    ·subst hji
     rw [List.getElem?_set_self (by omega)] at hx hd'
     cases hx; cases hd'; exact hd
    ·rw [List.getElem?_set_ne (Ne.symm hji)] at hx hd'
     exact hrep j x d' hx hd'
   ·by_cases hji : j = i
    ·subst hji
     rw [List.getElem?_set_self (by omega)] at hw
     cases hw
     simp [hi'] at hf
     subst hf
     exact ⟨z, hz, hzy⟩
    ·rw [List.getElem?_set_ne (Ne.symm hji)] at hw
     exact hdone j f w (by omega) hf hw
   ·rw [List.getElem?_set_ne (by omega)] at hw
    exact hleft j f w (by omega) hf hw
  refine G ?_
  refine ⟨_, _, _, _, i, rfl, rfl, hi', ?_⟩
  refine G ?_
  refine ⟨_, .imm hcc, rfl, ?_⟩
  refine G ?_
  intro b7
  refine G ?_
  split
  ·rename_i hk0 _
   refine G ?_
   refine ⟨[0,1,2,3,4,5,6,7,8,9,10,11], [1000], [], [53], by kernel_rfl, ?_⟩
   refine G ?_
   refine ⟨_, _, _, _, i, rfl, rfl, hi', ?_⟩
   refine G ?_
   refine ⟨cells[i], .vec 9 _ _ 6 _ rfl (cells_get hc6 (show cells[i]? = some cells[i] by simp [hic])), hrepi.len, ?_⟩
   refine G ?_
   refine .inr ?_
   refine G ?_
   refine inside_law hrepi hs1 fun s3 y d hs3 hy hins => ?_
   obtain ⟨g1, g2, g3, g4, g5⟩ := fin _ y d (.inl rfl) hins hy
   have hy' := hy
   obtain ⟨zb, zc, zd, ze, rfl, _⟩ := hy.inv2
   refine G ?_
   refine ⟨_, _, _, _, i, rfl, rfl, hi', ?_⟩
   refine G ?_
   refine .vec 9 _ _ 6 _ rfl (by rw [hz6, Nat.zero_add]; exact flat_bound hc6 (by omega) hy'.len) ?_
   refine G ?_
   refine ⟨c.fields.length - (i + 1), _, _, by omega, rfl, rfl, rfl, rfl, .inl ⟨i + 1, s3, ws.set i y, cells.set i (cellsOf y zb zc zd ze), rfl, rfl, hs3, hi', rfl, ?_, g1, g2, g3, g4, g5⟩⟩
   show [(9, Res.vec (.slice (some ⟨kbb, 0, none⟩) c.fields.length kc) 6 (splice cells.flatten (0 + i * 6) (cellsOf y zb zc zd ze)))] = _
   rw [Nat.zero_add, flatten_set hc6 hy'.len hic]
  ·rename_i hk _
   refine G ?_
   split
   ·rename_i hk20 _
    refine G ?_
    refine ⟨[0,1,2,3,4,5,6,7,8,9,10,11], [1000], [], [53], by kernel_rfl, ?_⟩
    refine G ?_
    refine ⟨_, _, _, _, i, rfl, rfl, hi', ?_⟩
    refine G ?_
    refine ⟨cells[i], .vec 9 _ _ 6 _ rfl (cells_get hc6 (show cells[i]? = some cells[i] by simp [hic])), hrepi.len, ?_⟩
    refine G ?_
    refine .inr ?_
    refine G ?_
    refine inside_law hrepi hs1 fun s3 y d hs3 hy hins => ?_
    obtain ⟨g1, g2, g3, g4, g5⟩ := fin _ y d (.inl rfl) hins hy
    have hy' := hy
    obtain ⟨zb, zc, zd, ze, rfl, _⟩ := hy.inv2
    refine G ?_
    refine ⟨_, _, _, _, i, rfl, rfl, hi', ?_⟩
    refine G ?_
    refine .vec 9 _ _ 6 _ rfl (by rw [hz6, Nat.zero_add]; exact flat_bound hc6 (by omega) hy'.len) ?_
    refine G ?_
    refine ⟨c.fields.length - (i + 1), _, _, by omega, rfl, rfl, rfl, rfl, .inl ⟨i + 1, s3, ws.set i y, cells.set i (cellsOf y zb zc zd ze), rfl, rfl, hs3, hi', rfl, ?_, g1, g2, g3, g4, g5⟩⟩
    show [(9, Res.vec (.slice (some ⟨kbb, 0, none⟩) c.fields.length kc) 6 (splice cells.flatten (0 + i * 6) (cellsOf y zb zc zd ze)))] = _
    rw [Nat.zero_add, flatten_set hc6 hy'.len hic]
   ·rename_i hk2 _
    refine G ?_
    refine Cx [] ?_
    refine SameValue_law _ _ _ (Nat.le_refl _) hv1' hv2' fun t ht => ?_
    cases t with
    | false =>
     refine G ?_
     refine ⟨[0,1,2,3,4,5,6,7,8,9,10,11], [1000], [], [53], by kernel_rfl, ?_⟩
     refine G ?_
     refine ⟨_, _, _, _, i, rfl, rfl, hi', ?_⟩
     refine G ?_
     refine ⟨cells[i], .vec 9 _ _ 6 _ rfl (cells_get hc6 (show cells[i]? = some cells[i] by simp [hic])), hrepi.len, ?_⟩
     refine G ?_
     refine .inr ?_
     refine G ?_
     refine inside_law hrepi hs1 fun s3 y d hs3 hy hins => ?_
     obtain ⟨g1, g2, g3, g4, g5⟩ := fin _ y d (.inl rfl) hins hy
     have hy' := hy
     obtain ⟨zb, zc, zd, ze, rfl, _⟩ := hy.inv2
     refine G ?_
     refine ⟨_, _, _, _, i, rfl, rfl, hi', ?_⟩
     refine G ?_
     refine .vec 9 _ _ 6 _ rfl (by rw [hz6, Nat.zero_add]; exact flat_bound hc6 (by omega) hy'.len) ?_
     refine G ?_
     refine ⟨c.fields.length - (i + 1), _, _, by omega, rfl, rfl, rfl, rfl, .inl ⟨i + 1, s3, ws.set i y, cells.set i (cellsOf y zb zc zd ze), rfl, rfl, hs3, hi', rfl, ?_, g1, g2, g3, g4, g5⟩⟩
     show [(9, Res.vec (.slice (some ⟨kbb, 0, none⟩) c.fields.length kc) 6 (splice cells.flatten (0 + i * 6) (cellsOf y zb zc zd ze)))] = _
     rw [Nat.zero_add, flatten_set hc6 hy'.len hic]
    | true =>
     refine G ?_
     refine Cx [1000] ?_
     refine pick_law (n := 2) (by omega) hs1 fun s2 v hv hs2 => ?_
     refine G ?_
     split
     ·refine G ?_
      refine ⟨_, _, _, _, i, rfl, rfl, hi', ?_⟩
      refine G ?_
      refine .vec 9 _ _ 6 _ rfl (by rw [hz6, Nat.zero_add]; exact flat_bound hc6 (by omega) (show (numC 0 0).length = 6 from rfl)) ?_
      have hc6n : ∀ c ∈ cells.set i (numC 0 0), c.length = 6 := fun d hd => by
       rcases List.mem_or_eq_of_mem_set hd with hd | rfl
       ·exact hc6 d hd
       ·rfl
      have hsp := flatten_set (d := numC 0 0) hc6 rfl hic
      refine G ?_
      refine ⟨[0,1,2,3,4,5,6,7,8,9,10,11], [1000], [], [53], by kernel_rfl, ?_⟩
      refine G ?_
      refine ⟨_, _, _, _, i, rfl, rfl, hi', ?_⟩
      refine G ?_
      refine ⟨(numC 0 0), .vec 9 _ _ 6 _ rfl (show ∀ j x, (numC 0 0)[j]? = some x → (splice cells.flatten (0 + i * 6) (numC 0 0))[0 + i * 6 + j]? = some x from by rw [Nat.zero_add, hsp]; exact flatten_get hc6n (by simp [hic])), (vNull_rep : VRep I2 vNull (numC 0 0)).len, ?_⟩
      refine G ?_
      refine .inr ?_
      refine G ?_
      refine inside_law (vNull_rep : VRep I2 vNull (numC 0 0)) hs2 fun s3 y d hs3 hy hins => ?_
      obtain ⟨g1, g2, g3, g4, g5⟩ := fin _ y d (.inr ⟨rfl, hk, hk2, ht.1 rfl⟩) hins hy
      have hy' := hy
      obtain ⟨zb, zc, zd, ze, rfl, _⟩ := hy.inv2
      refine G ?_
      refine ⟨_, _, _, _, i, rfl, rfl, hi', ?_⟩
      refine G ?_
      refine .vec 9 _ _ 6 _ rfl (show 0 + i * 6 + (cellsOf y zb zc zd ze).length ≤ (splice cells.flatten (0 + i * 6) (numC 0 0)).length from by rw [Nat.zero_add, hsp]; exact flat_bound hc6n (by simp; omega) hy'.len) ?_
      refine G ?_
      refine ⟨c.fields.length - (i + 1), _, _, by omega, rfl, rfl, rfl, rfl, .inl ⟨i + 1, s3, ws.set i y, cells.set i (cellsOf y zb zc zd ze), rfl, rfl, hs3, hi', rfl, ?_, g1, g2, g3, g4, g5⟩⟩
      show [(9, Res.vec (.slice (some ⟨kbb, 0, none⟩) c.fields.length kc) 6 (splice (splice cells.flatten (0 + i * 6) (numC 0 0)) (0 + i * 6) (cellsOf y zb zc zd ze)))] = _
      rw [Nat.zero_add, hsp, flatten_set hc6n hy'.len (by simp; omega), List.set_set]
     ·rename_i hv0 _
      refine G ?_
      refine ⟨[0,1,2,3,4,5,6,7,8,9,10,11], [1000], [], [53], by kernel_rfl, ?_⟩
      refine G ?_
      refine ⟨_, _, _, _, i, rfl, rfl, hi', ?_⟩
      refine G ?_
      refine ⟨cells[i], .vec 9 _ _ 6 _ rfl (cells_get hc6 (show cells[i]? = some cells[i] by simp [hic])), hrepi.len, ?_⟩
      refine G ?_
      refine .inr ?_
      refine G ?_
      refine inside_law hrepi hs2 fun s3 y d hs3 hy hins => ?_
      obtain ⟨g1, g2, g3, g4, g5⟩ := fin _ y d (.inl rfl) hins hy
      have hy' := hy
      obtain ⟨zb, zc, zd, ze, rfl, _⟩ := hy.inv2
      refine G ?_
      refine ⟨_, _, _, _, i, rfl, rfl, hi', ?_⟩
      refine G ?_
      refine .vec 9 _ _ 6 _ rfl (by rw [hz6, Nat.zero_add]; exact flat_bound hc6 (by omega) hy'.len) ?_
      refine G ?_
      refine ⟨c.fields.length - (i + 1), _, _, by omega, rfl, rfl, rfl, rfl, .inl ⟨i + 1, s3, ws.set i y, cells.set i (cellsOf y zb zc zd ze), rfl, rfl, hs3, hi', rfl, ?_, g1, g2, g3, g4, g5⟩⟩
      show [(9, Res.vec (.slice (some ⟨kbb, 0, none⟩) c.fields.length kc) 6 (splice cells.flatten (0 + i * 6) (cellsOf y zb zc zd ze)))] = _
      rw [Nat.zero_add, flatten_set hc6 hy'.len hic]
 ·rename_i hge _
  have hin : i = c.fields.length := by omega
  have hdone' : ∀ (j : Nat) (f : V × V) (y : V), c.fields[j]? = some f → ws[j]? = some y → FieldVar f y := fun j f y hf hy => hdone j f y (by have := (List.getElem?_eq_some_iff.1 hf).1; omega) hf hy
  clear hdone hleft
  have hfj : ∀ {j : Nat} {y : V}, ws[j]? = some y → ∃ f, c.fields[j]? = some f ∧ FieldVar f y := fun {j y} hy => by
   have hj : j < c.fields.length := by rw [← hwl]; exact (List.getElem?_eq_some_iff.1 hy).1
   exact ⟨c.fields[j], by simp [hj], hdone' j _ y (by simp [hj]) hy⟩
  have hPv : ∀ k, Pv (.mk 21 0 [] (ws.take k) 0 [vNum 5 c.code]) := fun k => .comp hcode fun j y hy => by
   rw [List.getElem?_take] at hy
   split at hy
   ·obtain ⟨f, hf, hfv⟩ := hfj hy
    exact hP j f y hf hfv
   ·cases hy
  have hcnt : ∀ k, (V.mk 21 0 [] (ws.take k) 0 [vNum 5 c.code]).cnt ≤ 2000 := fun k => by
   have h1 : cntL (ws.take k) ≤ cntL (c.fields.map Prod.fst) := cntL_le (by simp; omega) fun j x y hx hy => by
    rw [List.getElem?_take] at hx
    split at hx
    ·obtain ⟨f, hf, hfv⟩ := hfj hx
     rw [List.getElem?_map, hf] at hy
     cases hy
     exact fieldVar_cnt hfv
    ·cases hx
   have h2 : cntL [vNum 5 c.code] = 1 := by rw [cntL_cons, cntL_nil, vNum, cnt_mk, cntL_nil]
   rw [cnt_mk, h2]
   omega
  have hvar : ∀ k, k ≤ c.fields.length → (∀ (j : Nat) (y : V), k ≤ j → ws[j]? = some y → y.kind = 0) → Variant c (ws.take k) := fun k hk hnull => by
   refine ⟨by simp; omega, fun j f y hf hy => ?_, fun j f hj hf => ?_⟩
   ·rw [List.getElem?_take] at hy
    split at hy
    ·exact hdone' j f y hf hy
    ·cases hy
   ·have hjl : j < ws.length := by rw [hwl]; exact (List.getElem?_eq_some_iff.1 hf).1
    have hkl : (ws.take k).length = k := by simp; omega
    exact ⟨ws[j], hdone' j f _ hf (by simp [hjl]), hnull j _ (by omega) (by simp [hjl])⟩
  refine G ?_
  refine ⟨⟨[], [5, 1000], [], fun m vs cs R I' => ∃ (k : Nat) (s' : Int), vs = [] ∧ cs = [[.int .i64 21, .int .u64 (0 : Nat), strV [], .slice kb k kc, .int .i64 0, .slice (some ⟨bd, 0, none⟩) 1 1], formC s' sh] ∧ Rng s' ∧ k ≤ c.fields.length ∧ k = m ∧
    R = [(9, .vec (.slice kb c.fields.length kc) 6 cells.flatten)] ∧ I' = I2 ∧ ∀ (j : Nat) (y : V), k ≤ j → ws[j]? = some y → y.kind = 0,
   c.fields.length, _, _, rfl, rfl, ⟨c.fields.length, s1, rfl, rfl, hs1, Nat.le_refl _, rfl, rfl, rfl, fun j y hj hy => ?_⟩, ?_⟩⟩
  ·have := (List.getElem?_eq_some_iff.1 hy).1
   omega
  rintro m vs cs R I2' hI' _ _ ⟨k, s2, rfl, rfl, hs2, hk, rfl, rfl, rfl, hnull⟩
  refine G ?_
  split
  ·rename_i hkpos _
   obtain ⟨kbb, rfl⟩ : ∃ bb, kb = some ⟨bb, 0, none⟩ := by
    cases kb with
    | none => obtain ⟨e, _⟩ := hok; omega
    | some a => obtain ⟨bb, o, sp⟩ := a; obtain ⟨rfl, rfl, _⟩ := hok; exact ⟨bb, rfl⟩
   have hk1 : k - 1 < ws.length := by omega
   have hk2 : k - 1 < cells.length := by omega
   have hrepk := hrep (k - 1) ws[k - 1] cells[k - 1] (by simp [hk1]) (by simp [hk2])
   refine G ?_
   refine ⟨_, _, _, _, k - 1, rfl, by omega, by omega, ?_⟩
   refine G ?_
   refine ⟨.int .i64 ws[k - 1].kind, .vec 9 _ _ 6 _ rfl (fun j x e => ?_), ?_⟩
   ·have hck : cells[k - 1][0]? = some (.int .i64 ws[k - 1].kind) := by
     obtain ⟨_, _, _, _, e, _⟩ := hrepk.inv2
     rw [e]; rfl
    match j, e with
    | 0, e => cases e; exact cells_get hc6 (show cells[k - 1]? = some cells[k - 1] by simp [hk2]) 0 _ hck
    | j + 1, e => simp at e
   refine G ?_
   split
   ·rename_i hk0 _
    refine G ?_
    refine Cx [1000] ?_
    refine pick_law (n := 4) (by omega) hs2 fun s3 v hv hs3 => ?_
    refine G ?_
    split
    ·refine G ?_
     refine ⟨0, k - 1, rfl, (show ((k : Int) - 1) = ((k - 1 : Nat) : Int) by omega), by omega, Nat.le_trans (by omega) hok.2.2.2, ?_⟩
     intro sv hsv
     have hsv' : sv = .slice (some ⟨kbb, 0, none⟩) (k - 1) kc := by
      rw [hsv]; unfold sliceV
      simp only [Nat.sub_zero, Nat.zero_mul]
      split <;> rfl
     subst hsv'
     refine G ?_
     refine ⟨k - 1, _, _, by omega, rfl, rfl, rfl, rfl, .inl ⟨k - 1, s3, rfl, rfl, hs3, by omega, rfl, rfl, rfl, fun j y hj hy => ?_⟩⟩
     by_cases hjk : k ≤ j
     ·exact hnull j y hjk hy
     ·obtain rfl : j = k - 1 := by omega
      simp [hk1] at hy
      subst hy
      exact hk0
    ·rename_i hv0 _
     refine G ?_
     refine Cx [1000] ?_ [] [9]
     intro I3 hi3 hf3
     conv => whnf
     have hvs := vs_prefix (k := k) hf3 hi3 hwl hcl hlen hrep hk
     have hx3 : VRep I3 (.mk 21 0 [] (ws.take k) 0 [vNum 5 c.code]) [.int .i64 21, .int .u64 (0 : Nat), strV [], .slice (some ⟨kbb, 0, none⟩) k kc, .int .i64 0, .slice (some ⟨bd, 0, none⟩) 1 1] :=
      .intro (by omega) (by omega) (by omega) (by simp) hvs (Row.vs (row_lit (l := [vNum 5 c.code]) (css := [numC 5 c.code]) (fun j x e => (hI.trans hi3).c (hcd j x e)) rfl (by simp) rfl (rowsC ⟨vNum_rep (by omega) hcode, rfl⟩ rows0)))
     refine PutValue_law (hPv k) (hcnt k) _ _ _ _ _ _ hx3 hs3 fun s4 I4 eb ec e hs4 hi4 henc hel => ?_
     refine G ?_
     refine ⟨⟨[], [88], [], [], ?_⟩⟩
     conv => whnf
     exact h s4 I4 eb ec e (ws.take k) hs4 (((hi1.trans hI).trans hi3).trans hi4) henc (hvar k hk hnull) (Nat.le_trans hel (by have := hcnt k; omega))
   ·rename_i hk0 _
    refine G ?_
    refine Cx [1000] ?_ [] [9]
    intro I3 hi3 hf3
    conv => whnf
    have hvs := vs_prefix (k := k) hf3 hi3 hwl hcl hlen hrep hk
    have hx3 : VRep I3 (.mk 21 0 [] (ws.take k) 0 [vNum 5 c.code]) [.int .i64 21, .int .u64 (0 : Nat), strV [], .slice (some ⟨kbb, 0, none⟩) k kc, .int .i64 0, .slice (some ⟨bd, 0, none⟩) 1 1] :=
     .intro (by omega) (by omega) (by omega) (by simp) hvs (Row.vs (row_lit (l := [vNum 5 c.code]) (css := [numC 5 c.code]) (fun j x e => (hI.trans hi3).c (hcd j x e)) rfl (by simp) rfl (rowsC ⟨vNum_rep (by omega) hcode, rfl⟩ rows0)))
    refine PutValue_law (hPv k) (hcnt k) _ _ _ _ _ _ hx3 hs2 fun s4 I4 eb ec e hs4 hi4 henc hel => ?_
    refine G ?_
    refine ⟨⟨[], [88], [], [], ?_⟩⟩
    conv => whnf
    exact h s4 I4 eb ec e (ws.take k) hs4 (((hi1.trans hI).trans hi3).trans hi4) henc (hvar k hk hnull) (Nat.le_trans hel (by have := hcnt k; omega))
  ·rename_i hk0 _
   refine G ?_
   refine Cx [1000] ?_ [] [9]
   intro I3 hi3 hf3
   conv => whnf
   have hvs := vs_prefix (k := k) hf3 hi3 hwl hcl hlen hrep hk
   have hx3 : VRep I3 (.mk 21 0 [] (ws.take k) 0 [vNum 5 c.code]) [.int .i64 21, .int .u64 (0 : Nat), strV [], .slice (kb) k kc, .int .i64 0, .slice (some ⟨bd, 0, none⟩) 1 1] :=
    .intro (by omega) (by omega) (by omega) (by simp) hvs (Row.vs (row_lit (l := [vNum 5 c.code]) (css := [numC 5 c.code]) (fun j x e => (hI.trans hi3).c (hcd j x e)) rfl (by simp) rfl (rowsC ⟨vNum_rep (by omega) hcode, rfl⟩ rows0)))
   refine PutValue_law (hPv k) (hcnt k) _ _ _ _ _ _ hx3 hs2 fun s4 I4 eb ec e hs4 hi4 henc hel => ?_
   refine G ?_
   refine ⟨⟨[], [88], [], [], ?_⟩⟩
   conv => whnf
   exact h s4 I4 eb ec e (ws.take k) hs4 (((hi1.trans hI).trans hi3).trans hi4) henc (hvar k hk hnull) (Nat.le_trans hel (by have := hcnt k; omega))
end laws
structure AR (sz : Nat) (P : V → List Value → Prop) (ks : List V) (i : Nat) (cs : List (List Value)) : Prop where
 len : cs.length = ks.length
 wid : ∀ c ∈ cs, c.length = sz
 got : ∀ (j : Nat) (x : V) (c : List Value), j < i → ks[j]? = some x → cs[j]? = some c → P x c
theorem AR.init {sz : Nat} {P : V → List Value → Prop} {ks : List V} {z : List Value} (hz : z.length = sz) : AR sz P ks 0 (List.replicate ks.length z) :=
 ⟨by simp, fun c h => by rw [(List.mem_replicate.1 h).2]; exact hz, fun j x c h => by omega⟩
theorem AR.step {sz i : Nat} {P : V → List Value → Prop} {ks : List V} {cs : List (List Value)} {c : List Value} (h : AR sz P ks i cs) (hi : i < ks.length) (hc : c.length = sz) (hp : P ks[i] c) : AR sz P ks (i + 1) (cs.set i c) := by
 refine ⟨by simp [h.len], fun d hd => ?_, fun j x d hj hx hd => ?_⟩
 ·rcases List.mem_or_eq_of_mem_set hd with h1 | rfl
  ·exact h.wid d h1
  ·exact hc
 ·by_cases hji : j = i
  ·subst hji
   rw [List.getElem?_set_self (by rw [h.len]; omega)] at hd
   simp [hi] at hx
   cases hd
   subst hx
   exact hp
  ·rw [List.getElem?_set_ne (Ne.symm hji)] at hd
   exact h.got j x d (by omega) hx hd
theorem AR.splice {sz i : Nat} {P : V → List Value → Prop} {ks : List V} {cs : List (List Value)} {c : List Value} (h : AR sz P ks i cs) (hi : i < ks.length) (hc : c.length = sz) : splice cs.flatten (i * sz) c = (cs.set i c).flatten :=
 flatten_set h.wid hc (by rw [h.len]; exact hi)
theorem AR.flen {sz i : Nat} {P : V → List Value → Prop} {ks : List V} {cs : List (List Value)} (h : AR sz P ks i cs) : cs.flatten.length = ks.length * sz := by
 rw [List.length_flatten, ← h.len]
 have : ∀ {l : List (List Value)}, (∀ c ∈ l, c.length = sz) → (l.map List.length).sum = l.length * sz := by
  intro l hl
  induction l with
  | nil => simp
  | cons a l ih => rw [List.map_cons, List.sum_cons, ih fun c hc => hl c (by simp [hc]), hl a (by simp), List.length_cons, Nat.succ_mul, Nat.add_comm]
 exact this h.wid
theorem AR.row {sz : Nat} {P P' : V → List Value → Prop} {ks : List V} {cs : List (List Value)} {I : Imm} {v : Value} (h : AR sz P ks ks.length cs) (hn : ks.length < 1099511627776) (hs : SlAt I sz ks.length cs.flatten v) (hp : ∀ x c, P x c → P' x c) : Row sz P' I ks v :=
 ⟨hn, cs, hs, h.len, fun i x c hx hc => ⟨hp _ _ (h.got i x c (List.getElem?_eq_some_iff.1 hx).1 hx hc), h.wid c (List.mem_of_getElem? hc)⟩⟩
structure FixE (w : Nat) (k : Int) (ks : List V) (c : UInt8) (data : List UInt8) (ds : List (List UInt8)) : Prop where
 len : ds.length = ks.length
 flat : data = ds.flatten
 wid : ∀ d ∈ ds, d.length = w
 enc : ∀ (i : Nat) (hi : i < ks.length) (hj : i < ds.length), EncS k ks[i].num ks[i].text (c :: ds[i])
theorem FixE.dlen {w : Nat} {k : Int} {ks : List V} {c : UInt8} {data : List UInt8} {ds : List (List UInt8)} (h : FixE w k ks c data ds) : data.length = ks.length * w := by
 rw [h.flat, List.length_flatten, ← h.len]
 have : ∀ {l : List (List UInt8)}, (∀ c ∈ l, c.length = w) → (l.map List.length).sum = l.length * w := by
  intro l hl
  induction l with
  | nil => simp
  | cons a l ih => rw [List.map_cons, List.sum_cons, ih fun c hc => hl c (by simp [hc]), hl a (by simp), List.length_cons, Nat.succ_mul, Nat.add_comm]
 exact this h.wid
theorem flatten_getG {α : Type} {cs : List (List α)} {n : Nat} (hl : ∀ c ∈ cs, c.length = n) : ∀ {i : Nat} {c : List α}, cs[i]? = some c → ∀ j x, c[j]? = some x → cs.flatten[i * n + j]? = some x := by
 induction cs with
 | nil => intro i c h; simp at h
 | cons d cs ih =>
  intro i c h j x hx
  have hd := hl d (by simp)
  cases i with
  | zero =>
   simp at h
   subst h
   rw [Nat.zero_mul, Nat.zero_add, List.flatten_cons, List.getElem?_append_left (List.getElem?_eq_some_iff.1 hx).1]
   exact hx
  | succ i =>
   rw [List.flatten_cons, List.getElem?_append_right (by rw [hd, Nat.succ_mul]; omega), hd]
   have := ih (fun c hc => hl c (by simp [hc])) (i := i) (c := c) (by simpa using h) j x hx
   rw [show (i + 1) * n + j - n = i * n + j by rw [Nat.succ_mul]; omega]
   exact this
theorem FixE.get {w : Nat} {k : Int} {ks : List V} {c : UInt8} {data : List UInt8} {ds : List (List UInt8)} (h : FixE w k ks c data ds) {i j : Nat} {x : UInt8} (hi : i < ds.length) (hx : ds[i][j]? = some x) : data[i * w + j]? = some x := by
 rw [h.flat]
 exact flatten_getG h.wid (c := ds[i]) (by simp [hi]) j x hx
theorem arr_nonempty {ks : List V} {k : Int} {c : UInt8} {data : List UInt8} {w : Nat} (h : ArrE k ks c data) (hw : ∀ n t d, EncS k n t (c :: d) → d.length = w) : ∃ ds, FixE w k ks c data ds := by
 obtain ⟨ds, h1, h2, h3⟩ := h
 refine ⟨ds, h1, h2, fun d hd => ?_, fun i hi hj => h3 i ks[i] ds[i] (by simp [hi]) (by simp [hj])⟩
 obtain ⟨i, hi⟩ := List.mem_iff_getElem?.1 hd
 have hil : i < ks.length := by rw [← h1]; exact (List.getElem?_eq_some_iff.1 hi).1
 exact hw _ _ d (h3 i ks[i] d (by simp [hil]) hi)
theorem cons_eq {α : Type} {y z : α} {l m : List α} (h : y :: l = z :: m) : l = m := by cases h; rfl
theorem rep_flat (n : Nat) (z : Value) : (List.replicate n [z]).flatten = List.replicate n z := by
 induction n with
 | zero => rfl
 | succ n ih => rw [List.replicate_succ, List.replicate_succ, List.flatten_cons, ih]; rfl
theorem elemC_of {I : Imm} {k : Int} {n : Nat} {t : List UInt8} {c : List Value} (h1 : k = 1 → c = [.bool (n == 1)]) (h2 : k = 2 → c = [.int .u8 (n : Nat)]) (h3 : k = 3 → c = [.int .u16 (n : Nat)]) (h4 : k = 4 → c = [.int .u32 (n : Nat)]) (h5 : k = 5 → c = [.int .u64 (n : Nat)])
  (h6 : k = 6 → c = [.int .i8 (sg n)]) (h7 : k = 7 → c = [.int .i16 (sg n)]) (h8 : k = 8 → c = [.int .i32 (sg n)]) (h9 : k = 9 → c = [.int .i64 (sg n)]) (h10 : k = 10 → c = [.float .f32 n]) (h11 : k = 11 → c = [.float .f64 n])
  (h12 : k = 16 → c = timeC (sg n)) (h13 : k = 17 → c = t.map byteV) (h14 : k = 18 → ∃ sv, c = [sv] ∧ BytesAt I t sv) (h15 : k = 19 ∨ k = 20 → c = [strV t]) : elemC I k n t c := ⟨h1, h2, h3, h4, h5, h6, h7, h8, h9, h10, h11, h12, h13, h14, h15⟩
theorem head_pos {c8 c32 : UInt8} {n : Nat} {hd body : List UInt8} (h : HeadE c8 c32 n hd body) : n ≤ body.length ∧ n ≤ 65536 := by
 cases h with
 | s y z body h1 h2 => exact ⟨h2, by have := z.toNat_lt; omega⟩
 | l y0 y1 y2 y3 z0 z1 z2 z3 body n h1 h2 h3 h4 => exact ⟨h3, h4⟩
def Utf (I : Imm) : Prop := ∀ (J : Imm), I.le J → ∀ (t : List UInt8) (Q : Qt), t.length < 1099511627776 → Q (.bool (Lib.validD t)) [] [] J → WP Tryz.prog 180 #[strV t] [] [] J Q
theorem Utf.mono {I J : Imm} (h : Utf I) (hi : I.le J) : Utf J := fun K hk => h K (hi.trans hk)
section laws
variable {I : Imm} {Q : Qt}
theorem cell_of {I : Imm} {b o : Nat} {c : List Value} (h : CellsAt I b o c) (j : Nat) {x : Value} (hx : c[j]? = some x) : CellsAt I b (o + j) [x] := fun k y e => by
 match k, e with
 | 0, e => cases e; exact h j x hx
 | k + 1, e => simp at e
theorem asciiOnly_law {t : List UInt8} (ht : t.length < 1099511627776) (h : ∀ r : Bool, (r = true → ∀ b ∈ t, b.toNat < 128) → Q (.bool r) [] [] I) : WP Tryz.prog 181 #[strV t] [] [] I Q := by
 refine lw K181 [] _ Tryz.func181 ?_
 refine G ?_
 refine ⟨⟨[3], [], [], fun m vs cs R I' => ∃ i : Nat, vs = [.int .i64 (i : Nat)] ∧ cs = [] ∧ R = [] ∧ I' = I ∧ i ≤ t.length ∧ m = t.length - i ∧ (∀ (j : Nat) (b : UInt8), j < i → t[j]? = some b → b.toNat < 128), t.length, _, _, rfl, rfl, ⟨0, rfl, rfl, rfl, rfl, by omega, rfl, fun j b hj => by omega⟩, ?_⟩⟩
 rintro m vs cs R I' hI _ _ ⟨i, rfl, rfl, rfl, rfl, hi, rfl, hd⟩
 have hsz : ByteArray.size ⟨t.toArray⟩ = t.length := rfl
 refine G ?_
 split
 ·rename_i hlt _
  have hi' : i < t.length := by omega
  refine G ?_
  refine ⟨i, t[i], rfl, by simp [hi'], ?_⟩
  refine G ?_
  split
  ·refine G ?_
   refine L0 ?_
   exact h false (by simp)
  ·rename_i hb _
   refine G ?_
   refine ⟨t.length - (i + 1), _, _, by omega, rfl, rfl, rfl, rfl, .inl ⟨i + 1, rfl, rfl, rfl, rfl, hi', rfl, fun j b hj hbj => ?_⟩⟩
   by_cases hji : j < i
   ·exact hd j b hji hbj
   ·obtain rfl : j = i := by omega
    simp [hi'] at hbj
    subst hbj
    omega
 ·rename_i hge _
  refine G ?_
  refine L0 ?_
  refine h true fun _ b hb => ?_
  obtain ⟨j, hj⟩ := List.mem_iff_getElem?.1 hb
  exact hd j b (by have := (List.getElem?_eq_some_iff.1 hj).1; omega) hj
theorem arrayFits_law {x : V} {cs : List Value} (hr : VRep I x cs) (h : ∀ r : Bool, (r = true → ∀ (j : Nat) (y z : V), x.kids[0]? = some z → x.kids[j]? = some y → y.kind = z.kind ∧ y.desc.length = z.desc.length) → Q (.bool r) [] [] I) : WP Tryz.prog 182 #[.agg cs.toArray] [] [] I Q := by
 have hr' := hr
 obtain ⟨kb, kc, db, dc, rfl, hvk, hvd, hkr, _, hor, _⟩ := hr.inv2
 have hkl := hvk.1
 have bad : Q (.bool false) [] [] I := h false (by simp)
 refine lw K182 [] [.agg #[.int .i64 x.kind, .int .u64 (x.num : Nat), strV x.text, .slice kb x.kids.length kc, .int .i64 x.of, .slice db x.desc.length dc]] Tryz.func182 ?_
 refine G ?_
 intro b1
 refine G ?_
 split
 ·rename_i hz _
  have h0 : ∀ r, Q (.bool r) [] [] I := fun r => h r fun _ j y z hz' => by
   have := (List.getElem?_eq_some_iff.1 hz').1
   omega
  refine G ?_
  split
  ·refine G ?_
   split
   ·refine G ?_
    refine L0 ?_
    exact h0 _
   ·refine G ?_
    refine L0 ?_
    exact h0 _
  ·refine G ?_
   refine L0 ?_
   exact h0 _
 ·rename_i hz _
  have hpos : 0 < x.kids.length := by omega
  obtain ⟨vb, vo, rfl, _⟩ := hvk.some hpos
  obtain ⟨c0, hc0, hcc0⟩ := hvk.get (i := 0) (x := x.kids[0]) (by simp [hpos])
  obtain ⟨ab, ac, ad, ae, rfl, hak, had, _⟩ := hc0.inv2
  refine G ?_
  refine ⟨⟨[20], [], [], fun m vs cs R I' => ∃ i : Nat, vs = [.int .i64 (i : Nat)] ∧ cs = [] ∧ R = [] ∧ I' = I ∧ i ≤ x.kids.length ∧ m = x.kids.length - i ∧
    (∀ (j : Nat) (y : V), j < i → x.kids[j]? = some y → y.kind = x.kids[0].kind ∧ y.desc.length = x.kids[0].desc.length), x.kids.length, _, _, rfl, rfl, ⟨0, rfl, rfl, rfl, rfl, by omega, rfl, fun j y hj => by omega⟩, ?_⟩⟩
  rintro m vs cs R I' hI _ _ ⟨i, rfl, rfl, rfl, rfl, hi, rfl, hd⟩
  refine G ?_
  split
  ·rename_i hlt _
   have hi' : i < x.kids.length := by omega
   obtain ⟨cx, hcx, hcc⟩ := hvk.get (i := i) (x := x.kids[i]) (by simp [hi'])
   have hcx' := hcx
   obtain ⟨yb, yc, yd, ye, rfl, hyk, hyd, _⟩ := hcx.inv2
   have hydl := hyd.1
   have hadl := had.1
   refine G ?_
   refine ⟨_, _, _, _, i, rfl, rfl, hi', ?_⟩
   refine G ?_
   refine ⟨_, .imm hcc, rfl, ?_⟩
   refine G ?_
   intro b4
   refine G ?_
   refine ⟨[0,1,2,3,4,5,6,7,8,9,10,11,12,13,14,15,16,17,18,19,20,21,22,23,24,25,26,27,28,29,30,31,32,33,34,35,36,37,38,39,40], [], [], [], by kernel_rfl, ?_⟩
   refine G ?_
   refine ⟨_, _, _, _, 0, rfl, rfl, hpos, ?_⟩
   refine G ?_
   refine ⟨.int .i64 x.kids[0].kind, cell_of hcc0 0 rfl, ?_⟩
   refine G ?_
   split
   ·rename_i hkk _
    refine G ?_
    refine ⟨_, _, _, _, 0, rfl, rfl, hpos, ?_⟩
    refine G ?_
    refine plus0_mk ?_
    refine G ?_
    refine ⟨.slice ad x.kids[0].desc.length ae, cell_of hcc0 5 rfl, ?_⟩
    refine G ?_
    split
    ·rename_i hdd _
     have hdl : x.kids[i].desc.length = x.kids[0].desc.length := by omega
     have next : ∀ (j : Nat) (y : V), j < i + 1 → x.kids[j]? = some y → y.kind = x.kids[0].kind ∧ y.desc.length = x.kids[0].desc.length := fun j y hj hy => by
      by_cases hji : j < i
      ·exact hd j y hji hy
      ·obtain rfl : j = i := by omega
       simp [hi'] at hy
       subst hy
       exact ⟨hkk, hdl⟩
     refine G ?_
     split
     ·rename_i h1 _
      obtain ⟨pb, po, rfl, _⟩ := hyd.some (by omega)
      obtain ⟨qb, qo, rfl, _⟩ := had.some (by omega)
      obtain ⟨c1, hc1, hcc1⟩ := hyd.get (i := 0) (x := x.kids[i].desc[0]) (by simp)
      obtain ⟨c2, hc2, hcc2⟩ := had.get (i := 0) (x := x.kids[0].desc[0]) (by simp)
      refine G ?_
      refine ⟨_, _, _, _, 0, rfl, rfl, by omega, ?_⟩
      refine G ?_
      refine ⟨c1, hcc1, hc1.len, ?_⟩
      refine G ?_
      refine ⟨_, _, _, _, 0, rfl, rfl, hpos, ?_⟩
      refine G ?_
      refine plus0_mk ?_
      refine G ?_
      refine ⟨.slice (some ⟨qb, qo, none⟩) x.kids[0].desc.length ae, cell_of hcc0 5 rfl, ?_⟩
      refine G ?_
      refine ⟨_, _, _, _, 0, rfl, rfl, by omega, ?_⟩
      refine G ?_
      refine ⟨c2, hcc2, hc2.len, ?_⟩
      refine G ?_
      refine .inr ?_
      refine G ?_
      refine SameValue_law _ _ _ (Nat.le_refl _) hc1 hc2 fun r _ => ?_
      cases r with
      | false =>
       refine G ?_
       refine L0 ?_
       exact bad
      | true =>
       refine G ?_
       exact ⟨x.kids.length - (i + 1), _, _, by omega, rfl, rfl, rfl, rfl, .inl ⟨i + 1, rfl, rfl, rfl, rfl, hi', rfl, next⟩⟩
     ·refine G ?_
      exact ⟨x.kids.length - (i + 1), _, _, by omega, rfl, rfl, rfl, rfl, .inl ⟨i + 1, rfl, rfl, rfl, rfl, hi', rfl, next⟩⟩
    ·refine G ?_
     refine L0 ?_
     exact bad
   ·refine G ?_
    refine L0 ?_
    exact bad
  ·rename_i hge _
   refine G ?_
   split
   all_goals
   refine G ?_
   refine L0 ?_
   refine h _ fun _ j y z hz' hy => ?_
   have := hd j y (by have := (List.getElem?_eq_some_iff.1 hy).1; omega) hy
   simp [hpos] at hz'
   subst hz'
   exact this
end laws
structure Cont (x : V) : Prop where
 bool : x.kind = 1 → x.num ≤ 1
 n1 : x.kind = 2 → x.num < 256
 n2 : x.kind = 3 → x.num < 65536
 n4 : x.kind = 4 ∨ x.kind = 10 → x.num < 4294967296
 s1 : x.kind = 6 → x.num < 128 ∨ 18446744073709551488 ≤ x.num
 s2 : x.kind = 7 → x.num < 32768 ∨ 18446744073709518848 ≤ x.num
 s4 : x.kind = 8 → x.num < 2147483648 ∨ 18446744071562067968 ≤ x.num
 uuid : x.kind = 17 → x.text.length = 16
 str : x.kind = 19 → Lib.validD x.text = true
 sym : x.kind = 20 → ∀ b ∈ x.text, b.toNat < 128
 map : x.kind = 22 → x.kids.length % 2 = 0
 arr : x.kind = 23 → ∀ (j : Nat) (y z : V), x.kids[0]? = some z → x.kids[j]? = some y → y.kind = z.kind ∧ y.desc.length = z.desc.length
theorem cont_other {x : V} (h : x.kind = 0 ∨ x.kind = 5 ∨ x.kind = 9 ∨ 11 ≤ x.kind ∧ x.kind ≤ 16 ∨ x.kind = 18 ∨ x.kind = 21) : Cont x := by
 constructor <;> intro <;> omega
theorem wrap_u64 (n : Nat) : IntKind.u64.wrap (n : Int) = ((n % 18446744073709551616 : Nat) : Int) := by
 have hm : (n : Int) % 2 ^ IntKind.u64.bits = ((n % 18446744073709551616 : Nat) : Int) := by rw [show (2 : Int) ^ IntKind.u64.bits = 18446744073709551616 from rfl]; omega
 simp only [IntKind.wrap, hm, IntKind.signed, Bool.false_and, Bool.false_eq_true, if_false]
theorem wrap_u64i (x : Int) : IntKind.u64.wrap x = x % 18446744073709551616 := by
 simp only [IntKind.wrap, IntKind.signed, Bool.false_and, Bool.false_eq_true, if_false]; rfl
theorem exO {α : Type} {e : α} {p : α → Prop} (h : ∀ X, e = X → p X) : ∃ m, e = m ∧ p m := ⟨e, rfl, h e rfl⟩
theorem shl_u (n : Nat) {b : Int} (s p : Nat) (hb : b.toNat = s) (hs : s ≤ 64) (hp : 2 ^ s = p) : IntKind.u64.wrap ((n : Int) * 2 ^ (min b.toNat IntKind.u64.bits)) = ((n * p % 18446744073709551616 : Nat) : Int) := by
 have : min b.toNat IntKind.u64.bits = s := by simp only [IntKind.bits]; omega
 rw [this, show ((n : Int) * 2 ^ s) = ((n * p : Nat) : Int) by rw [← hp]; push_cast; rfl, wrap_u64]
theorem shr_i (m : Int) {b : Int} (s p : Nat) (k : IntKind) (hb : b.toNat = s) (hk : k.bits = 64) (hs : s ≤ 64) (hp : 2 ^ s = p) : m.fdiv (2 ^ (min b.toNat k.bits)) = m / (p : Int) := by
 have : min b.toNat k.bits = s := by rw [hk]; omega
 rw [this, show (2 : Int) ^ s = (p : Int) by rw [← hp]; push_cast; rfl, Int.fdiv_eq_ediv_of_nonneg _ (by omega)]
theorem u_back {n p r : Nat} {X Y : Int} (hp : 0 < p) (hpr : r * p = 18446744073709551616) (hX : ((n * p % 18446744073709551616 : Nat) : Int) = X) (hY : X / (p : Int) = Y) : Y = ((n % r : Nat) : Int) := by
 subst hX hY
 rw [← hpr, Nat.mul_mod_mul_right]
 rw [← Int.natCast_ediv, Nat.mul_div_cancel _ hp]
theorem s_back {n p r h : Nat} {X Y Z W : Int} (hp : 0 < p) (hr : r = 2 * h) (hpr : r * p = 18446744073709551616) (hX : ((n * p % 18446744073709551616 : Nat) : Int) = X) (hZ : IntKind.i64.wrap X = Z) (hY : Z / (p : Int) = Y) (hW : IntKind.u64.wrap Y = W) (h0 : 0 < r) :
  (n % r < h → W = ((n % r : Nat) : Int)) ∧ (h ≤ n % r → W = ((n % r : Nat) : Int) - (r : Int) + 18446744073709551616) := by
 have hm : n % r < r := Nat.mod_lt _ h0
 have hX' : X = ((n % r * p : Nat) : Int) := by rw [← hX, ← hpr, Nat.mul_mod_mul_right]
 have hlt : n % r * p < 18446744073709551616 := by rw [← hpr]; exact Nat.mul_lt_mul_of_pos_right hm hp
 have hr64 : r ≤ 18446744073709551616 := by rw [← hpr]; exact Nat.le_mul_of_pos_right _ hp
 have hh : h * p = 9223372036854775808 := by
  have : 2 * (h * p) = 18446744073709551616 := by rw [← hpr, hr, Nat.mul_assoc]
  omega
 rw [hX', wrap_i64, Nat.mod_eq_of_lt hlt] at hZ
 constructor
 ·intro hs
  have h1 : n % r * p < 9223372036854775808 := by rw [← hh]; exact Nat.mul_lt_mul_of_pos_right hs hp
  rw [if_pos h1] at hZ
  rw [← hZ, ← Int.natCast_ediv, Nat.mul_div_cancel _ hp] at hY
  rw [← hY, wrap_u64, Nat.mod_eq_of_lt (by omega)] at hW
  exact hW.symm
 ·intro hs
  have h1 : ¬ n % r * p < 9223372036854775808 := by
   have := Nat.mul_le_mul_right p hs
   rw [hh] at this
   omega
  rw [if_neg h1] at hZ
  have e1 : ((n % r * p : Nat) : Int) - 18446744073709551616 = (((n % r : Nat) : Int) - (r : Int)) * (p : Int) := by
   rw [Int.sub_mul, ← Int.natCast_mul, ← Int.natCast_mul, hpr]; rfl
  rw [← hZ, e1, Int.mul_ediv_cancel _ (by omega)] at hY
  rw [← hY, wrap_u64i] at hW
  rw [← hW]
  omega
section laws
variable {I : Imm} {Q : Qt}
theorem content_2 {n : Nat} {t : List UInt8} {kv dv : Value} {o : Int} (hn : n < 18446744073709551616) (h : ∀ I' (r : Bool), I.le I' → (r = true → n < 256) → Q (.bool r) [] [] I') : WP Tryz.prog 92 #[.agg #[.int .i64 2, .int .u64 (n : Nat), strV t, kv, .int .i64 o, dv]] [] [] I Q := by
 refine lw K92 [] _ Tryz.func92 ?_
 refine G ?_
 intro b1
 refine G ?_
 refine Cx [] ?_
 refine fixedSize_law fun I' hi => ?_
 rw [show (lookN fixedT 2 - if (2 : Int) = 0 ∨ (2 : Int) = 1 ∨ 18 ≤ (2 : Int) then 1 else 0) = 1 by decide]
 refine G ?_
 refine ⟨[0,1,2,3,4,5,6,7,8,9,10,11,12,13,14,15,16,17,18,19,20,21,22,23,24,25,26,27,28], [], [], [], by kernel_rfl, ?_⟩
 refine G ?_
 refine ⟨by decide, exO fun X hX => ?_⟩
 rw [shl_u n 56 72057594037927936 (by decide) (by decide) (by decide)] at hX
 conv => whnf
 refine ⟨by decide, exO fun Y hY => ?_⟩
 rw [shr_i _ 56 72057594037927936 .u64 (by decide) rfl (by decide) (by decide)] at hY
 have hb := u_back (p := 72057594037927936) (r := 256) (by decide) (by omega) hX hY
 clear hX hY
 conv => whnf
 split
 ·rename_i he _
  have hfact : n < 256 := by omega
  clear hb
  refine G ?_
  split
  ·refine G ?_
   refine L0 ?_
   exact h I' _ hi fun _ => hfact
  ·refine G ?_
   refine L0 ?_
   exact h I' _ hi fun _ => hfact
 ·clear hb
  refine G ?_
  refine L0 ?_
  exact h I' false hi (by simp)
theorem content_3 {n : Nat} {t : List UInt8} {kv dv : Value} {o : Int} (hn : n < 18446744073709551616) (h : ∀ I' (r : Bool), I.le I' → (r = true → n < 65536) → Q (.bool r) [] [] I') : WP Tryz.prog 92 #[.agg #[.int .i64 3, .int .u64 (n : Nat), strV t, kv, .int .i64 o, dv]] [] [] I Q := by
 refine lw K92 [] _ Tryz.func92 ?_
 refine G ?_
 intro b1
 refine G ?_
 refine Cx [] ?_
 refine fixedSize_law fun I' hi => ?_
 rw [show (lookN fixedT 3 - if (3 : Int) = 0 ∨ (3 : Int) = 1 ∨ 18 ≤ (3 : Int) then 1 else 0) = 2 by decide]
 refine G ?_
 refine ⟨[0,1,2,3,4,5,6,7,8,9,10,11,12,13,14,15,16,17,18,19,20,21,22,23,24,25,26,27,28], [], [], [], by kernel_rfl, ?_⟩
 refine G ?_
 refine ⟨by decide, exO fun X hX => ?_⟩
 rw [shl_u n 48 281474976710656 (by decide) (by decide) (by decide)] at hX
 conv => whnf
 refine ⟨by decide, exO fun Y hY => ?_⟩
 rw [shr_i _ 48 281474976710656 .u64 (by decide) rfl (by decide) (by decide)] at hY
 have hb := u_back (p := 281474976710656) (r := 65536) (by decide) (by omega) hX hY
 clear hX hY
 conv => whnf
 split
 ·rename_i he _
  have hfact : n < 65536 := by omega
  clear hb
  refine G ?_
  split
  ·refine G ?_
   refine L0 ?_
   exact h I' _ hi fun _ => hfact
  ·refine G ?_
   refine L0 ?_
   exact h I' _ hi fun _ => hfact
 ·clear hb
  refine G ?_
  refine L0 ?_
  exact h I' false hi (by simp)
theorem content_4 {n : Nat} {t : List UInt8} {kv dv : Value} {o : Int} (hn : n < 18446744073709551616) (h : ∀ I' (r : Bool), I.le I' → (r = true → n < 4294967296) → Q (.bool r) [] [] I') : WP Tryz.prog 92 #[.agg #[.int .i64 4, .int .u64 (n : Nat), strV t, kv, .int .i64 o, dv]] [] [] I Q := by
 refine lw K92 [] _ Tryz.func92 ?_
 refine G ?_
 intro b1
 refine G ?_
 refine Cx [] ?_
 refine fixedSize_law fun I' hi => ?_
 rw [show (lookN fixedT 4 - if (4 : Int) = 0 ∨ (4 : Int) = 1 ∨ 18 ≤ (4 : Int) then 1 else 0) = 4 by decide]
 refine G ?_
 refine ⟨[0,1,2,3,4,5,6,7,8,9,10,11,12,13,14,15,16,17,18,19,20,21,22,23,24,25,26,27,28], [], [], [], by kernel_rfl, ?_⟩
 refine G ?_
 refine ⟨by decide, exO fun X hX => ?_⟩
 rw [shl_u n 32 4294967296 (by decide) (by decide) (by decide)] at hX
 conv => whnf
 refine ⟨by decide, exO fun Y hY => ?_⟩
 rw [shr_i _ 32 4294967296 .u64 (by decide) rfl (by decide) (by decide)] at hY
 have hb := u_back (p := 4294967296) (r := 4294967296) (by decide) (by omega) hX hY
 clear hX hY
 conv => whnf
 split
 ·rename_i he _
  have hfact : n < 4294967296 := by omega
  clear hb
  refine G ?_
  split
  ·refine G ?_
   refine L0 ?_
   exact h I' _ hi fun _ => hfact
  ·refine G ?_
   refine L0 ?_
   exact h I' _ hi fun _ => hfact
 ·clear hb
  refine G ?_
  refine L0 ?_
  exact h I' false hi (by simp)
theorem content_10 {n : Nat} {t : List UInt8} {kv dv : Value} {o : Int} (hn : n < 18446744073709551616) (h : ∀ I' (r : Bool), I.le I' → (r = true → n < 4294967296) → Q (.bool r) [] [] I') : WP Tryz.prog 92 #[.agg #[.int .i64 10, .int .u64 (n : Nat), strV t, kv, .int .i64 o, dv]] [] [] I Q := by
 refine lw K92 [] _ Tryz.func92 ?_
 refine G ?_
 intro b1
 refine G ?_
 refine Cx [] ?_
 refine fixedSize_law fun I' hi => ?_
 rw [show (lookN fixedT 10 - if (10 : Int) = 0 ∨ (10 : Int) = 1 ∨ 18 ≤ (10 : Int) then 1 else 0) = 4 by decide]
 refine G ?_
 refine ⟨[0,1,2,3,4,5,6,7,8,9,10,11,12,13,14,15,16,17,18,19,20,21,22,23,24,25,26,27,28], [], [], [], by kernel_rfl, ?_⟩
 refine G ?_
 refine ⟨by decide, exO fun X hX => ?_⟩
 rw [shl_u n 32 4294967296 (by decide) (by decide) (by decide)] at hX
 conv => whnf
 refine ⟨by decide, exO fun Y hY => ?_⟩
 rw [shr_i _ 32 4294967296 .u64 (by decide) rfl (by decide) (by decide)] at hY
 have hb := u_back (p := 4294967296) (r := 4294967296) (by decide) (by omega) hX hY
 clear hX hY
 conv => whnf
 split
 ·rename_i he _
  have hfact : n < 4294967296 := by omega
  clear hb
  refine G ?_
  split
  ·refine G ?_
   refine L0 ?_
   exact h I' _ hi fun _ => hfact
  ·refine G ?_
   refine L0 ?_
   exact h I' _ hi fun _ => hfact
 ·clear hb
  refine G ?_
  refine L0 ?_
  exact h I' false hi (by simp)
theorem content_12 {n : Nat} {t : List UInt8} {kv dv : Value} {o : Int} (hn : n < 18446744073709551616) (h : ∀ I' (r : Bool), I.le I' → (r = true → n < 4294967296) → Q (.bool r) [] [] I') : WP Tryz.prog 92 #[.agg #[.int .i64 12, .int .u64 (n : Nat), strV t, kv, .int .i64 o, dv]] [] [] I Q := by
 refine lw K92 [] _ Tryz.func92 ?_
 refine G ?_
 intro b1
 refine G ?_
 refine Cx [] ?_
 refine fixedSize_law fun I' hi => ?_
 rw [show (lookN fixedT 12 - if (12 : Int) = 0 ∨ (12 : Int) = 1 ∨ 18 ≤ (12 : Int) then 1 else 0) = 4 by decide]
 refine G ?_
 refine ⟨[0,1,2,3,4,5,6,7,8,9,10,11,12,13,14,15,16,17,18,19,20,21,22,23,24,25,26,27,28], [], [], [], by kernel_rfl, ?_⟩
 refine G ?_
 refine ⟨by decide, exO fun X hX => ?_⟩
 rw [shl_u n 32 4294967296 (by decide) (by decide) (by decide)] at hX
 conv => whnf
 refine ⟨by decide, exO fun Y hY => ?_⟩
 rw [shr_i _ 32 4294967296 .u64 (by decide) rfl (by decide) (by decide)] at hY
 have hb := u_back (p := 4294967296) (r := 4294967296) (by decide) (by omega) hX hY
 clear hX hY
 conv => whnf
 split
 ·rename_i he _
  have hfact : n < 4294967296 := by omega
  clear hb
  refine G ?_
  split
  ·refine G ?_
   refine L0 ?_
   exact h I' _ hi fun _ => hfact
  ·refine G ?_
   refine L0 ?_
   exact h I' _ hi fun _ => hfact
 ·clear hb
  refine G ?_
  refine L0 ?_
  exact h I' false hi (by simp)
theorem content_5 {n : Nat} {t : List UInt8} {kv dv : Value} {o : Int} (hn : n < 18446744073709551616) (h : ∀ I' (r : Bool), I.le I' → (r = true → True) → Q (.bool r) [] [] I') : WP Tryz.prog 92 #[.agg #[.int .i64 5, .int .u64 (n : Nat), strV t, kv, .int .i64 o, dv]] [] [] I Q := by
 refine lw K92 [] _ Tryz.func92 ?_
 refine G ?_
 intro b1
 refine G ?_
 refine Cx [] ?_
 refine fixedSize_law fun I' hi => ?_
 rw [show (lookN fixedT 5 - if (5 : Int) = 0 ∨ (5 : Int) = 1 ∨ 18 ≤ (5 : Int) then 1 else 0) = 8 by decide]
 refine G ?_
 refine ⟨[0,1,2,3,4,5,6,7,8,9,10,11,12,13,14,15,16,17,18,19,20,21,22,23,24,25,26,27,28], [], [], [], by kernel_rfl, ?_⟩
 refine G ?_
 refine ⟨by decide, exO fun X hX => ?_⟩
 rw [shl_u n 0 1 (by decide) (by decide) (by decide)] at hX
 conv => whnf
 refine ⟨by decide, exO fun Y hY => ?_⟩
 rw [shr_i _ 0 1 .u64 (by decide) rfl (by decide) (by decide)] at hY
 have hb := u_back (p := 1) (r := 18446744073709551616) (by decide) (by omega) hX hY
 clear hX hY
 conv => whnf
 split
 ·rename_i he _
  have hfact : True := trivial
  clear hb
  refine G ?_
  split
  ·refine G ?_
   refine L0 ?_
   exact h I' _ hi fun _ => hfact
  ·refine G ?_
   refine L0 ?_
   exact h I' _ hi fun _ => hfact
 ·clear hb
  refine G ?_
  refine L0 ?_
  exact h I' false hi (by simp)
theorem content_11 {n : Nat} {t : List UInt8} {kv dv : Value} {o : Int} (hn : n < 18446744073709551616) (h : ∀ I' (r : Bool), I.le I' → (r = true → True) → Q (.bool r) [] [] I') : WP Tryz.prog 92 #[.agg #[.int .i64 11, .int .u64 (n : Nat), strV t, kv, .int .i64 o, dv]] [] [] I Q := by
 refine lw K92 [] _ Tryz.func92 ?_
 refine G ?_
 intro b1
 refine G ?_
 refine Cx [] ?_
 refine fixedSize_law fun I' hi => ?_
 rw [show (lookN fixedT 11 - if (11 : Int) = 0 ∨ (11 : Int) = 1 ∨ 18 ≤ (11 : Int) then 1 else 0) = 8 by decide]
 refine G ?_
 refine ⟨[0,1,2,3,4,5,6,7,8,9,10,11,12,13,14,15,16,17,18,19,20,21,22,23,24,25,26,27,28], [], [], [], by kernel_rfl, ?_⟩
 refine G ?_
 refine ⟨by decide, exO fun X hX => ?_⟩
 rw [shl_u n 0 1 (by decide) (by decide) (by decide)] at hX
 conv => whnf
 refine ⟨by decide, exO fun Y hY => ?_⟩
 rw [shr_i _ 0 1 .u64 (by decide) rfl (by decide) (by decide)] at hY
 have hb := u_back (p := 1) (r := 18446744073709551616) (by decide) (by omega) hX hY
 clear hX hY
 conv => whnf
 split
 ·rename_i he _
  have hfact : True := trivial
  clear hb
  refine G ?_
  split
  ·refine G ?_
   refine L0 ?_
   exact h I' _ hi fun _ => hfact
  ·refine G ?_
   refine L0 ?_
   exact h I' _ hi fun _ => hfact
 ·clear hb
  refine G ?_
  refine L0 ?_
  exact h I' false hi (by simp)
theorem content_13 {n : Nat} {t : List UInt8} {kv dv : Value} {o : Int} (hn : n < 18446744073709551616) (h : ∀ I' (r : Bool), I.le I' → (r = true → True) → Q (.bool r) [] [] I') : WP Tryz.prog 92 #[.agg #[.int .i64 13, .int .u64 (n : Nat), strV t, kv, .int .i64 o, dv]] [] [] I Q := by
 refine lw K92 [] _ Tryz.func92 ?_
 refine G ?_
 intro b1
 refine G ?_
 refine Cx [] ?_
 refine fixedSize_law fun I' hi => ?_
 rw [show (lookN fixedT 13 - if (13 : Int) = 0 ∨ (13 : Int) = 1 ∨ 18 ≤ (13 : Int) then 1 else 0) = 8 by decide]
 refine G ?_
 refine ⟨[0,1,2,3,4,5,6,7,8,9,10,11,12,13,14,15,16,17,18,19,20,21,22,23,24,25,26,27,28], [], [], [], by kernel_rfl, ?_⟩
 refine G ?_
 refine ⟨by decide, exO fun X hX => ?_⟩
 rw [shl_u n 0 1 (by decide) (by decide) (by decide)] at hX
 conv => whnf
 refine ⟨by decide, exO fun Y hY => ?_⟩
 rw [shr_i _ 0 1 .u64 (by decide) rfl (by decide) (by decide)] at hY
 have hb := u_back (p := 1) (r := 18446744073709551616) (by decide) (by omega) hX hY
 clear hX hY
 conv => whnf
 split
 ·rename_i he _
  have hfact : True := trivial
  clear hb
  refine G ?_
  split
  ·refine G ?_
   refine L0 ?_
   exact h I' _ hi fun _ => hfact
  ·refine G ?_
   refine L0 ?_
   exact h I' _ hi fun _ => hfact
 ·clear hb
  refine G ?_
  refine L0 ?_
  exact h I' false hi (by simp)
theorem content_16 {n : Nat} {t : List UInt8} {kv dv : Value} {o : Int} (hn : n < 18446744073709551616) (h : ∀ I' (r : Bool), I.le I' → (r = true → True) → Q (.bool r) [] [] I') : WP Tryz.prog 92 #[.agg #[.int .i64 16, .int .u64 (n : Nat), strV t, kv, .int .i64 o, dv]] [] [] I Q := by
 refine lw K92 [] _ Tryz.func92 ?_
 refine G ?_
 intro b1
 refine G ?_
 refine Cx [] ?_
 refine fixedSize_law fun I' hi => ?_
 rw [show (lookN fixedT 16 - if (16 : Int) = 0 ∨ (16 : Int) = 1 ∨ 18 ≤ (16 : Int) then 1 else 0) = 8 by decide]
 refine G ?_
 refine ⟨[0,1,2,3,4,5,6,7,8,9,10,11,12,13,14,15,16,17,18,19,20,21,22,23,24,25,26,27,28], [], [], [], by kernel_rfl, ?_⟩
 refine G ?_
 refine ⟨by decide, exO fun X hX => ?_⟩
 rw [shl_u n 0 1 (by decide) (by decide) (by decide)] at hX
 conv => whnf
 refine ⟨by decide, exO fun Y hY => ?_⟩
 rw [shr_i _ 0 1 .u64 (by decide) rfl (by decide) (by decide)] at hY
 have hb := u_back (p := 1) (r := 18446744073709551616) (by decide) (by omega) hX hY
 clear hX hY
 conv => whnf
 split
 ·rename_i he _
  have hfact : True := trivial
  clear hb
  refine G ?_
  split
  ·refine G ?_
   refine L0 ?_
   exact h I' _ hi fun _ => hfact
  ·refine G ?_
   refine L0 ?_
   exact h I' _ hi fun _ => hfact
 ·clear hb
  refine G ?_
  refine L0 ?_
  exact h I' false hi (by simp)
theorem content_6 {n : Nat} {t : List UInt8} {kv dv : Value} {o : Int} (hn : n < 18446744073709551616) (h : ∀ I' (r : Bool), I.le I' → (r = true → n < 128 ∨ 18446744073709551488 ≤ n) → Q (.bool r) [] [] I') : WP Tryz.prog 92 #[.agg #[.int .i64 6, .int .u64 (n : Nat), strV t, kv, .int .i64 o, dv]] [] [] I Q := by
 refine lw K92 [] _ Tryz.func92 ?_
 refine G ?_
 intro b1
 refine G ?_
 refine Cx [] ?_
 refine fixedSize_law fun I' hi => ?_
 rw [show (lookN fixedT 6 - if (6 : Int) = 0 ∨ (6 : Int) = 1 ∨ 18 ≤ (6 : Int) then 1 else 0) = 1 by decide]
 refine G ?_
 refine ⟨[0,1,2,3,4,5,6,7,8,9,10,11,12,13,14,15,16,17,18,19,20,21,22,23,24,25,26,27,28], [], [], [], by kernel_rfl, ?_⟩
 refine G ?_
 refine ⟨by decide, exO fun X hX => ?_⟩
 rw [shl_u n 56 72057594037927936 (by decide) (by decide) (by decide)] at hX
 conv => whnf
 refine exO fun Z hZ => ?_
 conv => whnf
 refine ⟨by decide, exO fun Y hY => ?_⟩
 rw [shr_i _ 56 72057594037927936 .i64 (by decide) rfl (by decide) (by decide)] at hY
 conv => whnf
 refine exO fun W hW => ?_
 have hb := s_back (p := 72057594037927936) (r := 256) (h := 128) (by decide) (by omega) (by omega) hX hZ hY hW (by decide)
 clear hX hZ hY hW
 conv => whnf
 split
 ·rename_i he _
  have hfact : n < 128 ∨ 18446744073709551488 ≤ n := by omega
  clear hb
  refine G ?_
  split
  ·refine G ?_
   refine L0 ?_
   exact h I' _ hi fun _ => hfact
  ·refine G ?_
   refine L0 ?_
   exact h I' _ hi fun _ => hfact
 ·clear hb
  refine G ?_
  refine L0 ?_
  exact h I' false hi (by simp)
theorem content_7 {n : Nat} {t : List UInt8} {kv dv : Value} {o : Int} (hn : n < 18446744073709551616) (h : ∀ I' (r : Bool), I.le I' → (r = true → n < 32768 ∨ 18446744073709518848 ≤ n) → Q (.bool r) [] [] I') : WP Tryz.prog 92 #[.agg #[.int .i64 7, .int .u64 (n : Nat), strV t, kv, .int .i64 o, dv]] [] [] I Q := by
 refine lw K92 [] _ Tryz.func92 ?_
 refine G ?_
 intro b1
 refine G ?_
 refine Cx [] ?_
 refine fixedSize_law fun I' hi => ?_
 rw [show (lookN fixedT 7 - if (7 : Int) = 0 ∨ (7 : Int) = 1 ∨ 18 ≤ (7 : Int) then 1 else 0) = 2 by decide]
 refine G ?_
 refine ⟨[0,1,2,3,4,5,6,7,8,9,10,11,12,13,14,15,16,17,18,19,20,21,22,23,24,25,26,27,28], [], [], [], by kernel_rfl, ?_⟩
 refine G ?_
 refine ⟨by decide, exO fun X hX => ?_⟩
 rw [shl_u n 48 281474976710656 (by decide) (by decide) (by decide)] at hX
 conv => whnf
 refine exO fun Z hZ => ?_
 conv => whnf
 refine ⟨by decide, exO fun Y hY => ?_⟩
 rw [shr_i _ 48 281474976710656 .i64 (by decide) rfl (by decide) (by decide)] at hY
 conv => whnf
 refine exO fun W hW => ?_
 have hb := s_back (p := 281474976710656) (r := 65536) (h := 32768) (by decide) (by omega) (by omega) hX hZ hY hW (by decide)
 clear hX hZ hY hW
 conv => whnf
 split
 ·rename_i he _
  have hfact : n < 32768 ∨ 18446744073709518848 ≤ n := by omega
  clear hb
  refine G ?_
  split
  ·refine G ?_
   refine L0 ?_
   exact h I' _ hi fun _ => hfact
  ·refine G ?_
   refine L0 ?_
   exact h I' _ hi fun _ => hfact
 ·clear hb
  refine G ?_
  refine L0 ?_
  exact h I' false hi (by simp)
theorem content_8 {n : Nat} {t : List UInt8} {kv dv : Value} {o : Int} (hn : n < 18446744073709551616) (h : ∀ I' (r : Bool), I.le I' → (r = true → n < 2147483648 ∨ 18446744071562067968 ≤ n) → Q (.bool r) [] [] I') : WP Tryz.prog 92 #[.agg #[.int .i64 8, .int .u64 (n : Nat), strV t, kv, .int .i64 o, dv]] [] [] I Q := by
 refine lw K92 [] _ Tryz.func92 ?_
 refine G ?_
 intro b1
 refine G ?_
 refine Cx [] ?_
 refine fixedSize_law fun I' hi => ?_
 rw [show (lookN fixedT 8 - if (8 : Int) = 0 ∨ (8 : Int) = 1 ∨ 18 ≤ (8 : Int) then 1 else 0) = 4 by decide]
 refine G ?_
 refine ⟨[0,1,2,3,4,5,6,7,8,9,10,11,12,13,14,15,16,17,18,19,20,21,22,23,24,25,26,27,28], [], [], [], by kernel_rfl, ?_⟩
 refine G ?_
 refine ⟨by decide, exO fun X hX => ?_⟩
 rw [shl_u n 32 4294967296 (by decide) (by decide) (by decide)] at hX
 conv => whnf
 refine exO fun Z hZ => ?_
 conv => whnf
 refine ⟨by decide, exO fun Y hY => ?_⟩
 rw [shr_i _ 32 4294967296 .i64 (by decide) rfl (by decide) (by decide)] at hY
 conv => whnf
 refine exO fun W hW => ?_
 have hb := s_back (p := 4294967296) (r := 4294967296) (h := 2147483648) (by decide) (by omega) (by omega) hX hZ hY hW (by decide)
 clear hX hZ hY hW
 conv => whnf
 split
 ·rename_i he _
  have hfact : n < 2147483648 ∨ 18446744071562067968 ≤ n := by omega
  clear hb
  refine G ?_
  split
  ·refine G ?_
   refine L0 ?_
   exact h I' _ hi fun _ => hfact
  ·refine G ?_
   refine L0 ?_
   exact h I' _ hi fun _ => hfact
 ·clear hb
  refine G ?_
  refine L0 ?_
  exact h I' false hi (by simp)
theorem content_9 {n : Nat} {t : List UInt8} {kv dv : Value} {o : Int} (hn : n < 18446744073709551616) (h : ∀ I' (r : Bool), I.le I' → (r = true → True) → Q (.bool r) [] [] I') : WP Tryz.prog 92 #[.agg #[.int .i64 9, .int .u64 (n : Nat), strV t, kv, .int .i64 o, dv]] [] [] I Q := by
 refine lw K92 [] _ Tryz.func92 ?_
 refine G ?_
 intro b1
 refine G ?_
 refine Cx [] ?_
 refine fixedSize_law fun I' hi => ?_
 rw [show (lookN fixedT 9 - if (9 : Int) = 0 ∨ (9 : Int) = 1 ∨ 18 ≤ (9 : Int) then 1 else 0) = 8 by decide]
 refine G ?_
 refine ⟨[0,1,2,3,4,5,6,7,8,9,10,11,12,13,14,15,16,17,18,19,20,21,22,23,24,25,26,27,28], [], [], [], by kernel_rfl, ?_⟩
 refine G ?_
 refine ⟨by decide, exO fun X hX => ?_⟩
 rw [shl_u n 0 1 (by decide) (by decide) (by decide)] at hX
 conv => whnf
 refine exO fun Z hZ => ?_
 conv => whnf
 refine ⟨by decide, exO fun Y hY => ?_⟩
 rw [shr_i _ 0 1 .i64 (by decide) rfl (by decide) (by decide)] at hY
 conv => whnf
 refine exO fun W hW => ?_
 have hb := s_back (p := 1) (r := 18446744073709551616) (h := 9223372036854775808) (by decide) (by omega) (by omega) hX hZ hY hW (by decide)
 clear hX hZ hY hW
 conv => whnf
 split
 ·rename_i he _
  have hfact : True := trivial
  clear hb
  refine G ?_
  split
  ·refine G ?_
   refine L0 ?_
   exact h I' _ hi fun _ => hfact
  ·refine G ?_
   refine L0 ?_
   exact h I' _ hi fun _ => hfact
 ·clear hb
  refine G ?_
  refine L0 ?_
  exact h I' false hi (by simp)
theorem content_15 {N : Int} {t : List UInt8} {kv dv : Value} {o : Int} (h : ∀ I' (r : Bool), I.le I' → Q (.bool r) [] [] I') : WP Tryz.prog 92 #[.agg #[.int .i64 15, .int .u64 N, strV t, kv, .int .i64 o, dv]] [] [] I Q := by
 refine lw K92 [] _ Tryz.func92 ?_
 refine G ?_
 intro b1
 refine G ?_
 refine Cx [] ?_
 refine fixedSize_law fun I' hi => ?_
 rw [show (lookN fixedT 15 - if (15 : Int) = 0 ∨ (15 : Int) = 1 ∨ 18 ≤ (15 : Int) then 1 else 0) = 4 by decide]
 refine G ?_
 refine ⟨[0,1,2,3,4,5,6,7,8,9,10,11,12,13,14,15,16,17,18,19,20,21,22,23,24,25,26,27,28], [], [], [], by kernel_rfl, ?_⟩
 refine G ?_
 refine ⟨by decide, exO fun X hX => ?_⟩
 clear hX
 conv => whnf
 refine ⟨by decide, exO fun Y hY => ?_⟩
 clear hY
 conv => whnf
 split
 ·refine G ?_
  split
  ·refine G ?_
   split
   ·refine G ?_
    refine L0 ?_
    exact h I' _ hi
   ·refine G ?_
    split
    ·refine G ?_
     refine L0 ?_
     exact h I' _ hi
    ·refine G ?_
     refine L0 ?_
     exact h I' _ hi
  ·refine G ?_
   refine L0 ?_
   exact h I' _ hi
 ·refine G ?_
  refine L0 ?_
  exact h I' false hi
theorem content_0 {n : Nat} {t : List UInt8} {l ds : List V} {kb db : Option Addr} {kc dc : Nat} {o : Int} (hu : Utf I) (hr : VRep I (.mk 0 n t l o ds) (cellsOf (.mk 0 n t l o ds) kb kc db dc)) (h : ∀ I' (r : Bool), I.le I' → (r = true → True) → Q (.bool r) [] [] I') :
  WP Tryz.prog 92 #[.agg #[.int .i64 0, .int .u64 (n : Nat), strV t, .slice kb l.length kc, .int .i64 o, .slice db ds.length dc]] [] [] I Q := by
 obtain ⟨_, _, _, _, _, hvk, _, _, hnr, _, htr⟩ := hr.inv2
 replace htr : t.length < 1099511627776 := htr
 replace hnr : n < 18446744073709551616 := hnr
 have hlr : l.length < 1099511627776 := hvk.1
 refine lw K92 [] _ Tryz.func92 ?_
 refine G ?_
 intro b1
 refine G ?_
 refine Cx [] ?_
 refine fixedSize_law fun I' hi => ?_
 rw [show (lookN fixedT 0 - if (0 : Int) = 0 ∨ (0 : Int) = 1 ∨ 18 ≤ (0 : Int) then 1 else 0) = -1 by decide]
 refine G ?_
 split
 ·refine G ?_
  refine L0 ?_
  exact h I' true hi fun _ => trivial
 ·refine G ?_
  refine L0 ?_
  exact h I' false hi fun _ => trivial
theorem content_1 {n : Nat} {t : List UInt8} {l ds : List V} {kb db : Option Addr} {kc dc : Nat} {o : Int} (hu : Utf I) (hr : VRep I (.mk 1 n t l o ds) (cellsOf (.mk 1 n t l o ds) kb kc db dc)) (h : ∀ I' (r : Bool), I.le I' → (r = true → (n ≤ 1)) → Q (.bool r) [] [] I') :
  WP Tryz.prog 92 #[.agg #[.int .i64 1, .int .u64 (n : Nat), strV t, .slice kb l.length kc, .int .i64 o, .slice db ds.length dc]] [] [] I Q := by
 obtain ⟨_, _, _, _, _, hvk, _, _, hnr, _, htr⟩ := hr.inv2
 replace htr : t.length < 1099511627776 := htr
 replace hnr : n < 18446744073709551616 := hnr
 have hlr : l.length < 1099511627776 := hvk.1
 refine lw K92 [] _ Tryz.func92 ?_
 refine G ?_
 intro b1
 refine G ?_
 refine Cx [] ?_
 refine fixedSize_law fun I' hi => ?_
 rw [show (lookN fixedT 1 - if (1 : Int) = 0 ∨ (1 : Int) = 1 ∨ 18 ≤ (1 : Int) then 1 else 0) = -1 by decide]
 refine G ?_
 split
 ·rename_i hz _
  refine G ?_
  refine L0 ?_
  exact h I' true hi fun _ => (by omega)
 ·refine G ?_
  refine L0 ?_
  exact h I' false hi (by simp)
theorem content_14 {n : Nat} {t : List UInt8} {l ds : List V} {kb db : Option Addr} {kc dc : Nat} {o : Int} (hu : Utf I) (hr : VRep I (.mk 14 n t l o ds) (cellsOf (.mk 14 n t l o ds) kb kc db dc)) (h : ∀ I' (r : Bool), I.le I' → (r = true → True) → Q (.bool r) [] [] I') :
  WP Tryz.prog 92 #[.agg #[.int .i64 14, .int .u64 (n : Nat), strV t, .slice kb l.length kc, .int .i64 o, .slice db ds.length dc]] [] [] I Q := by
 obtain ⟨_, _, _, _, _, hvk, _, _, hnr, _, htr⟩ := hr.inv2
 replace htr : t.length < 1099511627776 := htr
 replace hnr : n < 18446744073709551616 := hnr
 have hlr : l.length < 1099511627776 := hvk.1
 refine lw K92 [] _ Tryz.func92 ?_
 refine G ?_
 intro b1
 refine G ?_
 refine Cx [] ?_
 refine fixedSize_law fun I' hi => ?_
 rw [show (lookN fixedT 14 - if (14 : Int) = 0 ∨ (14 : Int) = 1 ∨ 18 ≤ (14 : Int) then 1 else 0) = 16 by decide]
 refine G ?_
 split
 ·refine G ?_
  refine L0 ?_
  exact h I' true hi fun _ => trivial
 ·refine G ?_
  refine L0 ?_
  exact h I' false hi fun _ => trivial
theorem content_17 {n : Nat} {t : List UInt8} {l ds : List V} {kb db : Option Addr} {kc dc : Nat} {o : Int} (hu : Utf I) (hr : VRep I (.mk 17 n t l o ds) (cellsOf (.mk 17 n t l o ds) kb kc db dc)) (h : ∀ I' (r : Bool), I.le I' → (r = true → (t.length = 16)) → Q (.bool r) [] [] I') :
  WP Tryz.prog 92 #[.agg #[.int .i64 17, .int .u64 (n : Nat), strV t, .slice kb l.length kc, .int .i64 o, .slice db ds.length dc]] [] [] I Q := by
 obtain ⟨_, _, _, _, _, hvk, _, _, hnr, _, htr⟩ := hr.inv2
 replace htr : t.length < 1099511627776 := htr
 replace hnr : n < 18446744073709551616 := hnr
 have hlr : l.length < 1099511627776 := hvk.1
 refine lw K92 [] _ Tryz.func92 ?_
 refine G ?_
 intro b1
 refine G ?_
 refine Cx [] ?_
 refine fixedSize_law fun I' hi => ?_
 rw [show (lookN fixedT 17 - if (17 : Int) = 0 ∨ (17 : Int) = 1 ∨ 18 ≤ (17 : Int) then 1 else 0) = 16 by decide]
 refine G ?_
 have hsz : ByteArray.size ⟨t.toArray⟩ = t.length := rfl
 split
 ·rename_i hz _
  refine G ?_
  refine L0 ?_
  exact h I' true hi fun _ => (by omega)
 ·refine G ?_
  refine L0 ?_
  exact h I' false hi (by simp)
theorem content_18 {n : Nat} {t : List UInt8} {l ds : List V} {kb db : Option Addr} {kc dc : Nat} {o : Int} (hu : Utf I) (hr : VRep I (.mk 18 n t l o ds) (cellsOf (.mk 18 n t l o ds) kb kc db dc)) (h : ∀ I' (r : Bool), I.le I' → (r = true → True) → Q (.bool r) [] [] I') :
  WP Tryz.prog 92 #[.agg #[.int .i64 18, .int .u64 (n : Nat), strV t, .slice kb l.length kc, .int .i64 o, .slice db ds.length dc]] [] [] I Q := by
 obtain ⟨_, _, _, _, _, hvk, _, _, hnr, _, htr⟩ := hr.inv2
 replace htr : t.length < 1099511627776 := htr
 replace hnr : n < 18446744073709551616 := hnr
 have hlr : l.length < 1099511627776 := hvk.1
 refine lw K92 [] _ Tryz.func92 ?_
 refine G ?_
 intro b1
 refine G ?_
 refine Cx [] ?_
 refine fixedSize_law fun I' hi => ?_
 rw [show (lookN fixedT 18 - if (18 : Int) = 0 ∨ (18 : Int) = 1 ∨ 18 ≤ (18 : Int) then 1 else 0) = -1 by decide]
 refine G ?_
 split
 ·refine G ?_
  refine L0 ?_
  exact h I' true hi fun _ => trivial
 ·refine G ?_
  refine L0 ?_
  exact h I' false hi fun _ => trivial
theorem content_19 {n : Nat} {t : List UInt8} {l ds : List V} {kb db : Option Addr} {kc dc : Nat} {o : Int} (hu : Utf I) (hr : VRep I (.mk 19 n t l o ds) (cellsOf (.mk 19 n t l o ds) kb kc db dc)) (h : ∀ I' (r : Bool), I.le I' → (r = true → (Lib.validD t = true)) → Q (.bool r) [] [] I') :
  WP Tryz.prog 92 #[.agg #[.int .i64 19, .int .u64 (n : Nat), strV t, .slice kb l.length kc, .int .i64 o, .slice db ds.length dc]] [] [] I Q := by
 obtain ⟨_, _, _, _, _, hvk, _, _, hnr, _, htr⟩ := hr.inv2
 replace htr : t.length < 1099511627776 := htr
 replace hnr : n < 18446744073709551616 := hnr
 have hlr : l.length < 1099511627776 := hvk.1
 refine lw K92 [] _ Tryz.func92 ?_
 refine G ?_
 intro b1
 refine G ?_
 refine Cx [] ?_
 refine fixedSize_law fun I' hi => ?_
 rw [show (lookN fixedT 19 - if (19 : Int) = 0 ∨ (19 : Int) = 1 ∨ 18 ≤ (19 : Int) then 1 else 0) = -1 by decide]
 refine G ?_
 refine Cx [] ?_
 refine hu I' hi t _ htr ?_
 refine G ?_
 refine L0 ?_
 exact h I' _ hi fun e => e
theorem content_20 {n : Nat} {t : List UInt8} {l ds : List V} {kb db : Option Addr} {kc dc : Nat} {o : Int} (hu : Utf I) (hr : VRep I (.mk 20 n t l o ds) (cellsOf (.mk 20 n t l o ds) kb kc db dc)) (h : ∀ I' (r : Bool), I.le I' → (r = true → (∀ b ∈ t, b.toNat < 128)) → Q (.bool r) [] [] I') :
  WP Tryz.prog 92 #[.agg #[.int .i64 20, .int .u64 (n : Nat), strV t, .slice kb l.length kc, .int .i64 o, .slice db ds.length dc]] [] [] I Q := by
 obtain ⟨_, _, _, _, _, hvk, _, _, hnr, _, htr⟩ := hr.inv2
 replace htr : t.length < 1099511627776 := htr
 replace hnr : n < 18446744073709551616 := hnr
 have hlr : l.length < 1099511627776 := hvk.1
 refine lw K92 [] _ Tryz.func92 ?_
 refine G ?_
 intro b1
 refine G ?_
 refine Cx [] ?_
 refine fixedSize_law fun I' hi => ?_
 rw [show (lookN fixedT 20 - if (20 : Int) = 0 ∨ (20 : Int) = 1 ∨ 18 ≤ (20 : Int) then 1 else 0) = -1 by decide]
 refine G ?_
 refine Cx [] ?_
 refine asciiOnly_law htr fun r hr' => ?_
 refine G ?_
 refine L0 ?_
 exact h I' _ hi hr'
theorem content_21 {n : Nat} {t : List UInt8} {l ds : List V} {kb db : Option Addr} {kc dc : Nat} {o : Int} (hu : Utf I) (hr : VRep I (.mk 21 n t l o ds) (cellsOf (.mk 21 n t l o ds) kb kc db dc)) (h : ∀ I' (r : Bool), I.le I' → (r = true → True) → Q (.bool r) [] [] I') :
  WP Tryz.prog 92 #[.agg #[.int .i64 21, .int .u64 (n : Nat), strV t, .slice kb l.length kc, .int .i64 o, .slice db ds.length dc]] [] [] I Q := by
 obtain ⟨_, _, _, _, _, hvk, _, _, hnr, _, htr⟩ := hr.inv2
 replace htr : t.length < 1099511627776 := htr
 replace hnr : n < 18446744073709551616 := hnr
 have hlr : l.length < 1099511627776 := hvk.1
 refine lw K92 [] _ Tryz.func92 ?_
 refine G ?_
 intro b1
 refine G ?_
 refine Cx [] ?_
 refine fixedSize_law fun I' hi => ?_
 rw [show (lookN fixedT 21 - if (21 : Int) = 0 ∨ (21 : Int) = 1 ∨ 18 ≤ (21 : Int) then 1 else 0) = -1 by decide]
 refine G ?_
 split
 ·refine G ?_
  refine L0 ?_
  exact h I' true hi fun _ => trivial
 ·refine G ?_
  refine L0 ?_
  exact h I' false hi fun _ => trivial
theorem content_22 {n : Nat} {t : List UInt8} {l ds : List V} {kb db : Option Addr} {kc dc : Nat} {o : Int} (hu : Utf I) (hr : VRep I (.mk 22 n t l o ds) (cellsOf (.mk 22 n t l o ds) kb kc db dc)) (h : ∀ I' (r : Bool), I.le I' → (r = true → (l.length % 2 = 0)) → Q (.bool r) [] [] I') :
  WP Tryz.prog 92 #[.agg #[.int .i64 22, .int .u64 (n : Nat), strV t, .slice kb l.length kc, .int .i64 o, .slice db ds.length dc]] [] [] I Q := by
 obtain ⟨_, _, _, _, _, hvk, _, _, hnr, _, htr⟩ := hr.inv2
 replace htr : t.length < 1099511627776 := htr
 replace hnr : n < 18446744073709551616 := hnr
 have hlr : l.length < 1099511627776 := hvk.1
 refine lw K92 [] _ Tryz.func92 ?_
 refine G ?_
 intro b1
 refine G ?_
 refine Cx [] ?_
 refine fixedSize_law fun I' hi => ?_
 rw [show (lookN fixedT 22 - if (22 : Int) = 0 ∨ (22 : Int) = 1 ∨ 18 ≤ (22 : Int) then 1 else 0) = -1 by decide]
 refine G ?_
 refine ⟨by decide, exO fun X hX => ?_⟩
 conv => whnf
 split
 ·rename_i hz _
  refine G ?_
  refine L0 ?_
  refine h I' true hi fun _ => ?_
  rw [hz, show ((l.length : Nat) : Int).tmod 2 = ((l.length % 2 : Nat) : Int) from rfl] at hX
  omega
 ·refine G ?_
  refine L0 ?_
  exact h I' false hi (by simp)
theorem content_23 {n : Nat} {t : List UInt8} {l ds : List V} {kb db : Option Addr} {kc dc : Nat} {o : Int} (hu : Utf I) (hr : VRep I (.mk 23 n t l o ds) (cellsOf (.mk 23 n t l o ds) kb kc db dc)) (h : ∀ I' (r : Bool), I.le I' → (r = true → (∀ (j : Nat) (y z : V), l[0]? = some z → l[j]? = some y → y.kind = z.kind ∧ y.desc.length = z.desc.length)) → Q (.bool r) [] [] I') :
  WP Tryz.prog 92 #[.agg #[.int .i64 23, .int .u64 (n : Nat), strV t, .slice kb l.length kc, .int .i64 o, .slice db ds.length dc]] [] [] I Q := by
 obtain ⟨_, _, _, _, _, hvk, _, _, hnr, _, htr⟩ := hr.inv2
 replace htr : t.length < 1099511627776 := htr
 replace hnr : n < 18446744073709551616 := hnr
 have hlr : l.length < 1099511627776 := hvk.1
 refine lw K92 [] _ Tryz.func92 ?_
 refine G ?_
 intro b1
 refine G ?_
 refine Cx [] ?_
 refine fixedSize_law fun I' hi => ?_
 rw [show (lookN fixedT 23 - if (23 : Int) = 0 ∨ (23 : Int) = 1 ∨ 18 ≤ (23 : Int) then 1 else 0) = -1 by decide]
 refine G ?_
 refine Cx [] ?_
 refine arrayFits_law (hr.mono hi) fun r hr' => ?_
 refine G ?_
 refine L0 ?_
 exact h I' _ hi hr'
end laws
section laws
variable {I : Imm} {Q : Qt}
theorem contentFits_law {x : V} {cs : List Value} (hu : Utf I) (hr : VRep I x cs) (hk : 0 ≤ x.kind ∧ x.kind < 24) (h : ∀ I' (r : Bool), I.le I' → (r = true → Cont x) → Q (.bool r) [] [] I') : WP Tryz.prog 92 #[.agg cs.toArray] [] [] I Q := by
 have hr' := hr
 obtain ⟨kb, kc, db, dc, rfl, _, _, _, hnr, _, _⟩ := hr.inv2
 obtain ⟨k, n, t, l, o, ds⟩ := x
 simp only [V.kind] at hk
 replace hnr : n < 18446744073709551616 := hnr
 have hc : k = 0 ∨ k = 1 ∨ k = 2 ∨ k = 3 ∨ k = 4 ∨ k = 5 ∨ k = 6 ∨ k = 7 ∨ k = 8 ∨ k = 9 ∨ k = 10 ∨ k = 11 ∨ k = 12 ∨ k = 13 ∨ k = 14 ∨ k = 15 ∨ k = 16 ∨ k = 17 ∨ k = 18 ∨ k = 19 ∨ k = 20 ∨ k = 21 ∨ k = 22 ∨ k = 23 := by omega
 rcases hc with rfl | rfl | rfl | rfl | rfl | rfl | rfl | rfl | rfl | rfl | rfl | rfl | rfl | rfl | rfl | rfl | rfl | rfl | rfl | rfl | rfl | rfl | rfl | rfl
 ·exact content_0 hu hr' fun I' r hi _ => h I' r hi fun _ => cont_other (by simp [V.kind])
 ·exact content_1 hu hr' fun I' r hi hf => h I' r hi fun e => by have := hf e; constructor <;> intro hk <;> first | exact this | (simp [V.kind] at hk; done)
 ·exact content_2 hnr fun I' r hi hf => h I' r hi fun e => by have := hf e; constructor <;> intro hk <;> first | exact this | (simp [V.kind] at hk; done)
 ·exact content_3 hnr fun I' r hi hf => h I' r hi fun e => by have := hf e; constructor <;> intro hk <;> first | exact this | (simp [V.kind] at hk; done)
 ·exact content_4 hnr fun I' r hi hf => h I' r hi fun e => by have := hf e; constructor <;> intro hk <;> first | exact this | (simp [V.kind] at hk; done)
 ·exact content_5 hnr fun I' r hi _ => h I' r hi fun _ => cont_other (by simp [V.kind])
 ·exact content_6 hnr fun I' r hi hf => h I' r hi fun e => by have := hf e; constructor <;> intro hk <;> first | exact this | (simp [V.kind] at hk; done)
 ·exact content_7 hnr fun I' r hi hf => h I' r hi fun e => by have := hf e; constructor <;> intro hk <;> first | exact this | (simp [V.kind] at hk; done)
 ·exact content_8 hnr fun I' r hi hf => h I' r hi fun e => by have := hf e; constructor <;> intro hk <;> first | exact this | (simp [V.kind] at hk; done)
 ·exact content_9 hnr fun I' r hi _ => h I' r hi fun _ => cont_other (by simp [V.kind])
 ·exact content_10 hnr fun I' r hi hf => h I' r hi fun e => by have := hf e; constructor <;> intro hk <;> first | exact this | (simp [V.kind] at hk; done)
 ·exact content_11 hnr fun I' r hi _ => h I' r hi fun _ => cont_other (by simp [V.kind])
 ·exact content_12 hnr fun I' r hi _ => h I' r hi fun _ => cont_other (by simp [V.kind])
 ·exact content_13 hnr fun I' r hi _ => h I' r hi fun _ => cont_other (by simp [V.kind])
 ·exact content_14 hu hr' fun I' r hi _ => h I' r hi fun _ => cont_other (by simp [V.kind])
 ·exact content_15 fun I' r hi => h I' r hi fun _ => cont_other (by simp [V.kind])
 ·exact content_16 hnr fun I' r hi _ => h I' r hi fun _ => cont_other (by simp [V.kind])
 ·exact content_17 hu hr' fun I' r hi hf => h I' r hi fun e => by have := hf e; constructor <;> intro hk <;> first | exact this | (simp [V.kind] at hk; done)
 ·exact content_18 hu hr' fun I' r hi _ => h I' r hi fun _ => cont_other (by simp [V.kind])
 ·exact content_19 hu hr' fun I' r hi hf => h I' r hi fun e => by have := hf e; constructor <;> intro hk <;> first | exact this | (simp [V.kind] at hk; done)
 ·exact content_20 hu hr' fun I' r hi hf => h I' r hi fun e => by have := hf e; constructor <;> intro hk <;> first | exact this | (simp [V.kind] at hk; done)
 ·exact content_21 hu hr' fun I' r hi _ => h I' r hi fun _ => cont_other (by simp [V.kind])
 ·exact content_22 hu hr' fun I' r hi hf => h I' r hi fun e => by have := hf e; constructor <;> intro hk <;> first | exact this | (simp [V.kind] at hk; done)
 ·exact content_23 hu hr' fun I' r hi hf => h I' r hi fun e => by have := hf e; constructor <;> intro hk <;> first | exact this | (simp [V.kind] at hk; done)
theorem fewValues_law : ∀ (m : Nat) (x : V) {cs : List Value} {b : Nat} {L : Int} {I : Imm} {Q : Qt}, x.sz ≤ m → VRep I x cs → (-1 ≤ L ∧ L ≤ 2000) →
  (∀ (r : Bool) (L' : Int), (-1 ≤ L' ∧ L' ≤ L) → (r = true → L' = L - x.cnt ∧ 0 ≤ L') → Q (.bool r) [[.int .i64 L']] [] I) → 0 ≤ L → WP Tryz.prog 65 #[.agg cs.toArray, .pointer (some ⟨b, 0, none⟩)] [(b, [.int .i64 L])] [] I Q := by
 intro m
 induction m with
 | zero => intro x cs b L I Q h; have := x.sz_pos; omega
 | succ m ih =>
  intro x cs b L I Q hsz hr hL h hL0
  obtain ⟨kb, kc, db, dc, rfl, hvk, hvd, _⟩ := hr.inv2
  have hkl := hvk.1
  have hdl := hvd.1
  have hcnt := cnt_eq x
  refine lw K65 [(1,1000)] [.agg #[.int .i64 x.kind, .int .u64 (x.num : Nat), strV x.text, .slice kb x.kids.length kc, .int .i64 x.of, .slice db x.desc.length dc], .pointer (some ⟨b, 0, none⟩)] Tryz.func65 ?_
  refine G ?_
  intro b2
  refine G ?_
  split
  ·rename_i hneg _
   refine G ?_
   refine L0 ?_
   exact h false (L - 1) (by omega) (by simp)
  ·rename_i hneg _
   refine G ?_
   refine ⟨⟨[5], [1000], [], fun m' vs cs R I' => ∃ (i : Nat) (L' : Int), vs = [.int .i64 (i : Nat)] ∧ cs = [[.int .i64 L']] ∧ R = [] ∧ I' = I ∧ i ≤ x.kids.length ∧ m' = x.kids.length - i ∧ L' = L - 1 - cntL (x.kids.take i) ∧ 0 ≤ L', x.kids.length, _, _, rfl, rfl, ⟨0, L - 1, rfl, rfl, rfl, rfl, by omega, rfl, by simp [cntL_nil], by omega⟩, ?_⟩⟩
   rintro m' vs cs R I' hI _ _ ⟨i, L', rfl, rfl, rfl, rfl, hi, rfl, hL', hL0'⟩
   refine G ?_
   split
   ·rename_i hlt _
    have hi' : i < x.kids.length := by omega
    obtain ⟨vb, vo, rfl, _⟩ := hvk.some (by omega)
    obtain ⟨cx, hcx, hcc⟩ := hvk.get (i := i) (x := x.kids[i]) (by simp [hi'])
    refine G ?_
    refine ⟨_, _, _, _, i, rfl, rfl, hi', ?_⟩
    refine G ?_
    refine ⟨cx, .imm hcc, hcx.len, ?_⟩
    refine G ?_
    refine Cx [1000] ?_
    refine ih x.kids[i] (by have := V.sz_kid (a := x) (x := x.kids[i]) (by simp); omega) hcx (by omega) (fun r L2 hL2 hr2 => ?_) hL0'
    cases r with
    | false =>
     refine G ?_
     refine L0 ?_
     exact h false L2 (by omega) (by simp)
    | true =>
     obtain ⟨e1, e2⟩ := hr2 rfl
     refine G ?_
     refine ⟨x.kids.length - (i + 1), _, _, by omega, rfl, rfl, rfl, rfl, .inl ⟨i + 1, L2, rfl, rfl, rfl, rfl, hi', rfl, ?_, e2⟩⟩
     rw [take_succ_get (x := x.kids[i]) (by simp [hi']), cntL_append, cntL_cons, cntL_nil]
     omega
   ·rename_i hge _
    have hik : i = x.kids.length := by omega
    subst hik
    rw [List.take_length] at hL'
    refine G ?_
    refine ⟨⟨[6], [1000], [], fun m' vs cs R J => ∃ (i : Nat) (L2 : Int), vs = [.int .i64 (i : Nat)] ∧ cs = [[.int .i64 L2]] ∧ R = [] ∧ J = I' ∧ i ≤ x.desc.length ∧ m' = x.desc.length - i ∧ L2 = L' - cntL (x.desc.take i) ∧ 0 ≤ L2, x.desc.length, _, _, rfl, rfl, ⟨0, L', rfl, rfl, rfl, rfl, by omega, rfl, by simp [cntL_nil], hL0'⟩, ?_⟩⟩
    rintro m' vs cs R J hJ _ _ ⟨i, L2, rfl, rfl, rfl, rfl, hi, rfl, hL2, hL20⟩
    refine G ?_
    split
    ·rename_i hlt _
     have hi' : i < x.desc.length := by omega
     obtain ⟨vb, vo, rfl, _⟩ := hvd.some (by omega)
     obtain ⟨cx, hcx, hcc⟩ := hvd.get (i := i) (x := x.desc[i]) (by simp [hi'])
     refine G ?_
     refine ⟨_, _, _, _, i, rfl, rfl, hi', ?_⟩
     refine G ?_
     refine ⟨cx, .imm hcc, hcx.len, ?_⟩
     refine G ?_
     refine Cx [1000] ?_
     refine ih x.desc[i] (by have := V.sz_desc (a := x) (x := x.desc[i]) (by simp); omega) hcx (by omega) (fun r L3 hL3 hr3 => ?_) hL20
     cases r with
     | false =>
      refine G ?_
      refine L0 ?_
      exact h false L3 (by omega) (by simp)
     | true =>
      obtain ⟨e1, e2⟩ := hr3 rfl
      refine G ?_
      refine ⟨x.desc.length - (i + 1), _, _, by omega, rfl, rfl, rfl, rfl, .inl ⟨i + 1, L3, rfl, rfl, rfl, rfl, hi', rfl, ?_, e2⟩⟩
      rw [take_succ_get (x := x.desc[i]) (by simp [hi']), cntL_append, cntL_cons, cntL_nil]
      omega
    ·rename_i hge2 _
     have hik : i = x.desc.length := by omega
     subst hik
     rw [List.take_length] at hL2
     refine G ?_
     refine L0 ?_
     exact h true L2 (by omega) fun _ => ⟨by omega, hL20⟩
end laws
theorem Values_law : ∀ (m : Nat) (x : V) {cs : List Value} {I : Imm} {Q : Qt}, x.sz ≤ m → VRep I x cs → x.cnt ≤ 2000 →
  (∀ I', I.le I' → Q (.int .i64 (x.cnt : Nat)) [] [] I') → WP Tryz.prog 36 #[.agg cs.toArray] [] [] I Q := by
 intro m
 induction m with
 | zero => intro x cs I Q h; have := x.sz_pos; omega
 | succ m ih =>
  intro x cs I Q hsz hr hn h
  obtain ⟨kb, kc, db, dc, rfl, hvk, hvd, _⟩ := hr.inv2
  have hkl := cntL_len x.kids
  have hdl := cntL_len x.desc
  have hcnt := cnt_eq x
  have hb : ti79.bytes = 88 := by kernel_rfl
  have hz6 : ti79.size = 6 := by kernel_rfl
  obtain ⟨hl1, c1, hs1, hc1, hr1⟩ := hvk
  obtain ⟨hl2, c2, hs2, hc2, hr2⟩ := hvd
  refine law (kp := [0,1,2,3,5,12,13,14,15,10006]) [] (args := [.agg #[.int .i64 x.kind, .int .u64 (x.num : Nat), strV x.text, .slice kb x.kids.length kc, .int .i64 x.of, .slice db x.desc.length dc]]) Tryz.func36 (by kernel_rfl) (by kernel_rfl) trivial ?_
  refine G ?_
  intro b1
  refine G ?_
  refine ⟨[1,2,4,5,8,0,3,6,7], [], [], [], by kernel_rfl, ?_⟩
  refine G ?_
  refine .inr ⟨6, rfl, fun b6 => ?_⟩
  refine G ?_
  refine .own 6 0 x.kids.length _ c1.flatten rfl rfl hs1 (row_one hc1 fun i y c hy hc => (hr1 i y c hy hc).one) (by rw [hb]; omega) fun nb nc => ?_
  refine G ?_
  refine .own 6 (0 + x.kids.length) x.desc.length _ c2.flatten rfl rfl hs2 (row_one hc2 fun i y c hy hc => (hr2 i y c hy hc).one) (by rw [hb]; omega) fun nb2 nc2 => ?_
  refine G ?_
  intro I1 hi1 hf1
  have hrow : VsRep I1 (x.kids ++ x.desc) (.slice nb2 (0 + x.kids.length + x.desc.length) nc2) := Row.vs (row_app (l1 := x.kids) (l2 := x.desc) (c1 := c1) (c2 := c2) (Rp := VRep I1) hf1 hz6 (by simp) (by omega) (by omega) hc1 hc2
   (fun i y c hy hc => ⟨(hr1 i y c hy hc).mono hi1, (hr1 i y c hy hc).len⟩) (fun i y c hy hc => ⟨(hr2 i y c hy hc).mono hi1, (hr2 i y c hy hc).len⟩))
  have hlen : (x.kids ++ x.desc).length = 0 + x.kids.length + x.desc.length := by simp
  have hall : cntL (x.kids ++ x.desc) = cntL x.kids + cntL x.desc := cntL_append _ _
  generalize hws : x.kids ++ x.desc = ws at hrow hlen hall
  rw [← hlen] at hrow ⊢
  have hmem : ∀ y ∈ ws, y.sz ≤ m ∧ y.cnt ≤ 2000 := fun y hy => by
   have hcm := cntL_mem hy
   rw [← hws] at hy
   rcases List.mem_append.1 hy with hy | hy
   ·have := V.sz_kid hy; omega
   ·have := V.sz_desc hy; omega
  refine ⟨⟨[3, 14], [], [], fun m' vs cs R J => ∃ i : Nat, vs = [.int .i64 ((1 + cntL (ws.take i) : Nat) : Int), .int .i64 (i : Nat)] ∧ cs = [] ∧ R = [] ∧ i ≤ ws.length ∧ m' = ws.length - i, ws.length, _, _, rfl, rfl, ⟨0, by simp [cntL_nil], rfl, rfl, by omega, rfl⟩, ?_⟩⟩
  rintro m' vs cs R J hJ _ _ ⟨i, rfl, rfl, rfl, hi, rfl⟩
  replace hJ : I1.le J := hJ
  have hrow' := hrow.mono hJ
  have htl : cntL (ws.take i) ≤ cntL ws := by
   have := cntL_append (ws.take i) (ws.drop i)
   rw [List.take_append_drop] at this
   omega
  refine G ?_
  split
  ·rename_i hlt _
   have hi' : i < ws.length := by omega
   obtain ⟨vb, vo, rfl, _⟩ := hrow'.some (by omega)
   obtain ⟨cx, hcx, hcc⟩ := hrow'.get (i := i) (x := ws[i]) (by simp [hi'])
   have hcx' := hcx
   obtain ⟨yb, yc, yd, ye, rfl, _⟩ := hcx.inv2
   have htl1 : cntL (ws.take (i + 1)) = cntL (ws.take i) + ws[i].cnt := by
    rw [take_succ_get (x := ws[i]) (by simp [hi']), cntL_append, cntL_cons, cntL_nil]; omega
   have htl2 : cntL (ws.take (i + 1)) ≤ cntL ws := by
    have := cntL_append (ws.take (i + 1)) (ws.drop (i + 1))
    rw [List.take_append_drop] at this
    omega
   refine G ?_
   refine ⟨_, _, _, _, i, rfl, rfl, hi', ?_⟩
   refine G ?_
   refine ⟨_, .imm hcc, rfl, ?_⟩
   refine G ?_
   intro b5
   refine G ?_
   refine Cx [] ?_
   refine ih ws[i] (hmem _ (by simp)).1 hcx' (hmem _ (by simp)).2 fun I2 hi2 => ?_
   refine G ?_
   refine ⟨ws.length - (i + 1), _, _, by omega, rfl, rfl, rfl, rfl, .inl ⟨i + 1, ?_, rfl, rfl, hi', rfl⟩⟩
   rw [htl1, show ((1 + (cntL (ws.take i) + ws[i].cnt) : Nat) : Int) = ((1 + cntL (ws.take i) : Nat) : Int) + (ws[i].cnt : Int) by omega]
   rfl
  ·rename_i hge _
   have : i = ws.length := by omega
   subst this
   refine G ?_
   refine L0 ?_
   have hq := h J (hi1.trans hJ)
   rw [hcnt] at hq
   rw [List.take_length, hall]
   rw [show 1 + (cntL x.kids + cntL x.desc) = 1 + cntL x.kids + cntL x.desc by omega]
   exact hq
def Fit : Nat → V → Prop
 | 0, _ => False
 | n + 1, x => (0 ≤ x.kind ∧ x.kind < 24) ∧ (¬ 21 ≤ x.kind → x.kids.length = 0) ∧ (¬ (17 ≤ x.kind ∧ x.kind ≤ 20 ∨ x.kind = 14) → x.text = []) ∧ (¬ (1 ≤ x.kind ∧ x.kind ≤ 16 ∧ x.kind ≠ 14) → x.num = 0) ∧
   x.desc.length ≤ 1 ∧ x.kids.length ≤ 1000 ∧ x.text.length ≤ 131072 ∧ (∀ d, x.desc = [d] → Fit n d ∧ (d.kind = 5 ∨ d.kind = 20) ∧ d.desc.length = 0) ∧ (∀ (i : Nat) (y : V), x.kids[i]? = some y → Fit n y) ∧ Cont x
theorem valueFits_law : ∀ (lv : Nat) (x : V) {cs : List Value} {I : Imm} {Q : Qt}, Utf I → VRep I x cs → lv < 100 →
  (∀ I' (r : Bool), I.le I' → (r = true → Fit lv x) → Q (.bool r) [] [] I') → WP Tryz.prog 66 #[.agg cs.toArray, .int .i64 (lv : Nat)] [] [] I Q := by
 intro lv
 induction lv with
 | zero =>
  intro x cs I Q hu hr _ h
  obtain ⟨kb, kc, db, dc, rfl, hvk, hvd, hkr, hnr, hor, htr⟩ := hr.inv2
  have hkl := hvk.1
  have hdl := hvd.1
  have bad : Q (.bool false) [] [] I := h I false (.refl I) (by simp)
  refine lw K66 [] [.agg #[.int .i64 x.kind, .int .u64 (x.num : Nat), strV x.text, .slice kb x.kids.length kc, .int .i64 x.of, .slice db x.desc.length dc], .int .i64 (0 : Nat)] Tryz.func66 ?_
  refine G ?_
  intro b2
  refine G ?_
  have hcls : x.kind < 1 ∨ (1 ≤ x.kind ∧ x.kind ≤ 13) ∨ (15 ≤ x.kind ∧ x.kind ≤ 16) ∨ x.kind = 14 ∨ (17 ≤ x.kind ∧ x.kind ≤ 20) ∨ x.kind = 21 ∨ x.kind = 22 ∨ x.kind = 23 ∨ 24 ≤ x.kind := by omega
  rcases hcls with hc | hc | hc | hc | hc | hc | hc | hc | hc
  all_goals
  repeat ((first | (split; omega) | (split; rotate_left; omega)); refine G ?_)
  refine L0 ?_
  exact bad
 | succ lv ih =>
  intro x cs I Q hu hr hlv h
  have hlv1 : ((lv + 1 : Nat) : Int) - 1 = ((lv : Nat) : Int) := by omega
  have hr' := hr
  obtain ⟨kb, kc, db, dc, rfl, hvk, hvd, hkr, hnr, hor, htr⟩ := hr.inv2
  have hkl := hvk.1
  have hdl := hvd.1
  have bad : Q (.bool false) [] [] I := h I false (.refl I) (by simp)
  have hsz : ByteArray.size ⟨x.text.toArray⟩ = x.text.length := rfl
  refine lw K66 [] [.agg #[.int .i64 x.kind, .int .u64 (x.num : Nat), strV x.text, .slice kb x.kids.length kc, .int .i64 x.of, .slice db x.desc.length dc], .int .i64 (lv + 1 : Nat)] Tryz.func66 ?_
  refine G ?_
  intro b2
  refine G ?_
  have hcls : x.kind < 0 ∨ 24 ≤ x.kind ∨ x.kind = 0 ∨ (1 ≤ x.kind ∧ x.kind ≤ 13) ∨ (15 ≤ x.kind ∧ x.kind ≤ 16) ∨ x.kind = 14 ∨ (17 ≤ x.kind ∧ x.kind ≤ 20) ∨ x.kind = 21 ∨ x.kind = 22 ∨ x.kind = 23 := by omega
  rcases hcls with hc | hc | hcls
  ·repeat ((first | (split; omega) | (split; rotate_left; omega)); refine G ?_)
   refine L0 ?_
   exact bad
  ·repeat ((first | (split; omega) | (split; rotate_left; omega)); refine G ?_)
   refine L0 ?_
   exact bad
  rcases hcls with hc | hc | hc | hc | hc | hc | hc | hc
  all_goals
  repeat (first | ((first | (split; omega) | (split; rotate_left; omega)); refine G ?_) | (split; refine G ?_; refine ⟨⟨[], [], [], [], ?_⟩⟩; exact bad; refine G ?_) | (split; rotate_left; refine G ?_; refine ⟨⟨[], [], [], [], ?_⟩⟩; exact bad; refine G ?_))
  have hsz' : x.text.length ≤ 131072 := by omega
  have hkk : 0 ≤ x.kind ∧ x.kind < 24 := by omega
  have hg1 : ¬ 21 ≤ x.kind → x.kids.length = 0 := fun _ => by omega
  have hg2 : ¬ (17 ≤ x.kind ∧ x.kind ≤ 20 ∨ x.kind = 14) → x.text = [] := fun _ => by first | (exfalso; omega) | assumption
  have hg3 : ¬ (1 ≤ x.kind ∧ x.kind ≤ 16 ∧ x.kind ≠ 14) → x.num = 0 := fun _ => by omega
  have hg4 : x.kids.length ≤ 1000 := by omega
  have hg5 : x.text.length ≤ 131072 := hsz'
  have hgd : x.desc.length ≤ 1 := by omega
  split
  ·rename_i h1 _
   obtain ⟨pb, po, rfl, _⟩ := hvd.some (by omega)
   obtain ⟨cd, hcd, hcd1⟩ := hvd.get (i := 0) (x := x.desc[0]) (by simp)
   have hcd' := hcd
   obtain ⟨db', dc', dd, de, rfl, _⟩ := hcd.inv2
   refine G ?_
   refine ⟨_, _, _, _, 0, rfl, rfl, by omega, ?_⟩
   refine G ?_
   refine ⟨_, .imm hcd1, rfl, ?_⟩
   refine G ?_
   refine Cx [] ?_
   rw [hlv1]
   refine ih x.desc[0] hu hcd' (by omega) fun I1 r hi1 hr1 => ?_
   replace hi1 : I.le I1 := hi1
   have hcd1 := hcd1.mono hi1
   cases r with
   | false =>
    refine G ?_
    refine L0 ?_
    exact h I1 false hi1 (by simp)
   | true =>
    refine G ?_
    refine ⟨_, _, _, _, 0, rfl, rfl, by omega, ?_⟩
    refine G ?_
    refine ⟨.int .i64 x.desc[0].kind, .imm (cell_of hcd1 0 rfl), ?_⟩
    refine G ?_
    split
    ·rename_i hk5 _
     refine G ?_
     refine ⟨_, _, _, _, 0, rfl, rfl, by omega, ?_⟩
     refine G ?_
     refine plus0_mk ?_
     refine G ?_
     refine ⟨.slice dd x.desc[0].desc.length de, .imm (cell_of hcd1 5 rfl), ?_⟩
     refine G ?_
     split
     ·rename_i hdd _
      refine G ?_
      refine L0 ?_
      exact h I1 false hi1 (by simp)
     ·rename_i hdd _
      have hdesc : ∀ d, x.desc = [d] → Fit lv d ∧ (d.kind = 5 ∨ d.kind = 20) ∧ d.desc.length = 0 := fun d hd0 => by
       have e0 : x.desc[0] = d := by simp [hd0]
       rw [← e0]
       exact ⟨hr1 rfl, .inl hk5, by omega⟩
      refine G ?_
      refine ⟨⟨[149], [], [], fun m vs cs R J => ∃ i : Nat, vs = [.int .i64 (i : Nat)] ∧ cs = [] ∧ R = [] ∧ i ≤ x.kids.length ∧ m = x.kids.length - i ∧ (∀ (j : Nat) (y : V), j < i → x.kids[j]? = some y → Fit lv y), x.kids.length, _, _, rfl, rfl, ⟨0, rfl, rfl, rfl, by omega, rfl, fun j y hj => by omega⟩, ?_⟩⟩
      rintro m vs cs R J hJ _ _ ⟨i, rfl, rfl, rfl, hi, rfl, hd⟩
      replace hJ : I1.le J := hJ
      have hvk' := hvk.mono (hi1.trans hJ)
      refine G ?_
      split
      ·rename_i hlt _
       have hi' : i < x.kids.length := by omega
       obtain ⟨vb, vo, rfl, _⟩ := hvk'.some (by omega)
       obtain ⟨cx, hcx, hcc⟩ := hvk'.get (i := i) (x := x.kids[i]) (by simp [hi'])
       have hcx' := hcx
       obtain ⟨yb, yc, yd, ye, rfl, _⟩ := hcx.inv2
       refine G ?_
       refine ⟨_, _, _, _, i, rfl, rfl, hi', ?_⟩
       refine G ?_
       refine ⟨_, .imm hcc, rfl, ?_⟩
       refine G ?_
       intro b9
       refine G ?_
       refine Cx [] ?_
       rw [hlv1]
       refine ih x.kids[i] (hu.mono (hi1.trans hJ)) hcx' (by omega) fun I2 r hi2 hr2 => ?_
       cases r with
       | false =>
        refine G ?_
        refine L0 ?_
        exact h I2 false ((hi1.trans hJ).trans hi2) (by simp)
       | true =>
        refine G ?_
        refine ⟨x.kids.length - (i + 1), _, _, by omega, rfl, rfl, rfl, rfl, .inl ⟨i + 1, rfl, rfl, rfl, hi', rfl, fun j y hj hy => ?_⟩⟩
        by_cases hji : j < i
        ·exact hd j y hji hy
        ·obtain rfl : j = i := by omega
         simp [hi'] at hy
         subst hy
         exact hr2 rfl
      ·rename_i hge _
       refine G ?_
       refine Cx [] ?_
       refine contentFits_law (hu.mono (hi1.trans hJ)) (hr'.mono (hi1.trans hJ)) hkk fun I2 r hi2 hr2 => ?_
       refine G ?_
       refine L0 ?_
       refine h I2 r ((hi1.trans hJ).trans hi2) fun e => ⟨hkk, hg1, hg2, hg3, by omega, hg4, hg5, hdesc, fun j y hy => hd j y (by have := (List.getElem?_eq_some_iff.1 hy).1; omega) hy, hr2 e⟩
    ·rename_i hk5 _
     refine G ?_
     refine ⟨_, _, _, _, 0, rfl, rfl, by omega, ?_⟩
     refine G ?_
     refine ⟨.int .i64 x.desc[0].kind, .imm (cell_of hcd1 0 rfl), ?_⟩
     refine G ?_
     split
     ·rename_i hk20 _
      refine G ?_
      refine ⟨_, _, _, _, 0, rfl, rfl, by omega, ?_⟩
      refine G ?_
      refine plus0_mk ?_
      refine G ?_
      refine ⟨.slice dd x.desc[0].desc.length de, .imm (cell_of hcd1 5 rfl), ?_⟩
      refine G ?_
      split
      ·rename_i hdd _
       refine G ?_
       refine L0 ?_
       exact h I1 false hi1 (by simp)
      ·rename_i hdd _
       have hdesc : ∀ d, x.desc = [d] → Fit lv d ∧ (d.kind = 5 ∨ d.kind = 20) ∧ d.desc.length = 0 := fun d hd0 => by
        have e0 : x.desc[0] = d := by simp [hd0]
        rw [← e0]
        exact ⟨hr1 rfl, .inr hk20, by omega⟩
       refine G ?_
       refine ⟨⟨[149], [], [], fun m vs cs R J => ∃ i : Nat, vs = [.int .i64 (i : Nat)] ∧ cs = [] ∧ R = [] ∧ i ≤ x.kids.length ∧ m = x.kids.length - i ∧ (∀ (j : Nat) (y : V), j < i → x.kids[j]? = some y → Fit lv y), x.kids.length, _, _, rfl, rfl, ⟨0, rfl, rfl, rfl, by omega, rfl, fun j y hj => by omega⟩, ?_⟩⟩
       rintro m vs cs R J hJ _ _ ⟨i, rfl, rfl, rfl, hi, rfl, hd⟩
       replace hJ : I1.le J := hJ
       have hvk' := hvk.mono (hi1.trans hJ)
       refine G ?_
       split
       ·rename_i hlt _
        have hi' : i < x.kids.length := by omega
        obtain ⟨vb, vo, rfl, _⟩ := hvk'.some (by omega)
        obtain ⟨cx, hcx, hcc⟩ := hvk'.get (i := i) (x := x.kids[i]) (by simp [hi'])
        have hcx' := hcx
        obtain ⟨yb, yc, yd, ye, rfl, _⟩ := hcx.inv2
        refine G ?_
        refine ⟨_, _, _, _, i, rfl, rfl, hi', ?_⟩
        refine G ?_
        refine ⟨_, .imm hcc, rfl, ?_⟩
        refine G ?_
        intro b9
        refine G ?_
        refine Cx [] ?_
        rw [hlv1]
        refine ih x.kids[i] (hu.mono (hi1.trans hJ)) hcx' (by omega) fun I2 r hi2 hr2 => ?_
        cases r with
        | false =>
         refine G ?_
         refine L0 ?_
         exact h I2 false ((hi1.trans hJ).trans hi2) (by simp)
        | true =>
         refine G ?_
         refine ⟨x.kids.length - (i + 1), _, _, by omega, rfl, rfl, rfl, rfl, .inl ⟨i + 1, rfl, rfl, rfl, hi', rfl, fun j y hj hy => ?_⟩⟩
         by_cases hji : j < i
         ·exact hd j y hji hy
         ·obtain rfl : j = i := by omega
          simp [hi'] at hy
          subst hy
          exact hr2 rfl
       ·rename_i hge _
        refine G ?_
        refine Cx [] ?_
        refine contentFits_law (hu.mono (hi1.trans hJ)) (hr'.mono (hi1.trans hJ)) hkk fun I2 r hi2 hr2 => ?_
        refine G ?_
        refine L0 ?_
        refine h I2 r ((hi1.trans hJ).trans hi2) fun e => ⟨hkk, hg1, hg2, hg3, by omega, hg4, hg5, hdesc, fun j y hy => hd j y (by have := (List.getElem?_eq_some_iff.1 hy).1; omega) hy, hr2 e⟩
     ·refine G ?_
      refine L0 ?_
      exact h I1 false hi1 (by simp)
  ·rename_i h1 _
   refine G ?_
   refine ⟨⟨[149], [], [], fun m vs cs R J => ∃ i : Nat, vs = [.int .i64 (i : Nat)] ∧ cs = [] ∧ R = [] ∧ i ≤ x.kids.length ∧ m = x.kids.length - i ∧ (∀ (j : Nat) (y : V), j < i → x.kids[j]? = some y → Fit lv y), x.kids.length, _, _, rfl, rfl, ⟨0, rfl, rfl, rfl, by omega, rfl, fun j y hj => by omega⟩, ?_⟩⟩
   rintro m vs cs R J hJ _ _ ⟨i, rfl, rfl, rfl, hi, rfl, hd⟩
   replace hJ : I.le J := hJ
   have hvk' := hvk.mono ((Imm.le.refl I).trans hJ)
   refine G ?_
   split
   ·rename_i hlt _
    have hi' : i < x.kids.length := by omega
    obtain ⟨vb, vo, rfl, _⟩ := hvk'.some (by omega)
    obtain ⟨cx, hcx, hcc⟩ := hvk'.get (i := i) (x := x.kids[i]) (by simp [hi'])
    have hcx' := hcx
    obtain ⟨yb, yc, yd, ye, rfl, _⟩ := hcx.inv2
    refine G ?_
    refine ⟨_, _, _, _, i, rfl, rfl, hi', ?_⟩
    refine G ?_
    refine ⟨_, .imm hcc, rfl, ?_⟩
    refine G ?_
    intro b9
    refine G ?_
    refine Cx [] ?_
    rw [hlv1]
    refine ih x.kids[i] (hu.mono ((Imm.le.refl I).trans hJ)) hcx' (by omega) fun I2 r hi2 hr2 => ?_
    cases r with
    | false =>
     refine G ?_
     refine L0 ?_
     exact h I2 false (((Imm.le.refl I).trans hJ).trans hi2) (by simp)
    | true =>
     refine G ?_
     refine ⟨x.kids.length - (i + 1), _, _, by omega, rfl, rfl, rfl, rfl, .inl ⟨i + 1, rfl, rfl, rfl, hi', rfl, fun j y hj hy => ?_⟩⟩
     by_cases hji : j < i
     ·exact hd j y hji hy
     ·obtain rfl : j = i := by omega
      simp [hi'] at hy
      subst hy
      exact hr2 rfl
   ·rename_i hge _
    refine G ?_
    refine Cx [] ?_
    refine contentFits_law (hu.mono ((Imm.le.refl I).trans hJ)) (hr'.mono ((Imm.le.refl I).trans hJ)) hkk fun I2 r hi2 hr2 => ?_
    refine G ?_
    refine L0 ?_
    refine h I2 r (((Imm.le.refl I).trans hJ).trans hi2) fun e => ⟨hkk, hg1, hg2, hg3, by omega, hg4, hg5, (fun d hd0 => by rw [hd0] at h1; simp at h1), fun j y hy => hd j y (by have := (List.getElem?_eq_some_iff.1 hy).1; omega) hy, hr2 e⟩
section laws
variable {I : Imm} {Q : Qt}
theorem ValueFits_law {x : V} {cs : List Value} {lv : Nat} (hu : Utf I) (hr : VRep I x cs) (hlv : lv < 100) (h : ∀ I' (r : Bool), I.le I' → (r = true → Fit lv x ∧ x.cnt ≤ 2000) → Q (.bool r) [] [] I') : WP Tryz.prog 35 #[.agg cs.toArray, .int .i64 (lv : Nat)] [] [] I Q := by
 have hr' := hr
 obtain ⟨kb, kc, db, dc, rfl, _⟩ := hr.inv2
 refine lw K35 [] [.agg #[.int .i64 x.kind, .int .u64 (x.num : Nat), strV x.text, .slice kb x.kids.length kc, .int .i64 x.of, .slice db x.desc.length dc], .int .i64 (lv : Nat)] Tryz.func35 ?_
 refine G ?_
 intro b2
 refine G ?_
 intro b5
 refine G ?_
 refine Cx [5] ?_
 refine fewValues_law x.sz x (Nat.le_refl _) hr' (by omega) (fun r L hL hrl => ?_) (by omega)
 cases r with
 | false =>
  refine G ?_
  refine L0 ?_
  exact h I false (.refl I) (by simp)
 | true =>
  obtain ⟨e1, e2⟩ := hrl rfl
  refine G ?_
  refine Cx [] ?_
  refine valueFits_law lv x hu hr' hlv fun I1 r hi1 hr1 => ?_
  refine G ?_
  refine L0 ?_
  exact h I1 r hi1 fun e => ⟨hr1 e, by omega⟩
theorem Fits_law {c : C} {cs : List Value} (hu : Utf I) (hc : CRep I c cs) (h : ∀ I' (r : Bool), I.le I' → (r = true → Fit 8 (whole c) ∧ (whole c).cnt ≤ 300) → Q (.bool r) [] [] I') : WP Tryz.prog 11 #[.agg cs.toArray] [] [] I Q := by
 have hc' := hc
 obtain ⟨hcode, fv, rfl, hf⟩ := hc
 obtain ⟨base, cap, rfl⟩ := hf.form
 refine lw K11 [] [.agg #[.int .u64 (c.code : Nat), .slice base c.fields.length cap]] Tryz.func11 ?_
 refine G ?_
 intro b1
 refine G ?_
 refine Cx [] ?_
 refine Whole_law hc' fun I1 cs1 hi1 hr1 => ?_
 have hr1' := hr1
 obtain ⟨kb, kc, db, dc, rfl, _⟩ := hr1.inv2
 refine G ?_
 intro b3
 refine G ?_
 refine Cx [] ?_
 refine ValueFits_law (lv := 8) (hu.mono hi1) hr1' (by omega) fun I2 r hi2 hr2 => ?_
 cases r with
 | false =>
  refine G ?_
  refine L0 ?_
  exact h I2 false (hi1.trans hi2) (by simp)
 | true =>
  obtain ⟨e1, e2⟩ := hr2 rfl
  refine G ?_
  refine Cx [] ?_
  refine Values_law _ (whole c) (Nat.le_refl _) (hr1'.mono hi2) e2 fun I3 hi3 => ?_
  refine G ?_
  split
  ·rename_i hle _
   refine G ?_
   refine L0 ?_
   exact h I3 true ((hi1.trans hi2).trans hi3) fun _ => ⟨e1, by omega⟩
  ·refine G ?_
   refine L0 ?_
   exact h I3 false ((hi1.trans hi2).trans hi3) (by simp)
end laws
end Go.Proofs.YtcfglgelckjpmaaGreatDoor
