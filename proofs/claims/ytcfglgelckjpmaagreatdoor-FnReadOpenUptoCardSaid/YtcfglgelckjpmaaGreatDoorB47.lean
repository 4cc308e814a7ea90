/- Own machinery, and laws of the functions that the statement reaches (part 47). -/
import Derived.Test.YtcfglgelckjpmaaGreatDoorB32
import Derived.Test.YtcfglgelckjpmaaGreatDoorB41
import Derived.Test.YtcfglgelckjpmaaGreatDoorB42
import Derived.Test.YtcfglgelckjpmaaGreatDoorB45
set_option linter.all false
namespace Go.Proofs.YtcfglgelckjpmaaGreatDoor
set_option maxRecDepth 100000
set_option maxHeartbeats 8000000
theorem OpenRep.mono {I J : Imm} (hi : I.le J) {o : OpenD} {cs : List Value} (h : OpenRep I o cs) : OpenRep J o cs := by
 obtain ⟨v1, v2, v3, v4, v5, e, h1, h2, h3, h4, h5, r1, r2, r3, r4, r5⟩ := h
 exact ⟨v1, v2, v3, v4, v5, e, h1, h2, h3, h4, h5, r1.mono hi fun _ _ h => h, r2.mono hi fun _ _ h => h, r3.mono hi fun _ _ h => h, r4.mono hi fun _ _ h => h, r5.mono hi⟩
structure OpenBack (o o' : OpenD) : Prop where
 container : o'.container = o.container
 host : o'.host = o.host
 frame : o'.maxFrame = o.maxFrame
 chan : o'.channelMax = o.channelMax
 idle : o'.idle = o.idle / 1000000 * 1000000
 s1 : o'.outLoc = o.outLoc
 s2 : o'.inLoc = o.inLoc
 s3 : o'.offered = o.offered
 s4 : o'.desired = o.desired
 props : InfoBack 20 o.props o'.props
section od
variable {I : Imm} {Q : Qt}
theorem info71_law {kind : Int} {l : List V} {mv : Value} (hu : Utf I) (hkr : -9223372036854775808 ≤ kind ∧ kind < 9223372036854775808) (hm : MapRd l) (hv : InfoV I l mv)
  (h : ∀ I' l' v', I.le I' → InfoBack kind l l' → VsRep I' l' v' → Q (.tuple #[v', .bool true]) [] [] I') : WP Tryz.prog 71 #[.int .i64 kind, mv] [] [] I Q := by
 rcases hv with ⟨rfl, rfl⟩ | ⟨r, es, rfl, hmi⟩
 ·exact textPairs_nil_71 (h I [] _ (.refl I) ⟨[], .refl _, rfl, by simp⟩ (.nil I))
 ·by_cases hne : l = []
  ·subst hne
   refine textPairs_law_71 (ps := []) hu hkr ⟨hmi.at', hmi.born, hmi.plen, by simp, by simp, by simp, by decide, by simp⟩ (by simp) fun I1 ps' ks' v' hi1 hp hb hr => ?_
   exact h I1 ks' v' hi1 ⟨ps', hp, hb⟩ hr
  ·refine textPairs_law_71 hu hkr (hmi.txt (hm.txt hne) hm.small) hm.vd fun I1 ps' ks' v' hi1 hp hb hr => ?_
   exact h I1 ks' v' hi1 ⟨ps', hp, hb⟩ hr
theorem syms_len {l : List (List UInt8)} (h : SymsOk l) : ∀ s ∈ l, s.length < 1099511627776 := fun s hs => by
 have := scal_text (h s hs).1
 omega
theorem ofOpen_law {o : OpenD} {b : Nat} {cs : List Value} (hu : Utf I) (ho : OpenRd o) (hS : openS o 10 cs I) (h : ∀ I' o' cs', I.le I' → OpenBack o o' → OpenRep I' o' cs' → Q (.tuple #[.agg cs'.toArray, .bool true]) [cs] [] I') :
  WP Tryz.prog 40 #[pt b 0] [(b, cs)] [] I Q := by
 obtain ⟨x5, x6, x7, x8, mv, rfl, q5, q6, q7, q8, q9⟩ := open_cells hS
 obtain ⟨b5, c5, rfl⟩ := Row.form q5
 obtain ⟨b6, c6, rfl⟩ := Row.form q6
 obtain ⟨b7, c7, rfl⟩ := Row.form q7
 obtain ⟨b8, c8, rfl⟩ := Row.form q8
 have hcont := scal_text ho.container
 have hhost := scal_text ho.host
 have hidle := ho.idle
 refine lw K40 [(0,1000)] _ Tryz.func40 ?_
 refine G ?_
 intro b2
 refine G ?_
 refine Cx [] ?_
 refine info71_law hu (by omega) ho.props q9 fun I1 l' v' hi1 hb hr => ?_
 have hr' := hr
 obtain ⟨xb, xc, rfl⟩ := hr.form
 refine G ?_
 refine ⟨[0,1,2,3,4,5,6,7,8,9,10,11,12,13,14,15,16,17,18,19,20,21,22,23,25,26,27,28,30,31,32,33,35,36,37,38,40,42,24,29,34,39,41,43,44], [], [], [], by kernel_rfl, ?_⟩
 refine G ?_
 refine .inr ?_
 refine G ?_
 refine symbolTexts_law (SymsAt.mono hi1 q5) (syms_len ho.s1) fun I2 y5 hi2 r5 => ?_
 obtain ⟨e5, f5, rfl⟩ := Row.form r5
 refine G ?_
 refine .inr ?_
 refine G ?_
 refine symbolTexts_law (SymsAt.mono (hi1.trans hi2) q6) (syms_len ho.s2) fun I3 y6 hi3 r6 => ?_
 obtain ⟨e6, f6, rfl⟩ := Row.form r6
 refine G ?_
 refine .inr ?_
 refine G ?_
 refine symbolTexts_law (SymsAt.mono (hi1.trans (hi2.trans hi3)) q7) (syms_len ho.s3) fun I4 y7 hi4 r7 => ?_
 obtain ⟨e7, f7, rfl⟩ := Row.form r7
 refine G ?_
 refine .inr ?_
 refine G ?_
 refine symbolTexts_law (SymsAt.mono (hi1.trans (hi2.trans (hi3.trans hi4))) q8) (syms_len ho.s4) fun I5 y8 hi5 r8 => ?_
 obtain ⟨e8, f8, rfl⟩ := Row.form r8
 refine G ?_
 refine L0 ?_
 refine h I5 ⟨o.container, o.host, o.maxFrame, o.channelMax, o.idle / 1000000 * 1000000, o.outLoc, o.inLoc, o.offered, o.desired, l'⟩ _ (hi1.trans (hi2.trans (hi3.trans (hi4.trans hi5)))) ⟨rfl, rfl, rfl, rfl, rfl, rfl, rfl, rfl, rfl, hb⟩ ?_
 refine ⟨_, _, _, _, _, ?_, by simp only; omega, by simp only; omega, ho.frame, ho.chan, by simp only; omega, r5.mono (hi3.trans (hi4.trans hi5)) fun _ _ h => h, r6.mono (hi4.trans hi5) fun _ _ h => h, r7.mono hi5 fun _ _ h => h, r8, hr'.mono (hi2.trans (hi3.trans (hi4.trans hi5)))⟩
 rw [Int.natCast_mul]; rfl
theorem ReadOpen_law {o : OpenD} {kids : List V} {e rest : List UInt8} {sv : Value} (hu : Utf I) (ho : OpenRd o) (hvar : Variant (openOf o) kids) (he : Enc (.mk 21 0 [] kids 0 [vNum 5 16]) e) (hb : BytesAt I (e ++ rest) sv) (hlen : (e ++ rest).length < 1099511627776)
  (h : ∀ I' o' cs' rv, I.le I' → OpenBack o o' → OpenRep I' o' cs' → BytesAt I' rest rv → Q (.tuple #[.agg cs'.toArray, rv, .bool true]) [] [] I') : WP Tryz.prog 14 #[sv] [] [] I Q := by
 obtain ⟨base, cap, rfl⟩ := bytes_form hb
 refine law_d (kp := [0,2,3,4,5,6,14,22]) [] (args := [.slice base (e ++ rest).length cap]) Tryz.func14 (by kernel_rfl) (by kernel_rfl) trivial rfl rfl rfl rfl (fun a w => enters_of Tryz.func38 (by kernel_rfl) rfl a w) noValue_38 ?_
 refine G ?_
 intro b2
 refine G ?_
 intro b3
 refine G ?_
 intro b4
 refine G ?_
 refine Cx [] ?_
 refine copied_law hb hlen fun I1 sv1 hi1 hb1 => ?_
 refine G ?_
 refine Cx [] ?_
 refine New_law hb1 fun b => ?_
 refine G ?_
 intro b10
 refine G ?_
 refine Cx [10] ?_ [9]
 refine WP.blk ?_
 refine open_law (off := 0) ho hvar ⟨hb1, hlen⟩ he rfl fun I2 cs2 hi2 hS hr => ?_
 have hS' := hS
 obtain ⟨x5, x6, x7, x8, mv, rfl, _⟩ := open_cells hS
 refine G ?_
 refine Cx [10] ?_
 refine ofOpen_law (hu.mono (hi1.trans hi2)) ho hS' fun I3 o' cs' hi3 hob hrep => ?_
 have hrep' := hrep
 obtain ⟨v1, v2, v3, v4, v5, rfl, _, _, _, _, _, r1, r2, r3, r4, r5⟩ := hrep
 obtain ⟨_, _, rfl⟩ := Row.form r1
 obtain ⟨_, _, rfl⟩ := Row.form r2
 obtain ⟨_, _, rfl⟩ := Row.form r3
 obtain ⟨_, _, rfl⟩ := Row.form r4
 obtain ⟨_, _, rfl⟩ := r5.form
 refine G ?_
 refine ⟨[0,1,2,3,4,5,6], [], [13], [27], by kernel_rfl, ?_⟩
 refine G ?_
 refine .inr ?_
 refine G ?_
 refine WP.blk ?_
 refine Bytes_law (off := 0 + e.length) ⟨bytes_mono (hi2.trans hi3) hb1, hlen⟩ (by simp) fun rv hrv => ?_
 rw [hr] at hrv
 obtain ⟨rb, rc, rfl⟩ := bytes_form hrv
 refine G ?_
 refine ⟨fun y J => BytesAt J rest y, ?_, ⟨_, I3, .refl I3, hrv⟩, fun y J hJ hy => ?_⟩
 ·refine copied_law hrv (by simp at hlen; omega) fun I4 y hi4 hy => ⟨rfl, hy⟩
 obtain ⟨yb, yc, rfl⟩ := bytes_form hy
 refine G ?_
 refine L0 ?_
 exact h J o' _ _ (hi1.trans (hi2.trans (hi3.trans hJ))) hob (hrep'.mono hJ) hy
end od
theorem fine_syms {l : List (List UInt8)} (hl : l ≠ []) (h : SymsOk l) : Fine (.mk 23 0 [] (symsV l) 0 []) := by
 have hpos : 0 < (symsV l).length := by
  simp only [symsV, List.length_map]
  exact List.length_pos_iff.2 hl
 have hel : ∀ (i : Nat) (y : V), (symsV l)[i]? = some y → ∃ s, s ∈ l ∧ y = .mk 20 0 s [] 0 [] := fun i y hy => by
  simp only [symsV, List.getElem?_map, Option.map_eq_some_iff] at hy
  obtain ⟨s, hs, rfl⟩ := hy
  exact ⟨s, List.mem_of_getElem? hs, rfl⟩
 have hel2 : ∀ (i : Nat) (y : V), (symsV l)[i]? = some y → ∃ n t o, y = .mk 20 n t [] o [] ∧ Scal 20 n t := fun i y hy => by
  obtain ⟨s, hs, rfl⟩ := hel i y hy
  exact ⟨_, _, _, rfl, (h s hs).1⟩
 have hk : arrK 20 := .inr ⟨by decide, by decide⟩
 refine ⟨.arr hk hpos hel2, .arr hk hpos hel2 fun _ i y hy => ?_, .mk rfl fun i y hy => ?_, .arr hk hpos hel2⟩
 ·obtain ⟨s, hs, rfl⟩ := hel i y hy
  exact (h s hs).2
 ·obtain ⟨s, hs, rfl⟩ := hel i y hy
  exact .mk rfl (by simp [V.kids])
theorem back_syms (l : List (List UInt8)) : Back (.mk 23 0 [] (symsV l) 0 []) (.mk 23 0 [] (symsV l) 0 []) :=
 .arr rfl fun i x y hx hy => by
  rw [hx] at hy; cases hy
  simp only [symsV, List.getElem?_map, Option.map_eq_some_iff] at hx
  obtain ⟨s, hs, rfl⟩ := hx
  rfl
theorem symbolsV_ne {l : List (List UInt8)} (hl : l ≠ []) : symbolsV l = (.mk 23 0 [] (symsV l) 0 [], vNull) := by unfold symbolsV; rw [if_neg hl]; rfl
theorem sf_syms {l : List (List UInt8)} (h : SymsOk l) : SfP vNull (symbolsV l).1 (symbolsV l).1 := by
 by_cases hl : l = []
 ·rw [hl]; exact sf_null
 ·rw [symbolsV_ne hl]
  exact sf_backZ (fine_syms hl h) (back_syms l) (by simp [V.kind]) (by simp [V.kind])
theorem pv_syms {l : List (List UInt8)} (h : SymsOk l) {y : V} (hy : FieldVar (symbolsV l) y) : Pv y := by
 rcases hy.syms with ⟨rfl, _⟩ | ⟨hl, _, hins⟩
 ·rw [hy.plain rfl (by simp [symbolsV, vNull, V.kind])]; exact .sc .null
 ·rcases hins with rfl | ⟨_, z, hz, _, rfl⟩
  ·exact (fine_syms hl h).pv
  ·obtain ⟨s, rfl⟩ : ∃ s, l = [s] := by
    match l, hz with
    | [s], _ => exact ⟨s, rfl⟩
    | [], hz => simp [V.kids, symsV] at hz
    | a :: b :: t, hz => simp [V.kids, symsV] at hz
   simp only [V.kids, symsV, List.map_cons, List.map_nil, List.cons.injEq, and_true] at hz
   subst hz
   exact .sc (h s (by simp)).1
structure OpenOk (o : OpenD) : Prop where
 rd : OpenRd o
 fine : o.props ≠ [] → Fine (.mk 22 0 [] o.props 0 [])
 idle : o.idle % 1000000 = 0
theorem open_pv {o : OpenD} (h : OpenOk o) : ∀ (j : Nat) (f : V × V) (y : V), (openOf o).fields[j]? = some f → FieldVar f y → Pv y := fun j f y hj hy => by
 match j, hj with
 | 0, hj =>
  cases hj
  rw [hy.plain rfl (by simp [V.kind])]
  exact .sc h.rd.container
 | 1, hj =>
  cases hj
  rw [hy.plain (by unfold textFieldV; split <;> rfl) (by unfold textFieldV; split <;> simp [V.kind, vNull])]
  exact pv_text h.rd.host
 | 2, hj => cases hj; exact pv_num (.uint h.rd.frame) (by decide) hy
 | 3, hj => cases hj; exact pv_num (.ushort h.rd.chan) (by decide) hy
 | 4, hj => cases hj; exact pv_num (.uint h.rd.idle) (by decide) hy
 | 5, hj => cases hj; exact pv_syms h.rd.s1 hy
 | 6, hj => cases hj; exact pv_syms h.rd.s2 hy
 | 7, hj => cases hj; exact pv_syms h.rd.s3 hy
 | 8, hj => cases hj; exact pv_syms h.rd.s4 hy
 | 9, hj =>
  cases hj
  rw [hy.plain (by unfold mapFieldV; split <;> rfl) (by unfold mapFieldV; split <;> simp [V.kind, vNull])]
  exact pv_map h.fine
 | j + 10, hj => simp [openOf] at hj
theorem open_same {o o' : OpenD} (h : OpenOk o) (hb : OpenBack o o') : ∀ (i : Nat) (f : V × V), (openOf o).fields[i]? = some f → SfP f.2 f.1 (((openOf o').fields.map Prod.fst).getD i vNull) := fun i f hi => by
 match i, hi with
 | 0, hi =>
  cases hi
  show SfP vNull (.mk 19 0 o.container [] 0 []) (.mk 19 0 o'.container [] 0 [])
  rw [hb.container]
  exact sf_back (fine_sc h.rd.container) (.sc rfl) (by simp [V.kind]) (by simp [V.kind])
 | 1, hi =>
  cases hi
  show SfP (textFieldV 19 o.host).2 (textFieldV 19 o.host).1 (textFieldV 19 o'.host).1
  rw [hb.host, show (textFieldV 19 o.host).2 = vNull by unfold textFieldV; split <;> rfl]
  exact sf_text h.rd.host (by decide)
 | 2, hi =>
  cases hi
  show SfP _ (vNum 4 o.maxFrame) (vNum 4 o'.maxFrame)
  rw [hb.frame]
  exact sf_num (.uint h.rd.frame) (by decide)
 | 3, hi =>
  cases hi
  show SfP _ (vNum 3 o.channelMax) (vNum 3 o'.channelMax)
  rw [hb.chan]
  exact sf_num (.ushort h.rd.chan) (by decide)
 | 4, hi =>
  cases hi
  show SfP _ (vNum 4 (o.idle / 1000000)) (vNum 4 (o'.idle / 1000000))
  rw [hb.idle, Nat.mul_div_cancel _ (by decide)]
  exact sf_num (.uint h.rd.idle) (by decide)
 | 5, hi =>
  cases hi
  show SfP (symbolsV o.outLoc).2 (symbolsV o.outLoc).1 (symbolsV o'.outLoc).1
  rw [hb.s1, show (symbolsV o.outLoc).2 = vNull by unfold symbolsV; split <;> rfl]
  exact sf_syms h.rd.s1
 | 6, hi =>
  cases hi
  show SfP (symbolsV o.inLoc).2 (symbolsV o.inLoc).1 (symbolsV o'.inLoc).1
  rw [hb.s2, show (symbolsV o.inLoc).2 = vNull by unfold symbolsV; split <;> rfl]
  exact sf_syms h.rd.s2
 | 7, hi =>
  cases hi
  show SfP (symbolsV o.offered).2 (symbolsV o.offered).1 (symbolsV o'.offered).1
  rw [hb.s3, show (symbolsV o.offered).2 = vNull by unfold symbolsV; split <;> rfl]
  exact sf_syms h.rd.s3
 | 8, hi =>
  cases hi
  show SfP (symbolsV o.desired).2 (symbolsV o.desired).1 (symbolsV o'.desired).1
  rw [hb.s4, show (symbolsV o.desired).2 = vNull by unfold symbolsV; split <;> rfl]
  exact sf_syms h.rd.s4
 | 9, hi =>
  cases hi
  show SfP (mapFieldV o.props).2 (mapFieldV o.props).1 (mapFieldV o'.props).1
  rw [show (mapFieldV o.props).2 = vNull by unfold mapFieldV; split <;> rfl]
  exact sf_map (.inr rfl) hb.props h.rd.props h.fine
 | i + 10, hi => simp [openOf] at hi
structure OpenAsked (o : OpenD) : Prop where
 idle : o.idle % 1000000 = 0 ∧ o.idle / 1000000 < 4294967296
 f1 : FullL o.outLoc
 f2 : FullL o.inLoc
 f3 : FullL o.offered
 f4 : FullL o.desired
 props : MapAsked o.props 20
theorem syms_ok {l : List (List UInt8)} {lv : Nat} (hf : Fit (lv + 2) (symbolsV l).1) (hn : FullL l) : SymsOk l := fun s hs => by
 refine ⟨?_, hn s hs⟩
 have hl : l ≠ [] := by rintro rfl; simp at hs
 rw [symbolsV_ne hl] at hf
 obtain ⟨i, hi⟩ := List.mem_iff_getElem?.1 hs
 have hk : Fit (lv + 1) (.mk 20 0 s [] 0 []) := fit_kid hf (i := i) (by simp only [V.kids, symsV, List.getElem?_map, hi]; rfl)
 exact scal_of hk (by simp [V.num]) (by simp [V.kind]) (by simp [V.kind])
theorem text_ok {k : Int} {t : List UInt8} {lv : Nat} (hf : Fit (lv + 1) (textFieldV k t).1) (hk : k = 19 ∨ k = 20) : Scal k 0 t := by
 by_cases hd : t = []
 ·rw [hd]; rcases hk with rfl | rfl
  ·exact .str (by decide) (by decide)
  ·exact .sym (by decide) (by decide)
 ·unfold textFieldV at hf
  rw [if_neg hd] at hf
  rcases hk with rfl | rfl <;> exact scal_of hf (by simp [V.num]) (by simp [V.kind]) (by simp [V.kind])
theorem open_ok {I : Imm} {o : OpenD} {cs : List Value} {lv : Nat} (ha : OpenAsked o) (hf : Fit (lv + 3) (whole (openOf o))) (hr : OpenRep I o cs) : OpenOk o := by
 obtain ⟨v1, v2, v3, v4, v5, _, _, _, h3, h4, h5, _, _, _, _, r5⟩ := hr
 obtain ⟨m1, m2⟩ := map_ok (.inr rfl) ha.props r5
 have k0 : Fit (lv + 2) (.mk 19 0 o.container [] 0 []) := fit_kid hf (i := 0) rfl
 have k1 : Fit (lv + 2) (textFieldV 19 o.host).1 := fit_kid hf (i := 1) rfl
 have k5 : Fit (lv + 2) (symbolsV o.outLoc).1 := fit_kid hf (i := 5) rfl
 have k6 : Fit (lv + 2) (symbolsV o.inLoc).1 := fit_kid hf (i := 6) rfl
 have k7 : Fit (lv + 2) (symbolsV o.offered).1 := fit_kid hf (i := 7) rfl
 have k8 : Fit (lv + 2) (symbolsV o.desired).1 := fit_kid hf (i := 8) rfl
 exact ⟨⟨scal_of k0 (by simp [V.num]) (by simp [V.kind]) (by simp [V.kind]), text_ok k1 (.inl rfl), syms_ok k5 ha.f1, syms_ok k6 ha.f2, syms_ok k7 ha.f3, syms_ok k8 ha.f4, m1, h3, h4, ha.idle.2⟩, m2, ha.idle.1⟩
def openSample : OpenD := ⟨[97], [], 512, 1, 0, [], [], [], [], []⟩
theorem open_sample_ok : OpenOk openSample :=
 ⟨⟨.str (by decide) (by decide), .str (by decide) (by decide), (fun _ h => by cases h), (fun _ h => by cases h), (fun _ h => by cases h), (fun _ h => by cases h), ⟨fun h => absurd rfl h, by simp [openSample], by simp [openSample], by simp [openSample]⟩, by decide, by decide, by decide⟩, fun h => absurd rfl h, by decide⟩
def OpenArg (I : Imm) (o : OpenD) (z : Int) (cs : List Value) : Prop := ∃ v1 v2 v3 v4 v5, cs = [strV o.container, strV o.host, .int .u32 (o.maxFrame : Nat), .int .u16 (o.channelMax : Nat), .int .i64 z, v1, v2, v3, v4, v5] ∧
 o.container.length < 1099511627776 ∧ o.host.length < 1099511627776 ∧ o.maxFrame < 4294967296 ∧ o.channelMax < 65536 ∧ (-9223372036854775808 ≤ z ∧ z < 9223372036854775808) ∧
 Row 1 StrRep I o.outLoc v1 ∧ Row 1 StrRep I o.inLoc v2 ∧ Row 1 StrRep I o.offered v3 ∧ Row 1 StrRep I o.desired v4 ∧ VsRep I o.props v5
theorem OpenArg.mono {I J : Imm} (hi : I.le J) {o : OpenD} {z : Int} {cs : List Value} (h : OpenArg I o z cs) : OpenArg J o z cs := by
 obtain ⟨v1, v2, v3, v4, v5, e, h1, h2, h3, h4, h5, r1, r2, r3, r4, r5⟩ := h
 exact ⟨v1, v2, v3, v4, v5, e, h1, h2, h3, h4, h5, r1.mono hi fun _ _ h => h, r2.mono hi fun _ _ h => h, r3.mono hi fun _ _ h => h, r4.mono hi fun _ _ h => h, r5.mono hi⟩
theorem OpenArg.rep {I : Imm} {o : OpenD} {z : Int} {cs : List Value} (h : OpenArg I o z cs) (hz : 0 ≤ z) (hi : o.idle = z.toNat) : OpenRep I o cs := by
 obtain ⟨v1, v2, v3, v4, v5, e, h1, h2, h3, h4, h5, r⟩ := h
 have hzi : ((o.idle : Nat) : Int) = z := by omega
 exact ⟨v1, v2, v3, v4, v5, by rw [hzi]; exact e, h1, h2, h3, h4, by omega, r⟩
section oask
variable {I : Imm} {Q : Qt}
theorem zzFits8_law {o : OpenD} {z : Int} {cs : List Value} (ho : OpenArg I o z cs) (h : ∀ r : Bool, Q (.bool r) [] [] I) : WP Tryz.prog 13 #[.agg cs.toArray] [] [] I Q := by
 obtain ⟨v1, v2, v3, v4, v5, rfl, h1, h2, h3, h4, h5, r1, r2, r3, r4, r5⟩ := ho
 obtain ⟨x1, y1, rfl⟩ := Row.form r1
 obtain ⟨x2, y2, rfl⟩ := Row.form r2
 obtain ⟨x3, y3, rfl⟩ := Row.form r3
 obtain ⟨x4, y4, rfl⟩ := Row.form r4
 obtain ⟨x5, y5, rfl⟩ := r5.form
 have hl5 := r5.1
 refine lw K13 [] [.agg #[strV o.container, strV o.host, .int .u32 (o.maxFrame : Nat), .int .u16 (o.channelMax : Nat), .int .i64 z, .slice x1 o.outLoc.length y1, .slice x2 o.inLoc.length y2, .slice x3 o.offered.length y3, .slice x4 o.desired.length y4, .slice x5 o.props.length y5]] Tryz.func13 ?_
 refine G ?_
 intro b1
 refine G ?_
 split
 ·refine G ?_
  refine L0 ?_
  exact h false
 refine G ?_
 split
 ·refine G ?_
  refine L0 ?_
  exact h false
 refine G ?_
 refine Cx [] ?_
 refine zzFits2_law r1 fun r => ?_
 cases r with
 | false =>
  refine G ?_
  refine L0 ?_
  exact h false
 | true =>
  refine G ?_
  refine Cx [] ?_
  refine zzFits2_law r2 fun r => ?_
  cases r with
  | false =>
   refine G ?_
   refine L0 ?_
   exact h false
  | true =>
   refine G ?_
   refine Cx [] ?_
   refine zzFits2_law r3 fun r => ?_
   cases r with
   | false =>
    refine G ?_
    refine L0 ?_
    exact h false
   | true =>
    refine G ?_
    refine Cx [] ?_
    refine zzFits2_law r4 fun r => ?_
    cases r with
    | false =>
     refine G ?_
     refine L0 ?_
     exact h false
    | true =>
     refine G ?_
     split
     ·refine G ?_
      refine L0 ?_
      exact h false
     refine G ?_
     refine L0 ?_
     exact h true
theorem askedOpen_law {o : OpenD} {z : Int} {cs : List Value} (hu : Utf I) (ho : OpenArg I o z cs) (hi : 0 ≤ z → o.idle = z.toNat) (h : ∀ I' (r : Bool), I.le I' → (r = true → 0 ≤ z ∧ OpenAsked o) → Q (.bool r) [] [] I') : WP Tryz.prog 16 #[.agg cs.toArray] [] [] I Q := by
 obtain ⟨v1, v2, v3, v4, v5, rfl, h1, h2, h3, h4, h5, r1, r2, r3, r4, r5⟩ := ho
 obtain ⟨x1, y1, rfl⟩ := Row.form r1
 obtain ⟨x2, y2, rfl⟩ := Row.form r2
 obtain ⟨x3, y3, rfl⟩ := Row.form r3
 obtain ⟨x4, y4, rfl⟩ := Row.form r4
 have r5' := r5
 obtain ⟨x5, y5, rfl⟩ := r5.form
 refine lw K16 [] [.agg #[strV o.container, strV o.host, .int .u32 (o.maxFrame : Nat), .int .u16 (o.channelMax : Nat), .int .i64 z, .slice x1 o.outLoc.length y1, .slice x2 o.inLoc.length y2, .slice x3 o.offered.length y3, .slice x4 o.desired.length y4, .slice x5 o.props.length y5]] Tryz.func16 ?_
 refine G ?_
 intro b1
 refine G ?_
 split
 case h_2 =>
  refine G ?_
  refine L0 ?_
  exact h I false (.refl I) (by simp)
 refine G ?_
 split
 case h_2 =>
  refine G ?_
  refine L0 ?_
  exact h I false (.refl I) (by simp)
 refine G ?_
 refine Cx [] ?_
 refine whole_test h5 fun r hr => ?_
 cases r with
 | false =>
  refine G ?_
  refine L0 ?_
  exact h I false (.refl I) (by simp)
 | true =>
  obtain ⟨i0, i1, i2⟩ := hr rfl
  refine G ?_
  refine .inl fun bk I1 hi1 hc => ?_
  refine G ?_
  refine Cx [] ?_
  refine full_law (ls := [o.outLoc, o.inLoc, o.offered, o.desired]) (row_lit (css := [[_], [_], [_], [_]]) hc rfl (show 4 < 1099511627776 by decide) rfl
   (rowsC ⟨⟨_, rfl, r1.mono hi1 fun _ _ h => h⟩, rfl⟩ (rowsC ⟨⟨_, rfl, r2.mono hi1 fun _ _ h => h⟩, rfl⟩ (rowsC ⟨⟨_, rfl, r3.mono hi1 fun _ _ h => h⟩, rfl⟩ (rowsC ⟨⟨_, rfl, r4.mono hi1 fun _ _ h => h⟩, rfl⟩ rows0))))) fun r hr2 => ?_
  cases r with
  | false =>
   refine G ?_
   refine L0 ?_
   exact h I1 false hi1 (by simp)
  | true =>
   have hfl := hr2 rfl
   refine G ?_
   refine .inl fun bm I2 hi2 hc2 => ?_
   refine G ?_
   refine Cx [] ?_
   refine mapAsked_law (k := 20) (hu.mono (hi1.trans hi2)) (r5'.mono (hi1.trans hi2)) ⟨rfl, Nat.le_refl _, rfl, hc2⟩ fun I3 r hi3 hr3 => ?_
   refine G ?_
   refine L0 ?_
   refine h I3 r (hi1.trans (hi2.trans hi3)) fun e => ⟨i0, ⟨?_, ?_⟩, hfl _ (by simp), hfl _ (by simp), hfl _ (by simp), hfl _ (by simp), hr3 e⟩
   ·have := hi i0
    have e1 : z.tmod 1000000 = ((o.idle % 1000000 : Nat) : Int) := by
     rw [show z = ((o.idle : Nat) : Int) by omega]; rfl
    omega
   ·have := hi i0
    have e1 : z.tdiv 1000000 = ((o.idle / 1000000 : Nat) : Int) := by
     rw [show z = ((o.idle : Nat) : Int) by omega]; rfl
    omega
end oask
theorem openRep_form {I : Imm} {o : OpenD} {cs : List Value} (h : OpenRep I o cs) : ∃ x1 y1 x2 y2 x3 y3 x4 y4 x5 y5, cs = [strV o.container, strV o.host, .int .u32 (o.maxFrame : Nat), .int .u16 (o.channelMax : Nat), .int .i64 (o.idle : Nat), .slice x1 o.outLoc.length y1, .slice x2 o.inLoc.length y2, .slice x3 o.offered.length y3, .slice x4 o.desired.length y4, .slice x5 o.props.length y5] := by
 obtain ⟨v1, v2, v3, v4, v5, e, h1, h2, h3, h4, h5, r1, r2, r3, r4, r5⟩ := h
 obtain ⟨x1, y1, rfl⟩ := Row.form r1
 obtain ⟨x2, y2, rfl⟩ := Row.form r2
 obtain ⟨x3, y3, rfl⟩ := Row.form r3
 obtain ⟨x4, y4, rfl⟩ := Row.form r4
 obtain ⟨x5, y5, rfl⟩ := r5.form
 exact ⟨_, _, _, _, _, _, _, _, _, _, e⟩
theorem openArg_form {I : Imm} {o : OpenD} {z : Int} {cs : List Value} (h : OpenArg I o z cs) : ∃ x1 y1 x2 y2 x3 y3 x4 y4 x5 y5, cs = [strV o.container, strV o.host, .int .u32 (o.maxFrame : Nat), .int .u16 (o.channelMax : Nat), .int .i64 z, .slice x1 o.outLoc.length y1, .slice x2 o.inLoc.length y2, .slice x3 o.offered.length y3, .slice x4 o.desired.length y4, .slice x5 o.props.length y5] := by
 obtain ⟨v1, v2, v3, v4, v5, e, h1, h2, h3, h4, h5, r1, r2, r3, r4, r5⟩ := h
 obtain ⟨x1, y1, rfl⟩ := Row.form r1
 obtain ⟨x2, y2, rfl⟩ := Row.form r2
 obtain ⟨x3, y3, rfl⟩ := Row.form r3
 obtain ⟨x4, y4, rfl⟩ := Row.form r4
 obtain ⟨x5, y5, rfl⟩ := r5.form
 exact ⟨_, _, _, _, _, _, _, _, _, _, e⟩
section fb
variable {I : Imm} {Q : Qt}
theorem openSample_rep (I : Imm) : OpenRep I openSample [strV [97], strV [], .int .u32 512, .int .u16 1, .int .i64 0, .slice none 0 0, .slice none 0 0, .slice none 0 0, .slice none 0 0, .slice none 0 0] :=
 ⟨_, _, _, _, _, rfl, by decide, by decide, by decide, by decide, by decide, .nil, .nil, .nil, .nil, .nil I⟩
theorem FnReadOpen_law {o : OpenD} {z : Int} {cs : List Value} {bv : Value} {forms : Int} {bs : List UInt8} (hu : Utf I) (ha : OpenArg I o z cs) (hz : 0 ≤ z → o.idle = z.toNat) (hf : Rng forms) (hb : BytesAt I bs bv) (hbl : bs.length < 1099511627776)
  (h : ∀ I', I.le I' → Q (.bool true) [] [] I') : WP Tryz.prog 4 #[.agg cs.toArray, .int .u64 forms, bv] [] [] I Q := by
 have ha' := ha
 obtain ⟨x1, y1, x2, y2, x3, y3, x4, y4, x5, y5, rfl⟩ := openArg_form ha
 obtain ⟨bb, bc, rfl⟩ := bytes_form hb
 refine lw K4 [] [.agg #[strV o.container, strV o.host, .int .u32 (o.maxFrame : Nat), .int .u16 (o.channelMax : Nat), .int .i64 z, .slice x1 o.outLoc.length y1, .slice x2 o.inLoc.length y2, .slice x3 o.offered.length y3, .slice x4 o.desired.length y4, .slice x5 o.props.length y5], .int .u64 forms, .slice bb bs.length bc] Tryz.func4 ?_
 refine G ?_
 intro b3
 refine G ?_
 refine Cx [] ?_
 refine zzFits8_law ha' fun r => ?_
 cases r with
 | false =>
  refine G ?_
  refine L0 ?_
  exact h I (.refl I)
 | true =>
  refine G ?_
  split
  ·refine G ?_
   refine L0 ?_
   exact h I (.refl I)
  refine G ?_
  intro b7
  refine G ?_
  refine Cx [] ?_
  refine OpenOf_law (openSample_rep I) fun I2 cs2 hi2 hr2 => ?_
  have hr2' := hr2
  obtain ⟨_, fv, rfl, hfv⟩ := hr2
  obtain ⟨fb, fc, rfl⟩ := hfv.form
  refine G ?_
  intro b28
  refine G ?_
  refine Cx [28] ?_
  refine Put_law hr2' ⟨by decide, by decide⟩ (open_pv open_sample_ok) (by simp [openOf, openSample, symbolsV, textFieldV, mapFieldV, cntL, V.cnt, vNull, vNum]) fun s1 I3 kb kc e kids hs1 hi3 he hvar helen => ?_
  refine G ?_
  refine Cx [] ?_ [] [29]
  intro I4 hi4 hfz
  have hbe : BytesAt I4 (e ++ []) (.slice kb e.length kc) := by rw [List.append_nil]; exact froz_bytes hfz ⟨_, _, rfl⟩ rfl
  conv => whnf
  refine ReadOpen_law (hu.mono (hi2.trans (hi3.trans hi4))) open_sample_ok.rd hvar he hbe (by simp; omega) fun I5 o1 cs1 rv hi5 hback hrep hrest => ?_
  have hrep' := hrep
  obtain ⟨xx1, yy1, xx2, yy2, xx3, yy3, xx4, yy4, xx5, yy5, rfl⟩ := openRep_form hrep
  obtain ⟨yb, yc, rfl⟩ := bytes_form hrest
  refine G ?_
  intro b8
  refine G ?_
  refine ⟨[0,1,2,4,3,5,6,7,8], [], [], [], by kernel_rfl, ?_⟩
  refine G ?_
  refine .inr ?_
  refine G ?_
  refine OpenOf_law (openSample_rep I5) fun I6 cs6 hi6 hr6 => ?_
  have hr6' := hr6
  obtain ⟨_, fv6, rfl, hfv6⟩ := hr6
  obtain ⟨gb, gc, rfl⟩ := hfv6.form
  refine G ?_
  refine .inr ?_
  refine G ?_
  refine OpenOf_law (hrep'.mono hi6) fun I7 cs7 hi7 hr7 => ?_
  have hr7' := hr7
  obtain ⟨_, fv7, rfl, hfv7⟩ := hr7
  obtain ⟨ub, uc, rfl⟩ := hfv7.form
  refine G ?_
  refine .inr ?_
  refine G ?_
  refine Same_law (hr6'.mono hi7) hr7' rfl (Nat.le_refl 10) (open_same open_sample_ok hback) fun I8 hi8 => ?_
  have hI8 : I.le I8 := hi2.trans (hi3.trans (hi4.trans (hi5.trans (hi6.trans (hi7.trans hi8)))))
  clear hr7' hfv7 hr6' hfv6 hrep' hrest hbe hfz hr2' hfv
  refine G ?_
  refine Cx [] ?_
  refine askedOpen_law (hu.mono hI8) (ha'.mono hI8) hz fun I9 r hi9 hask => ?_
  have hI9 := hI8.trans hi9
  cases r with
  | false =>
   refine G ?_
   refine L0 ?_
   exact h I9 hI9
  | true =>
   obtain ⟨hz0, hask⟩ := hask rfl
   have hor : OpenRep I o [strV o.container, strV o.host, .int .u32 (o.maxFrame : Nat), .int .u16 (o.channelMax : Nat), .int .i64 z, .slice x1 o.outLoc.length y1, .slice x2 o.inLoc.length y2, .slice x3 o.offered.length y3, .slice x4 o.desired.length y4, .slice x5 o.props.length y5] := ha'.rep hz0 (hz hz0)
   refine G ?_
   refine Cx [] ?_
   refine OpenOf_law (hor.mono hI9) fun I10 cs10 hi10 hr10 => ?_
   have hr10' := hr10
   obtain ⟨_, fv10, rfl, hfv10⟩ := hr10
   obtain ⟨pb, pc, rfl⟩ := hfv10.form
   refine G ?_
   refine Cx [] ?_
   refine Fits_law (hu.mono (hI9.trans hi10)) hr10' fun I11 r hi11 hfit => ?_
   have hI11 := hI9.trans (hi10.trans hi11)
   cases r with
   | false =>
    refine G ?_
    refine L0 ?_
    exact h I11 hI11
   | true =>
    obtain ⟨hfit, hcnt⟩ := hfit rfl
    have hok : OpenOk o := open_ok (lv := 5) hask hfit hor
    clear hr10' hfv10
    refine G ?_
    split
    ·refine G ?_
     refine L0 ?_
     exact h I11 hI11
    refine G ?_
    refine Cx [] ?_
    refine OpenOf_law (hor.mono hI11) fun I12 cs12 hi12 hr12 => ?_
    have hr12' := hr12
    obtain ⟨_, fv12, rfl, hfv12⟩ := hr12
    obtain ⟨qb, qc, rfl⟩ := hfv12.form
    refine G ?_
    intro b62
    refine G ?_
    refine Cx [62] ?_
    have hcnt2 : cntL ((openOf o).fields.map Prod.fst) ≤ 1000 := by
     have := cnt_mk 21 0 [] ((openOf o).fields.map Prod.fst) 0 [vNum 5 (openOf o).code]
     have h2 : (whole (openOf o)).cnt = _ := this
     omega
    refine Put_law hr12' hf (open_pv hok) hcnt2 fun s2 I13 kb2 kc2 e2 kids2 hs2 hi13 he2 hvar2 helen2 => ?_
    have hb13 : BytesAt I13 bs (.slice bb bs.length bc) := bytes_mono (hI11.trans (hi12.trans hi13)) hb
    refine G ?_
    refine .own 63 e2.length bs.length _ _ rfl rfl hb13 (oneAll_bytes _) (by rw [show ti5.bytes = 1 by kernel_rfl]; omega) fun nb nc => ?_
    refine G ?_
    refine Cx [] ?_ [] [63]
    intro I14 hi14 hfz2
    have hI14 := hI11.trans (hi12.trans (hi13.trans hi14))
    have hbe2 : BytesAt I14 (e2 ++ bs) (.slice nb (e2.length + bs.length) nc) := froz_bytesG hfz2 rfl (by rw [List.map_append]) ⟨_, _, rfl⟩ (by rw [List.length_append])
    conv => whnf
    refine ReadOpen_law (hu.mono hI14) hok.rd hvar2 he2 hbe2 (by simp; omega) fun I15 o2 cs15 rv2 hi15 hback2 hrep2 hrest2 => ?_
    have hI15 := hI14.trans hi15
    have hrep2' := hrep2
    obtain ⟨zx1, zy1, zx2, zy2, zx3, zy3, zx4, zy4, zx5, zy5, rfl⟩ := openRep_form hrep2
    obtain ⟨yb2, yc2, rfl⟩ := bytes_form hrest2
    refine G ?_
    intro b12
    refine G ?_
    refine ⟨[0,1,2,4,3,5,6,7,8,9,10,11,12,13,14,15,16], [], [], [], by kernel_rfl, ?_⟩
    refine G ?_
    refine .inr ?_
    refine G ?_
    refine OpenOf_law (hor.mono hI15) fun I16 cs16 hi16 hr16 => ?_
    have hr16' := hr16
    obtain ⟨_, fv16, rfl, hfv16⟩ := hr16
    obtain ⟨gb2, gc2, rfl⟩ := hfv16.form
    refine G ?_
    refine .inr ?_
    refine G ?_
    refine OpenOf_law (hrep2'.mono hi16) fun I17 cs17 hi17 hr17 => ?_
    have hr17' := hr17
    obtain ⟨_, fv17, rfl, hfv17⟩ := hr17
    obtain ⟨ub2, uc2, rfl⟩ := hfv17.form
    refine G ?_
    refine .inr ?_
    refine G ?_
    refine Same_law (hr16'.mono hi17) hr17' rfl (Nat.le_refl 10) (open_same hok hback2) fun I18 hi18 => ?_
    have hI18 := hI15.trans (hi16.trans (hi17.trans hi18))
    refine G ?_
    refine .inr ?_
    refine G ?_
    refine left_law (bytes_mono (hi16.trans (hi17.trans hi18)) hrest2) (bytes_mono hI18 hb) fun r hr => ?_
    obtain rfl := hr rfl
    refine G ?_
    refine L0 ?_
    exact h I18 hI18
end fb
end Go.Proofs.YtcfglgelckjpmaaGreatDoor
