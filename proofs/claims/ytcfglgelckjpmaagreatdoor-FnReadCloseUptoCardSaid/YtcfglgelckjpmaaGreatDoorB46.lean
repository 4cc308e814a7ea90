/- Own machinery, and laws of the functions that the statement reaches (part 46). -/
import Derived.Test.YtcfglgelckjpmaaGreatDoorB27
import Derived.Test.YtcfglgelckjpmaaGreatDoorB40
import Derived.Test.YtcfglgelckjpmaaGreatDoorB45
set_option linter.all false
namespace Go.Proofs.YtcfglgelckjpmaaGreatDoor
set_option maxRecDepth 100000
set_option maxHeartbeats 4000000
theorem faults_pv {l : List Fault} (h : ∀ f ∈ l, FaultOk f) : ∀ (j : Nat) (f : V × V) (y : V), (closeOf l).fields[j]? = some f → FieldVar f y → Pv y := fun j f y hj hy => by
 match j, hj with
 | 0, hj =>
  cases hj
  rw [hy.plain (by match l with | [] => rfl | _ :: _ => rfl) (faults_kind l)]
  exact pv_faults h
 | j + 1, hj => simp [closeOf] at hj
theorem close_same {l l' : List Fault} (h : ∀ f ∈ l, FaultOk f) (hb : FaultsBack l l') : ∀ (i : Nat) (f : V × V), (closeOf l).fields[i]? = some f → SfP f.2 f.1 (((closeOf l').fields.map Prod.fst).getD i vNull) := fun i f hi => by
 match i, hi with
 | 0, hi =>
  cases hi
  have := sf_faults h hb
  match l, this with
  | [], this => exact this
  | f :: t, this => exact this
 | i + 1, hi => simp [closeOf] at hi
section fa
variable {I : Imm} {Q : Qt}
theorem FnReadClose_law {l : List Fault} {v bv : Value} {forms : Int} {bs : List UInt8} (hu : Utf I) (hl : Row 3 (FaultRep I) I l v) (hf : Rng forms) (hb : BytesAt I bs bv) (hbl : bs.length < 1099511627776)
  (h : ∀ I', I.le I' → Q (.bool true) [] [] I') : WP Tryz.prog 3 #[v, .int .u64 forms, bv] [] [] I Q := by
 obtain ⟨base, cap, rfl⟩ := hl.form
 obtain ⟨bb, bc, rfl⟩ := bytes_form hb
 have hll := hl.1
 refine lw K3 [] [.slice base l.length cap, .int .u64 forms, .slice bb bs.length bc] Tryz.func3 ?_
 refine G ?_
 split
 ·refine G ?_
  refine L0 ?_
  exact h I (.refl I)
 refine G ?_
 split
 ·refine G ?_
  refine L0 ?_
  exact h I (.refl I)
 refine G ?_
 refine .inl fun b7 I1 hi1 hc7 => ?_
 refine G ?_
 refine Cx [] ?_
 have hsm : Row 3 (FaultRep I1) I1 [(⟨[97], [], []⟩ : Fault)] (.slice (some ⟨b7, 0, none⟩) 1 1) :=
  row_lit (css := [_]) hc7 rfl (show 1 < 1099511627776 by decide) rfl (rowsC ⟨⟨_, rfl, .nil I1, by decide, by decide⟩, rfl⟩ rows0)
 refine CloseOf_law hsm fun I2 cs2 hi2 hr2 => ?_
 have hr2' := hr2
 obtain ⟨_, fv, rfl, hfv⟩ := hr2
 obtain ⟨fb, fc, rfl⟩ := hfv.form
 refine G ?_
 intro b29
 refine G ?_
 refine Cx [29] ?_
 have hso : ∀ f ∈ [(⟨[97], [], []⟩ : Fault)], FaultOk f := fun f hf => by rw [List.mem_singleton.1 hf]; exact sample_ok
 refine Put_law hr2' ⟨by decide, by decide⟩ (faults_pv hso) (by simp [closeOf, faultsV, whole, faultOf, textFieldV, mapFieldV, cntL, V.cnt, vNull, vNum]) fun s1 I3 kb kc e kids hs1 hi3 he hvar helen => ?_
 refine G ?_
 refine Cx [] ?_ [] [30]
 intro I4 hi4 hfz
 have hbe : BytesAt I4 (e ++ []) (.slice kb e.length kc) := by rw [List.append_nil]; exact froz_bytes hfz ⟨_, _, rfl⟩ rfl
 conv => whnf
 refine ReadClose_law (hu.mono (hi1.trans (hi2.trans (hi3.trans hi4)))) (fun f hf => (hso f hf).rd) hvar he hbe (by simp; omega) fun I5 l' v' rv hi5 hback hrow hrest => ?_
 obtain ⟨xb, xc, rfl⟩ := hrow.form
 obtain ⟨yb, yc, rfl⟩ := bytes_form hrest
 refine G ?_
 refine Cx [] ?_
 refine CloseOf_law (hsm.mono (hi2.trans (hi3.trans (hi4.trans hi5))) fun _ _ h => h.mono (hi2.trans (hi3.trans (hi4.trans hi5)))) fun I6 cs6 hi6 hr6 => ?_
 have hr6' := hr6
 obtain ⟨_, fv6, rfl, hfv6⟩ := hr6
 obtain ⟨gb, gc, rfl⟩ := hfv6.form
 refine G ?_
 refine Cx [] ?_
 refine CloseOf_law (hrow.mono hi6 fun _ _ h => h.mono hi6) fun I7 cs7 hi7 hr7 => ?_
 have hr7' := hr7
 obtain ⟨_, fv7, rfl, hfv7⟩ := hr7
 obtain ⟨ub, uc, rfl⟩ := hfv7.form
 refine G ?_
 refine Cx [] ?_
 refine Same_law (hr6'.mono hi7) hr7' rfl (Nat.le_refl 1) (close_same hso hback) fun I8 hi8 => ?_
 have hI8 : I.le I8 := hi1.trans (hi2.trans (hi3.trans (hi4.trans (hi5.trans (hi6.trans (hi7.trans hi8))))))
 clear hr7' hfv7 hr6' hfv6 hrow hrest hbe hfz hr2' hfv
 have hl8 : Row 3 (FaultRep I8) I8 l (.slice base l.length cap) := hl.mono hI8 fun _ _ h => h.mono hI8
 refine G ?_
 refine Cx [] ?_
 refine askedFaults_law (hu.mono hI8) hl8 fun I9 r hi9 hask => ?_
 have hI9 := hI8.trans hi9
 cases r with
 | false =>
  refine G ?_
  refine L0 ?_
  exact h I9 hI9
 | true =>
  have hask := hask rfl
  refine G ?_
  refine Cx [] ?_
  refine CloseOf_law (hl8.mono hi9 fun _ _ h => h.mono hi9) fun I10 cs10 hi10 hr10 => ?_
  have hr10' := hr10
  obtain ⟨_, fv10, rfl, hfv10⟩ := hr10
  obtain ⟨pb, pc, rfl⟩ := hfv10.form
  refine G ?_
  refine Cx [] ?_
  refine Fits_law (hu.mono (hI9.trans hi10)) hr10' fun I11 r hi11 hfit => ?_
  have hI11 := hI9.trans (hi10.trans hi11)
  cases r with
  | false =>
   refine G ?_
   refine L0 ?_
   exact h I11 hI11
  | true =>
   obtain ⟨hfit, hcnt⟩ := hfit rfl
   have hl11 : Row 3 (FaultRep I11) I11 l (.slice base l.length cap) := hl.mono hI11 fun _ _ h => h.mono hI11
   have hok : ∀ f ∈ l, FaultOk f := faults_ok hask (fit_kid (lv := 7) hfit (i := 0) rfl) hl
   clear hr10' hfv10
   refine G ?_
   split
   ·refine G ?_
    refine L0 ?_
    exact h I11 hI11
   refine G ?_
   refine Cx [] ?_
   refine CloseOf_law hl11 fun I12 cs12 hi12 hr12 => ?_
   have hr12' := hr12
   obtain ⟨_, fv12, rfl, hfv12⟩ := hr12
   obtain ⟨qb, qc, rfl⟩ := hfv12.form
   refine G ?_
   intro b63
   refine G ?_
   refine Cx [63] ?_
   have hcnt2 : cntL ((closeOf l).fields.map Prod.fst) ≤ 1000 := by
    have := cnt_mk 21 0 [] ((closeOf l).fields.map Prod.fst) 0 [vNum 5 (closeOf l).code]
    have h2 : (whole (closeOf l)).cnt = _ := this
    omega
   refine Put_law hr12' hf (faults_pv hok) hcnt2 fun s2 I13 kb2 kc2 e2 kids2 hs2 hi13 he2 hvar2 helen2 => ?_
   have hb13 : BytesAt I13 bs (.slice bb bs.length bc) := bytes_mono (hI11.trans (hi12.trans hi13)) hb
   refine G ?_
   refine .own 64 e2.length bs.length _ _ rfl rfl hb13 (oneAll_bytes _) (by rw [show ti5.bytes = 1 by kernel_rfl]; omega) fun nb nc => ?_
   refine G ?_
   refine Cx [] ?_ [] [64]
   intro I14 hi14 hfz2
   have hI14 := hI11.trans (hi12.trans (hi13.trans hi14))
   have hbe2 : BytesAt I14 (e2 ++ bs) (.slice nb (e2.length + bs.length) nc) := froz_bytesG hfz2 rfl (by rw [List.map_append]) ⟨_, _, rfl⟩ (by rw [List.length_append])
   conv => whnf
   refine ReadClose_law (hu.mono hI14) (fun f hf => (hok f hf).rd) hvar2 he2 hbe2 (by simp; omega) fun I15 l2 v2 rv2 hi15 hback2 hrow2 hrest2 => ?_
   have hI15 := hI14.trans hi15
   obtain ⟨xb2, xc2, rfl⟩ := hrow2.form
   obtain ⟨yb2, yc2, rfl⟩ := bytes_form hrest2
   refine G ?_
   refine Cx [] ?_
   refine CloseOf_law (hl.mono hI15 fun _ _ h => h.mono hI15) fun I16 cs16 hi16 hr16 => ?_
   have hr16' := hr16
   obtain ⟨_, fv16, rfl, hfv16⟩ := hr16
   obtain ⟨gb2, gc2, rfl⟩ := hfv16.form
   refine G ?_
   refine Cx [] ?_
   refine CloseOf_law (hrow2.mono hi16 fun _ _ h => h.mono hi16) fun I17 cs17 hi17 hr17 => ?_
   have hr17' := hr17
   obtain ⟨_, fv17, rfl, hfv17⟩ := hr17
   obtain ⟨ub2, uc2, rfl⟩ := hfv17.form
   refine G ?_
   refine Cx [] ?_
   refine Same_law (hr16'.mono hi17) hr17' rfl (Nat.le_refl 1) (close_same hok hback2) fun I18 hi18 => ?_
   have hI18 := hI15.trans (hi16.trans (hi17.trans hi18))
   refine G ?_
   refine Cx [] ?_
   refine left_law (bytes_mono (hi16.trans (hi17.trans hi18)) hrest2) (bytes_mono hI18 hb) fun r hr => ?_
   obtain rfl := hr rfl
   refine G ?_
   refine L0 ?_
   exact h I18 hI18
end fa
end Go.Proofs.YtcfglgelckjpmaaGreatDoor
