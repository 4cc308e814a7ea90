/- Own machinery, and laws of the functions that the statement reaches (part 31). -/
import Derived.Test.YtcfglgelckjpmaaGreatDoorB21
import Derived.Test.YtcfglgelckjpmaaGreatDoorB30
set_option linter.all false
namespace Go.Proofs.YtcfglgelckjpmaaGreatDoor
set_option maxRecDepth 100000
set_option maxHeartbeats 4000000
section kg
variable {I : Imm} {Q : Qt}
theorem Is_law {c : C} {cs cv : List Value} {ks' : List V} (hc : CRep I c cs) (hv : VRep I (.mk 21 0 [] ks' 0 [vNum 5 c.code]) cv) (hl : ks'.length ≤ c.fields.length)
  (hs : ∀ (i : Nat) (f : V × V), c.fields[i]? = some f → SfP f.2 f.1 (ks'.getD i vNull)) (h : ∀ I', I.le I' → Q (.bool true) [] [] I') : WP Tryz.prog 33 #[.agg cs.toArray, .agg cv.toArray] [] [] I Q := by
 have hc' := hc
 obtain ⟨hcr, fv, rfl, hf⟩ := hc
 have hfl := hf.1
 obtain ⟨fb, fc, rfl⟩ := hf.form
 obtain ⟨xb, xc, xd, xe, rfl, xk, xd', _⟩ := hv.inv2
 obtain ⟨ub, uo, rfl, _⟩ := xd'.some (by simp [V.desc])
 obtain ⟨cx, hcx, hcc⟩ := xd'.get (i := 0) (x := vNum 5 c.code) rfl
 obtain ⟨kb, kc, kd, ke, rfl, _⟩ := hcx.inv2
 refine lw K33 [] [.agg #[.int .u64 (c.code : Nat), .slice fb c.fields.length fc], .agg (cellsOf (.mk 21 0 [] ks' 0 [vNum 5 c.code]) xb xc (some ⟨ub, uo, none⟩) xe).toArray] Tryz.func33 ?_
 refine G ?_
 intro b2
 refine G ?_
 intro b3
 refine G ?_
 refine ⟨[0,1,2,3,4,5,6,7,8,9,10,11,12,13,14,15,16,17,18,19,20,21,22,23,24,25,26], [], [], [], by kernel_rfl, ?_⟩
 refine G ?_
 refine ⟨_, _, _, _, 0, rfl, rfl, Nat.zero_lt_one, ?_⟩
 refine G ?_
 refine ⟨_, (cell_of hcc 0 rfl), ?_⟩
 refine G ?_
 refine ⟨_, _, _, _, 0, rfl, rfl, Nat.zero_lt_one, ?_⟩
 refine G ?_
 refine plus0_mk ?_
 refine G ?_
 refine ⟨_, (cell_of hcc 1 rfl), ?_⟩
 refine G ?_
 split
 case h_2 =>
  rename_i h1 _
  exact absurd rfl h1
 refine G ?_
 refine ⟨[0,1,4,5,2,3,6,7], [], [], [], by kernel_rfl, ?_⟩
 refine G ?_
 refine .inr ?_
 refine G ?_
 refine Whole_law hc' fun I1 c1 hi1 hw => ?_
 have hw' := hw
 obtain ⟨yb, yc, yd, ye, rfl, yk, _⟩ := hw.inv2
 refine G ?_
 refine .inr ?_
 refine G ?_
 refine sameKids_law (hc'.mono hi1) yk (xk.mono hi1) (by simp [whole, V.kids]) (by simpa [V.kids] using hl) (fun i f hf => ?_) fun I2 hi2 => ?_
 ·have : (whole c).kids.getD i vNull = f.1 := by
   simp only [whole, V.kids, List.getD_eq_getElem?_getD, List.getElem?_map, hf]
   rfl
  rw [this]
  exact hs i f hf
 ·refine G ?_
  refine L0 ?_
  exact h I2 (hi1.trans hi2)
theorem Same_law {c d : C} {cs ds : List Value} (hc : CRep I c cs) (hd : CRep I d ds) (hcd : d.code = c.code) (hl : d.fields.length ≤ c.fields.length)
  (hs : ∀ (i : Nat) (f : V × V), c.fields[i]? = some f → SfP f.2 f.1 ((d.fields.map Prod.fst).getD i vNull)) (h : ∀ I', I.le I' → Q (.bool true) [] [] I') : WP Tryz.prog 9 #[.agg cs.toArray, .agg ds.toArray] [] [] I Q := by
 obtain ⟨dcode, df⟩ := d
 obtain rfl : dcode = c.code := hcd
 have hc' := hc
 have hd' := hd
 obtain ⟨hcr, fv, rfl, hf⟩ := hc
 obtain ⟨hdr, gv, rfl, hg⟩ := hd
 obtain ⟨fb, fc, rfl⟩ := hf.form
 obtain ⟨gb, gc, rfl⟩ := hg.form
 refine lw K9 [] [.agg #[.int .u64 (c.code : Nat), .slice fb c.fields.length fc], .agg #[.int .u64 (c.code : Nat), .slice gb df.length gc]] Tryz.func9 ?_
 refine G ?_
 intro b2
 refine G ?_
 intro b3
 refine G ?_
 refine ⟨[0,1,2,3,4,5,6,7,8,9,10,11], [], [], [], by kernel_rfl, ?_⟩
 refine G ?_
 split
 case h_2 =>
  rename_i h1 _
  exact absurd rfl h1
 refine G ?_
 refine .inr ?_
 refine G ?_
 refine Whole_law (c := ⟨c.code, df⟩) hd' fun I1 c1 hi1 hw => ?_
 have hw' : VRep I1 (.mk 21 0 [] (df.map Prod.fst) 0 [vNum 5 c.code]) c1 := hw
 obtain ⟨yb, yc, yd, ye, rfl, yk, _⟩ := hw.inv2
 refine G ?_
 refine .inr ?_
 refine G ?_
 refine Is_law (hc'.mono hi1) hw' (by simpa using hl) hs fun I2 hi2 => ?_
 refine G ?_
 refine L0 ?_
 exact h I2 (hi1.trans hi2)
end kg
end Go.Proofs.YtcfglgelckjpmaaGreatDoor
