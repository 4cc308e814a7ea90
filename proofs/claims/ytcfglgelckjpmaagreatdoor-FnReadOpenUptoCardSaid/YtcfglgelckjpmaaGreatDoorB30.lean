/- Own machinery, and laws of the functions that the statement reaches (part 30). -/
import Derived.Test.YtcfglgelckjpmaaGreatDoorB24
import Derived.Test.YtcfglgelckjpmaaGreatDoorB29
set_option linter.all false
namespace Go.Proofs.YtcfglgelckjpmaaGreatDoor
set_option maxRecDepth 100000
set_option maxHeartbeats 4000000
def known (code : Nat) : C := if code = 29 then faultOf ⟨[], [], []⟩ else stateOf ⟨code, 0, 0, [], false, false, []⟩
def KnownP (code : Nat) : Prop := ∀ (I : Imm) (Q : Qt), (∀ I' cs', I.le I' → CRep I' (known code) cs' → Q (.tuple #[.agg cs'.toArray, .bool true]) [] [] I') → WP Tryz.prog 177 #[.int .u64 (code : Nat)] [] [] I Q
section kf
variable {I : Imm} {Q : Qt}
theorem known_29 : KnownP 29 := by
 intro I Q h
 refine lw K177 [] [.int .u64 29] Tryz.func177 ?_
 refine G ?_
 intro b2
 refine G ?_
 refine Cx [] ?_
 refine FaultOf_law (f := ⟨[], [], []⟩) ⟨_, rfl, .nil I, by decide, by decide⟩ fun I1 cs1 hi1 hr => ?_
 have hr' := hr
 obtain ⟨_, fv, rfl, hfv⟩ := hr
 obtain ⟨fb, fc, rfl⟩ := hfv.form
 refine G ?_
 refine L0 ?_
 exact h I1 _ hi1 hr'
theorem known_35 : KnownP 35 := by
 intro I Q h
 refine lw K177 [] [.int .u64 35] Tryz.func177 ?_
 refine G ?_
 intro b2
 refine G ?_
 refine Cx [] ?_
 refine StateOf_law (s := ⟨35, 0, 0, [], false, false, []⟩) ⟨_, _, rfl, by decide, by decide, by decide, .nil, .nil I⟩ fun I1 cs1 hi1 hr => ?_
 have hr' := hr
 obtain ⟨_, fv, rfl, hfv⟩ := hr
 obtain ⟨fb, fc, rfl⟩ := hfv.form
 refine G ?_
 refine L0 ?_
 exact h I1 _ hi1 hr'
theorem known_36 : KnownP 36 := by
 intro I Q h
 refine lw K177 [] [.int .u64 36] Tryz.func177 ?_
 refine G ?_
 intro b2
 refine G ?_
 refine Cx [] ?_
 refine StateOf_law (s := ⟨36, 0, 0, [], false, false, []⟩) ⟨_, _, rfl, by decide, by decide, by decide, .nil, .nil I⟩ fun I1 cs1 hi1 hr => ?_
 have hr' := hr
 obtain ⟨_, fv, rfl, hfv⟩ := hr
 obtain ⟨fb, fc, rfl⟩ := hfv.form
 refine G ?_
 refine L0 ?_
 exact h I1 _ hi1 hr'
theorem known_37 : KnownP 37 := by
 intro I Q h
 refine lw K177 [] [.int .u64 37] Tryz.func177 ?_
 refine G ?_
 intro b2
 refine G ?_
 refine Cx [] ?_
 refine StateOf_law (s := ⟨37, 0, 0, [], false, false, []⟩) ⟨_, _, rfl, by decide, by decide, by decide, .nil, .nil I⟩ fun I1 cs1 hi1 hr => ?_
 have hr' := hr
 obtain ⟨_, fv, rfl, hfv⟩ := hr
 obtain ⟨fb, fc, rfl⟩ := hfv.form
 refine G ?_
 refine L0 ?_
 exact h I1 _ hi1 hr'
theorem known_38 : KnownP 38 := by
 intro I Q h
 refine lw K177 [] [.int .u64 38] Tryz.func177 ?_
 refine G ?_
 intro b2
 refine G ?_
 refine Cx [] ?_
 refine StateOf_law (s := ⟨38, 0, 0, [], false, false, []⟩) ⟨_, _, rfl, by decide, by decide, by decide, .nil, .nil I⟩ fun I1 cs1 hi1 hr => ?_
 have hr' := hr
 obtain ⟨_, fv, rfl, hfv⟩ := hr
 obtain ⟨fb, fc, rfl⟩ := hfv.form
 refine G ?_
 refine L0 ?_
 exact h I1 _ hi1 hr'
theorem known_39 : KnownP 39 := by
 intro I Q h
 refine lw K177 [] [.int .u64 39] Tryz.func177 ?_
 refine G ?_
 intro b2
 refine G ?_
 refine Cx [] ?_
 refine StateOf_law (s := ⟨39, 0, 0, [], false, false, []⟩) ⟨_, _, rfl, by decide, by decide, by decide, .nil, .nil I⟩ fun I1 cs1 hi1 hr => ?_
 have hr' := hr
 obtain ⟨_, fv, rfl, hfv⟩ := hr
 obtain ⟨fb, fc, rfl⟩ := hfv.form
 refine G ?_
 refine L0 ?_
 exact h I1 _ hi1 hr'
theorem sf_comp {z : V} {code : Nat} {ks ks' : List V} (hkn : KnownP code) (hc : code < 18446744073709551616) (h1 : ks.length ≤ (known code).fields.length) (h2 : ks'.length ≤ (known code).fields.length)
  (hs : ∀ (i : Nat) (f : V × V), (known code).fields[i]? = some f → SfP f.2 (ks.getD i vNull) (ks'.getD i vNull)) : SfP z (.mk 21 0 [] ks 0 [vNum 5 code]) (.mk 21 0 [] ks' 0 [vNum 5 code]) := by
 intro I fv cf ca cb Q hf hra hrb h
 obtain ⟨cA, cB, gA, gB, rfl⟩ := hf
 obtain ⟨pb, pc, pd, pe, rfl, _⟩ := gA.inv2
 obtain ⟨qb, qc, qd, qe, rfl, _⟩ := gB.inv2
 obtain ⟨xb, xc, xd, xe, rfl, xk, xd', _⟩ := hra.inv2
 obtain ⟨yb, yc, yd, ye, rfl, yk, yd', _⟩ := hrb.inv2
 obtain ⟨ub, uo, rfl, _⟩ := xd'.some (by simp [V.desc])
 obtain ⟨wb, wo, rfl, _⟩ := yd'.some (by simp [V.desc])
 obtain ⟨cx, hcx, hcc⟩ := xd'.get (i := 0) (x := vNum 5 code) rfl
 obtain ⟨cy, hcy, hcd⟩ := yd'.get (i := 0) (x := vNum 5 code) rfl
 have hcx' := hcx
 have hcy' := hcy
 obtain ⟨kb, kc, kd, ke, rfl, _⟩ := hcx.inv2
 obtain ⟨lb, lc, ld, le, rfl, _⟩ := hcy.inv2
 refine lw K91 [] [.agg (cellsOf fv pb pc pd pe ++ cellsOf z qb qc qd qe).toArray, .agg (cellsOf (.mk 21 0 [] ks 0 [vNum 5 code]) xb xc (some ⟨ub, uo, none⟩) xe).toArray, .agg (cellsOf (.mk 21 0 [] ks' 0 [vNum 5 code]) yb yc (some ⟨wb, wo, none⟩) ye).toArray] Tryz.func91 ?_
 refine G ?_
 intro b3
 refine G ?_
 intro b4
 refine G ?_
 intro b5
 refine G ?_
 refine ⟨[0,1,2,3,4,5,6,7,8,9,10,11,12,13,14,15,16,17,18,19,20,21,22,23,24,25,26,27,28,29,30], [], [], [], by kernel_rfl, ?_⟩
 refine G ?_
 refine ⟨_, _, _, _, 0, rfl, rfl, Nat.zero_lt_one, ?_⟩
 refine G ?_
 refine ⟨_, hcc, rfl, ?_⟩
 refine G ?_
 refine ⟨_, _, _, _, 0, rfl, rfl, Nat.zero_lt_one, ?_⟩
 refine G ?_
 refine ⟨_, hcd, rfl, ?_⟩
 refine G ?_
 refine .inr ?_
 refine G ?_
 refine SameValue_law (vNum 5 code).sz (vNum 5 code) (vNum 5 code) (Nat.le_refl _) hcx' hcy' fun t ht => ?_
 obtain rfl : t = true := ht.2 same_sc
 refine G ?_
 refine ⟨_, _, _, _, 0, rfl, rfl, Nat.zero_lt_one, ?_⟩
 refine G ?_
 refine plus0_mk ?_
 refine G ?_
 refine ⟨_, .imm (cell_of hcc 1 rfl), ?_⟩
 refine G ?_
 refine Cx [] ?_
 refine hkn _ _ fun I1 cs1 hi1 hr => ?_
 have hr' := hr
 obtain ⟨_, kv, rfl, hfv⟩ := hr
 obtain ⟨fb, fc, rfl⟩ := hfv.form
 refine G ?_
 intro b7
 refine G ?_
 refine Cx [] ?_
 refine sameKids_law hr' (xk.mono hi1) (yk.mono hi1) h1 h2 hs fun I2 hi2 => ?_
 refine G ?_
 refine L0 ?_
 exact h I2 (hi1.trans hi2)
end kf
end Go.Proofs.YtcfglgelckjpmaaGreatDoor
