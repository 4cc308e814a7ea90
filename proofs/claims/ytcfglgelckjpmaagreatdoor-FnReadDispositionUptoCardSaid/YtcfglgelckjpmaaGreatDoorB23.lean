/- Own machinery, and laws of the functions that the statement reaches (part 23). -/
import Derived.Test.YtcfglgelckjpmaaGreatDoorB22
set_option linter.all false
namespace Go.Proofs.YtcfglgelckjpmaaGreatDoor
set_option maxRecDepth 100000
structure OpenD where
 container : List UInt8
 host : List UInt8
 maxFrame : Nat
 channelMax : Nat
 idle : Nat
 outLoc : List (List UInt8)
 inLoc : List (List UInt8)
 offered : List (List UInt8)
 desired : List (List UInt8)
 props : List V
def OpenRep (I : Imm) (o : OpenD) (cs : List Value) : Prop := ∃ v1 v2 v3 v4 v5, cs = [strV o.container, strV o.host, .int .u32 (o.maxFrame : Nat), .int .u16 (o.channelMax : Nat), .int .i64 (o.idle : Nat), v1, v2, v3, v4, v5] ∧
 o.container.length < 1099511627776 ∧ o.host.length < 1099511627776 ∧ o.maxFrame < 4294967296 ∧ o.channelMax < 65536 ∧ o.idle < 9223372036854775808 ∧
 Row 1 StrRep I o.outLoc v1 ∧ Row 1 StrRep I o.inLoc v2 ∧ Row 1 StrRep I o.offered v3 ∧ Row 1 StrRep I o.desired v4 ∧ VsRep I o.props v5
def openOf (o : OpenD) : C := ⟨0x10, [(.mk 19 0 o.container [] 0 [], vNull), textFieldV 19 o.host, (vNum 4 o.maxFrame, vNum 4 4294967295), (vNum 3 o.channelMax, vNum 3 65535), (vNum 4 (o.idle / 1000000), vNum 4 0),
 symbolsV o.outLoc, symbolsV o.inLoc, symbolsV o.offered, symbolsV o.desired, mapFieldV o.props]⟩
section laws
variable {I : Imm} {Q : Qt}
theorem OpenOf_law {o : OpenD} {cs : List Value} (ho : OpenRep I o cs) (h : ∀ I' cs', I.le I' → CRep I' (openOf o) cs' → Q (.agg cs'.toArray) [] [] I') : WP Tryz.prog 15 #[.agg cs.toArray] [] [] I Q := by
 obtain ⟨v1, v2, v3, v4, v5, rfl, h1, h2, h3, h4, h5, r1, r2, r3, r4, r5⟩ := ho
 obtain ⟨x1, y1, rfl⟩ := r1.form
 obtain ⟨x2, y2, rfl⟩ := r2.form
 obtain ⟨x3, y3, rfl⟩ := r3.form
 obtain ⟨x4, y4, rfl⟩ := r4.form
 obtain ⟨x5, y5, rfl⟩ := r5.form
 refine lw K15 [] [.agg #[strV o.container, strV o.host, .int .u32 (o.maxFrame : Nat), .int .u16 (o.channelMax : Nat), .int .i64 (o.idle : Nat), .slice x1 o.outLoc.length y1, .slice x2 o.inLoc.length y2, .slice x3 o.offered.length y3, .slice x4 o.desired.length y4, .slice x5 o.props.length y5]] Tryz.func15 ?_
 refine G ?_
 intro b1
 refine G ?_
 intro b2
 refine G ?_
 refine ⟨[0,1,2,3,4,5,7,8,9,11,12,13,15,16,17,18,20,21,23,24,26,27,29,30,32,33,6,10,14,19,22,25,28,31,34,35,36,37], [], [], [], by kernel_rfl, ?_⟩
 refine G ?_
 have hq : ((o.idle : Int)).tdiv 1000000 = ((o.idle / 1000000 : Nat) : Int) := rfl
 refine ⟨by decide, _, w64 (by rw [hq]; omega), ?_⟩
 rw [hq]
 refine G ?_
 refine .inr ?_
 refine G ?_
 refine textField_law (by omega) h2 fun c1 hc1 => ?_
 obtain ⟨a1, a2, a3, a4, a5, a6, a7, a8, a9, a10, a11, a12, rfl, hm1⟩ := hc1.inv
 refine G ?_
 refine .inr ?_
 refine G ?_
 refine defaultField_law (m := 4294967295) ?_
 refine G ?_
 refine .inr ?_
 refine G ?_
 refine defaultField_law (m := 65535) ?_
 refine G ?_
 refine .inr ?_
 refine G ?_
 refine plainField_law ?_
 refine G ?_
 refine .inr ?_
 refine G ?_
 refine symbols_law r1 fun I1 c2 hi1 hc2 => ?_
 obtain ⟨b1', b2', b3', b4', b5', b6', b7', b8', b9', b10', b11', b12', rfl, hm2⟩ := hc2.inv
 refine G ?_
 refine .inr ?_
 refine G ?_
 refine symbols_law (r2.mono hi1 fun _ _ h => h) fun I2 c3 hi2 hc3 => ?_
 obtain ⟨d1, d2, d3, d4, d5, d6, d7, d8, d9, d10, d11, d12, rfl, hm3⟩ := hc3.inv
 refine G ?_
 refine .inr ?_
 refine G ?_
 refine symbols_law (r3.mono (hi1.trans hi2) fun _ _ h => h) fun I3 c4 hi3 hc4 => ?_
 obtain ⟨e1, e2, e3, e4, e5, e6, e7, e8, e9, e10, e11, e12, rfl, hm4⟩ := hc4.inv
 refine G ?_
 refine .inr ?_
 refine G ?_
 refine symbols_law (r4.mono ((hi1.trans hi2).trans hi3) fun _ _ h => h) fun I4 c5 hi4 hc5 => ?_
 obtain ⟨f1, f2, f3, f4, f5, f6, f7, f8, f9, f10, f11, f12, rfl, hm5⟩ := hc5.inv
 refine G ?_
 refine .inr ?_
 refine G ?_
 refine mapField_law (r5.mono (((hi1.trans hi2).trans hi3).trans hi4)) fun c6 hc6 => ?_
 obtain ⟨g1, g2, g3, g4, g5, g6, g7, g8, g9, g10, g11, g12, rfl, hm6⟩ := hc6.inv
 refine G ?_
 refine .inl fun b I' hi hc => ?_
 refine G ?_
 refine L0 ?_
 have k1 := ((hi1.trans hi2).trans hi3).trans hi4
 refine h I' _ (k1.trans hi) ⟨(show (16 : Nat) < 18446744073709551616 by decide), _, rfl, row_lit (css := [textC 19 o.container ++ numC 0 0, _, numC 4 o.maxFrame ++ numC 4 4294967295, numC 3 o.channelMax ++ numC 3 65535, numC 4 (o.idle / 1000000) ++ numC 4 0, _, _, _, _, _]) hc rfl (by simp [openOf]) rfl
  (rowsC ⟨⟨_, _, vText_rep (by omega) h1, vNull_rep, rfl⟩, rfl⟩ (rowsC ⟨hm1 _ (k1.trans hi), rfl⟩ (rowsC ⟨⟨_, _, vNum_rep (by omega) (by omega), vNum_rep (by omega) (by omega), rfl⟩, rfl⟩ (rowsC ⟨⟨_, _, vNum_rep (by omega) (by omega), vNum_rep (by omega) (by omega), rfl⟩, rfl⟩
   (rowsC ⟨⟨_, _, vNum_rep (by omega) (by omega), vNum_rep (by omega) (by omega), rfl⟩, rfl⟩ (rowsC ⟨hm2 _ (((hi2.trans hi3).trans hi4).trans hi), rfl⟩ (rowsC ⟨hm3 _ ((hi3.trans hi4).trans hi), rfl⟩ (rowsC ⟨hm4 _ (hi4.trans hi), rfl⟩ (rowsC ⟨hm5 _ hi, rfl⟩ (rowsC ⟨hm6 _ hi, rfl⟩ rows0))))))))))⟩
end laws
end Go.Proofs.YtcfglgelckjpmaaGreatDoor
