/- Own machinery, and laws of the functions that the statement reaches (part 41). -/
import Derived.Test.YtcfglgelckjpmaaGreatDoorB40
set_option linter.all false
namespace Go.Proofs.YtcfglgelckjpmaaGreatDoor
set_option maxRecDepth 100000
set_option maxHeartbeats 8000000
theorem FieldVar.num {k : Int} {n m : Nat} {y : V} (h : FieldVar (vNum k n, vNum k m) y) (h23 : k ≠ 23) : y = vNum k n ∨ y.kind = 0 ∧ n = m := by
 obtain ⟨z, rfl | ⟨rfl, _, _, hs⟩, hi⟩ := h
 ·rcases hi with rfl | ⟨h4, _⟩
  ·exact .inl rfl
  ·exact absurd h4 h23
 ·rcases hi with rfl | ⟨h4, _⟩
  ·exact .inr ⟨rfl, hs.inv.2.1⟩
  ·simp [vNull, V.kind] at h4
theorem if_mono {p : Prop} [Decidable p] {A B C : Prop} (h : if p then A else C) (hab : A → B) : if p then B else C := by
 split
 ·rename_i hp; rw [if_pos hp] at h; exact hab h
 ·rename_i hp; rw [if_neg hp] at h; exact h
theorem sf_backZ {z x y : V} (h : Fine x) (hb : Back x y) (h0 : x.kind ≠ 0) (h1 : y.kind ≠ 0) : SfP z x y := by
 refine sf_plain ?_ ?_ ?_
 ·rw [orZ, if_neg h0]; exact h.nd
 ·rw [orZ, if_neg h1]; exact back_noD hb
 ·rw [orZ, orZ, if_neg h0, if_neg h1]; exact back_loose hb h.kv
theorem sf_num {z : V} {k : Int} {n : Nat} (hs : Scal k n []) (h0 : k ≠ 0) : SfP z (vNum k n) (vNum k n) := sf_backZ (fine_sc hs) (.sc rfl) h0 h0
theorem pv_num {k : Int} {n m : Nat} (hs : Scal k n []) (hk : k ≠ 23) {y : V} (hy : FieldVar (vNum k n, vNum k m) y) : Pv y := by
 obtain ⟨z, rfl | ⟨rfl, _⟩, hi⟩ := hy
 ·rcases hi with rfl | ⟨h4, _⟩
  ·exact .sc hs
  ·exact absurd h4 hk
 ·rcases hi with rfl | ⟨h4, _⟩
  ·exact .sc .null
  ·simp [vNull, V.kind] at h4
section us
variable {I : Imm} {b br bx k : Nat} {bs : List UInt8} {v : Value} {off : Nat} {cs : List Value} {e r : List UInt8} {Q : Qt}
theorem readUint_law {n : Nat} {e r : List UInt8} (hv : BufAt I bs v) (he : UintE n e) (hd : bs.drop off = e ++ r) (h : bs.drop (off + e.length) = r → Q (.tuple #[.int .u64 (n : Nat), .nilIface]) [bufC v (off + e.length)] [] I) :
  WP Tryz.prog 363 #[.pointer (some ⟨b, 0, none⟩)] [(b, bufC v off)] [] I Q := by
 refine lw K363 [(0,1000)] _ Tryz.func363 ?_
 cases he with
 | z =>
  refine G ?_
  refine Cx [1000] ?_
  refine readType_law hv hd fun hr => ?_
  refine G ?_
  refine L0 ?_
  exact h hr
 | s y0 =>
  have := y0.toNat_lt
  refine G ?_
  refine Cx [1000] ?_
  refine readType_law hv hd fun hr => ?_
  refine G ?_
  refine Cx [1000] ?_
  refine ReadByte_law hv hr fun hr => ?_
  refine G ?_
  refine L0 ?_
  exact h hr
 | l y0 y1 y2 y3 =>
  have := y0.toNat_lt
  have := y1.toNat_lt
  have := y2.toNat_lt
  have := y3.toNat_lt
  refine G ?_
  refine Cx [1000] ?_
  refine readType_law hv hd fun hr => ?_
  refine G ?_
  refine Cx [1000] ?_
  refine ReadUint32_law hv hr fun hr => ?_
  refine G ?_
  refine L0 ?_
  exact h hr
theorem unm_u32 {n : Nat} (hk : k < cs.length) (hv : BufAt I bs v) (hz : ∃ z zt, e = z :: zt ∧ z ≠ 0x40) (he : UintE n e) (hdr : bs.drop off = e ++ r)
  (h : bs.drop (off + e.length) = r → Q .nilIface [bufC v (off + e.length), splice cs k [.int .u32 (n : Nat)]] [] I) : WP Tryz.prog 84 #[ptr br, .iface 116 (pt bx k)] [(br, bufC v off), (bx, cs)] [] I Q := by
 obtain ⟨z, zt, hz1, hz2⟩ := hz
 have hoff := drop_le (y := z) (r := zt ++ r) (hdr.trans (by rw [hz1]; rfl))
 refine lw K84 [(0,1000)] _ Tryz.func84 ?_
 refine G ?_
 refine Cx [1000] ?_
 refine tryReadNull_law hv (Nat.le_of_lt hoff) hdr (fun z' r' hz => by rw [hz1] at hz; cases hz; exact hz2) ?_
 refine G ?_
 refine Cx [1000] ?_
 refine readUint32_law hv he hdr fun hr => ?_
 refine G ?_
 refine .loc 1001 cs rfl hk ?_
 refine G ?_
 refine L0 ?_
 exact h hr
theorem unm_u16 {n : Nat} (hk : k < cs.length) (hv : BufAt I bs v) (hz : ∃ z zt, e = z :: zt ∧ z ≠ 0x40) (he : UshortE n e) (hdr : bs.drop off = e ++ r)
  (h : bs.drop (off + e.length) = r → Q .nilIface [bufC v (off + e.length), splice cs k [.int .u16 (n : Nat)]] [] I) : WP Tryz.prog 84 #[ptr br, .iface 157 (pt bx k)] [(br, bufC v off), (bx, cs)] [] I Q := by
 obtain ⟨z, zt, hz1, hz2⟩ := hz
 have hoff := drop_le (y := z) (r := zt ++ r) (hdr.trans (by rw [hz1]; rfl))
 refine lw K84 [(0,1000)] _ Tryz.func84 ?_
 refine G ?_
 refine Cx [1000] ?_
 refine tryReadNull_law hv (Nat.le_of_lt hoff) hdr (fun z' r' hz => by rw [hz1] at hz; cases hz; exact hz2) ?_
 refine G ?_
 refine Cx [1000] ?_
 refine readUshort_law hv he hdr fun hr => ?_
 refine G ?_
 refine .loc 1001 cs rfl hk ?_
 refine G ?_
 refine L0 ?_
 exact h hr
theorem unm_u64 {n : Nat} (hk : k < cs.length) (hv : BufAt I bs v) (hz : ∃ z zt, e = z :: zt ∧ z ≠ 0x40) (he : UlongE n e) (hdr : bs.drop off = e ++ r)
  (h : bs.drop (off + e.length) = r → Q .nilIface [bufC v (off + e.length), splice cs k [.int .u64 (n : Nat)]] [] I) : WP Tryz.prog 84 #[ptr br, .iface 218 (pt bx k)] [(br, bufC v off), (bx, cs)] [] I Q := by
 obtain ⟨z, zt, hz1, hz2⟩ := hz
 have hoff := drop_le (y := z) (r := zt ++ r) (hdr.trans (by rw [hz1]; rfl))
 refine lw K84 [(0,1000)] _ Tryz.func84 ?_
 refine G ?_
 refine Cx [1000] ?_
 refine tryReadNull_law hv (Nat.le_of_lt hoff) hdr (fun z' r' hz => by rw [hz1] at hz; cases hz; exact hz2) ?_
 refine G ?_
 refine Cx [1000] ?_
 refine readUlong_law hv he hdr fun hr => ?_
 refine G ?_
 refine .loc 1001 cs rfl hk ?_
 refine G ?_
 refine L0 ?_
 exact h hr
theorem unm_bool {n : Bool} (hk : k < cs.length) (hv : BufAt I bs v) (hz : ∃ z zt, e = z :: zt ∧ z ≠ 0x40) (he : BoolE n e) (hdr : bs.drop off = e ++ r)
  (h : bs.drop (off + e.length) = r → Q .nilIface [bufC v (off + e.length), splice cs k [.bool n]] [] I) : WP Tryz.prog 84 #[ptr br, .iface 65 (pt bx k)] [(br, bufC v off), (bx, cs)] [] I Q := by
 obtain ⟨z, zt, hz1, hz2⟩ := hz
 have hoff := drop_le (y := z) (r := zt ++ r) (hdr.trans (by rw [hz1]; rfl))
 refine lw K84 [(0,1000)] _ Tryz.func84 ?_
 refine G ?_
 refine Cx [1000] ?_
 refine tryReadNull_law hv (Nat.le_of_lt hoff) hdr (fun z' r' hz => by rw [hz1] at hz; cases hz; exact hz2) ?_
 refine G ?_
 refine Cx [1000] ?_
 refine readBool_law hv he hdr fun hr => ?_
 refine G ?_
 refine .loc 1001 cs rfl hk ?_
 refine G ?_
 refine L0 ?_
 exact h hr
def NumAt (I : Imm) (n : Nat) (x : Value) : Prop := ∃ b, x = pt b 0 ∧ CellsAt I b 0 [.int .u32 (n : Nat)]
theorem unm_pu32 {n : Nat} (hk : k < cs.length) (hv : BufAt I bs v) (hz : ∃ z zt, e = z :: zt ∧ z ≠ 0x40) (he : UintE n e) (hdr : bs.drop off = e ++ r)
  (h : ∀ I' x, I.le I' → NumAt I' n x → bs.drop (off + e.length) = r → Q .nilIface [bufC v (off + e.length), splice cs k [x]] [] I') : WP Tryz.prog 84 #[ptr br, .iface 170 (pt bx k)] [(br, bufC v off), (bx, cs)] [] I Q := by
 obtain ⟨z, zt, hz1, hz2⟩ := hz
 have hoff := drop_le (y := z) (r := zt ++ r) (hdr.trans (by rw [hz1]; rfl))
 refine lw K84 [(0,1000)] _ Tryz.func84 ?_
 refine G ?_
 refine Cx [1000] ?_
 refine tryReadNull_law hv (Nat.le_of_lt hoff) hdr (fun z' r' hz => by rw [hz1] at hz; cases hz; exact hz2) ?_
 refine G ?_
 refine Cx [1000] ?_
 refine readUint32_law hv he hdr fun hr => ?_
 refine G ?_
 intro b27
 refine G ?_
 refine .loc 1001 cs rfl hk ?_
 refine G ?_
 refine ⟨⟨[], [], [27], [], ?_⟩⟩
 intro I2 hi2 hce
 conv => whnf
 exact h I2 _ hi2 ⟨b27, rfl, hce⟩ hr
theorem role_law {n : Bool} (hk : k < cs.length) (hv : BufAt I bs v) (he : BoolE n e) (hdr : bs.drop off = e ++ r)
  (h : bs.drop (off + e.length) = r → Q .nilIface [bufC v (off + e.length), splice cs k [.bool n]] [] I) : WP Tryz.prog 365 #[pt bx k, ptr br] [(br, bufC v off), (bx, cs)] [] I Q := by
 refine lw K365 [(1,1000)] _ Tryz.func365 ?_
 refine G ?_
 refine Cx [1000] ?_
 refine readBool_law hv he hdr fun hr => ?_
 refine G ?_
 refine .loc 1001 cs rfl hk ?_
 refine G ?_
 refine L0 ?_
 exact h hr
theorem unm_role {n : Bool} (hk : k < cs.length) (hv : BufAt I bs v) (hz : ∃ z zt, e = z :: zt ∧ z ≠ 0x40) (he : BoolE n e) (hdr : bs.drop off = e ++ r)
  (h : bs.drop (off + e.length) = r → Q .nilIface [bufC v (off + e.length), splice cs k [.bool n]] [] I) : WP Tryz.prog 84 #[ptr br, .iface 169 (pt bx k)] [(br, bufC v off), (bx, cs)] [] I Q := by
 obtain ⟨z, zt, hz1, hz2⟩ := hz
 have hoff := drop_le (y := z) (r := zt ++ r) (hdr.trans (by rw [hz1]; rfl))
 refine lw K84 [(0,1000)] _ Tryz.func84 ?_
 refine G ?_
 refine Cx [1000] ?_
 refine tryReadNull_law hv (Nat.le_of_lt hoff) hdr (fun z' r' hz => by rw [hz1] at hz; cases hz; exact hz2) ?_
 refine G ?_
 refine ⟨true, missing_is (by kernel_rfl), ?_⟩
 refine G ?_
 refine ⟨365, pt bx k, fun w => by kernel_rfl, ?_⟩
 refine G ?_
 refine Cx [1000,1001] ?_
 refine role_law hk hv he hdr fun hr => ?_
 refine G ?_
 refine L0 ?_
 exact h hr
theorem ms_law {n : Nat} (hn : n < 4294967296) (hk : k < cs.length) (hv : BufAt I bs v) (he : UintE n e) (hdr : bs.drop off = e ++ r)
  (h : bs.drop (off + e.length) = r → Q .nilIface [bufC v (off + e.length), splice cs k [.int .i64 ((n : Int) * 1000000)]] [] I) : WP Tryz.prog 362 #[pt bx k, ptr br] [(br, bufC v off), (bx, cs)] [] I Q := by
 refine lw K362 [(1,1000)] _ Tryz.func362 ?_
 refine G ?_
 refine Cx [1000] ?_
 refine readUint_law hv he hdr fun hr => ?_
 refine G ?_
 refine .loc 1001 cs rfl hk ?_
 refine G ?_
 refine L0 ?_
 exact h hr
theorem unm_ms {n : Nat} (hn : n < 4294967296) (hk : k < cs.length) (hv : BufAt I bs v) (hz : ∃ z zt, e = z :: zt ∧ z ≠ 0x40) (he : UintE n e) (hdr : bs.drop off = e ++ r)
  (h : bs.drop (off + e.length) = r → Q .nilIface [bufC v (off + e.length), splice cs k [.int .i64 ((n : Int) * 1000000)]] [] I) : WP Tryz.prog 84 #[ptr br, .iface 158 (pt bx k)] [(br, bufC v off), (bx, cs)] [] I Q := by
 obtain ⟨z, zt, hz1, hz2⟩ := hz
 have hoff := drop_le (y := z) (r := zt ++ r) (hdr.trans (by rw [hz1]; rfl))
 refine lw K84 [(0,1000)] _ Tryz.func84 ?_
 refine G ?_
 refine Cx [1000] ?_
 refine tryReadNull_law hv (Nat.le_of_lt hoff) hdr (fun z' r' hz => by rw [hz1] at hz; cases hz; exact hz2) ?_
 refine G ?_
 refine ⟨true, missing_is (by kernel_rfl), ?_⟩
 refine G ?_
 refine ⟨362, pt bx k, fun w => by kernel_rfl, ?_⟩
 refine G ?_
 refine Cx [1000,1001] ?_
 refine ms_law hn hk hv he hdr fun hr => ?_
 refine G ?_
 refine L0 ?_
 exact h hr
end us
end Go.Proofs.YtcfglgelckjpmaaGreatDoor
