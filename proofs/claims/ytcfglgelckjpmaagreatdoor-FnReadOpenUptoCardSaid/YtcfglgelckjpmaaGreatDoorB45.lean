/- Own machinery, and laws of the functions that the statement reaches (part 45). -/
import Derived.Test.YtcfglgelckjpmaaGreatDoorB33
import Derived.Test.YtcfglgelckjpmaaGreatDoorB40
set_option linter.all false
namespace Go.Proofs.YtcfglgelckjpmaaGreatDoor
set_option maxRecDepth 100000
set_option maxHeartbeats 4000000
theorem law_d {kp : List Nat} {f : FuncId} {fn : Func} (locs : List (Nat × Nat)) {args : List Value} {H : List (Nat × List Value)} {R : List Res} {I : Imm} {Q : Qt} {i0 i1 : Nat} {ops0 : Array Oper} {c1 : Code} {o : Oper} {g : FuncId} {xs : Array Operand} {tys : Array TypeId}
  (hf : Tryz.prog.funcs[f]? = some fn) (hn : (fn.name == "runtime.NumGoroutine") = false) (hlen : Nat.ble args.length fn.ntmps = true) (hlocs : LocsOk args H locs)
  (hb : fn.body = some ((Code.region i0 ops0 false).seq ((Code.region i1 #[o] false).seq c1))) (ho : o.op = .defer ⟨.value (.func g), xs, tys⟩) (hd : o.dst = none) (hg : o.guard = none) (hfn : ∀ args w, (callFunc g args).run Tryz.prog w = .ok (.enter g args) w)
  (hcd : ∀ dargs w, CallsD Tryz.prog g dargs .returning w fun e u' w' => e = .returned (.tuple #[]) ∧ u' = .returning ∧ w' = w)
  (h : Body Tryz.prog tt kp { fn with body := some ((Code.region i0 ops0 false).seq c1) } locs args H R I Q) : WP Tryz.prog f args.toArray H R I Q :=
 wp_of_body_d (fun _ _ h => tt_ok h) tt_z mixed hf hn (Nat.le_of_ble_eq_true hlen) hlocs hb ho hd hg hfn hcd h
theorem WP.blk {P : Program} {f : FuncId} {args : Array Value} {H : List (Nat × List Value)} {R : List Res} {I : Imm} {Q : Qt} {b : Nat} {cs : List Value}
  (h : WP P f args ((b, cs) :: H) R I fun v css Rn I' => match css with
   | c :: css' => Q v css' (.blk b c :: Rn) I'
   | [] => True) : WP P f args H (.blk b cs :: R) I Q := by
 refine ⟨h.enters, fun w hs => ?_⟩
 have hp : (blks H ++ .blk b cs :: R).Perm (blks ((b, cs) :: H) ++ R) := List.perm_middle
 refine (h.calls w (hs.perm hp)).mono ?_
 rintro e w' ⟨v, css, Rn, I', he, hl, hst, hq⟩
 cases css with
 | nil => simp at hl
 | cons c css' =>
  refine ⟨v, css', .blk b c :: Rn, I', he, by simpa using hl, ?_, hq⟩
  have h1 : Step I (blks H ++ .blk b cs :: R) w I' (blks (setC ((b, cs) :: H) (c :: css')) ++ Rn) w' := hst.perm_left hp.symm
  refine h1.perm_right ?_
  simp only [setC, blks, List.map_cons, List.cons_append]
  exact List.perm_middle.symm
section ea
variable {I : Imm} {Q : Qt}
theorem ReadClose_law {l : List Fault} {kids : List V} {e rest : List UInt8} {sv : Value} (hu : Utf I) (hl : ∀ f ∈ l, FaultRd f) (hvar : Variant (closeOf l) kids) (he : Enc (.mk 21 0 [] kids 0 [vNum 5 24]) e) (hb : BytesAt I (e ++ rest) sv) (hlen : (e ++ rest).length < 1099511627776)
  (h : ∀ I' l' v' rv, I.le I' → FaultsBack l l' → Row 3 (FaultRep I') I' l' v' → BytesAt I' rest rv → Q (.tuple #[v', rv, .bool true]) [] [] I') : WP Tryz.prog 6 #[sv] [] [] I Q := by
 obtain ⟨base, cap, rfl⟩ := bytes_form hb
 refine law_d (kp := [0,2,3,4,5,6,12,20]) [] (args := [.slice base (e ++ rest).length cap]) Tryz.func6 (by kernel_rfl) (by kernel_rfl) trivial rfl rfl rfl rfl (fun a w => enters_of Tryz.func21 (by kernel_rfl) rfl a w) noValue_21 ?_
 refine G ?_
 intro b2
 refine G ?_
 intro b3
 refine G ?_
 intro b4
 refine G ?_
 refine Cx [] ?_
 refine copied_law hb hlen fun I1 sv1 hi1 hb1 => ?_
 refine G ?_
 refine Cx [] ?_
 refine New_law hb1 fun b => ?_
 refine G ?_
 intro b6
 refine G ?_
 refine Cx [6] ?_ [9]
 refine WP.blk ?_
 refine close_law (off := 0) hl hvar ⟨hb1, hlen⟩ he rfl fun I2 x hi2 hx hr => ?_
 refine G ?_
 refine Cx [] ?_
 refine faulted_law (hu.mono (hi1.trans hi2)) hl hx fun I3 l' v' hi3 hlb hrow => ?_
 obtain ⟨xb, xc, rfl⟩ := hrow.form
 refine G ?_
 refine ⟨[0,1,2,3,4,5,6], [], [11], [24], by kernel_rfl, ?_⟩
 refine G ?_
 refine .inr ?_
 refine G ?_
 refine WP.blk ?_
 refine Bytes_law (off := 0 + e.length) ⟨bytes_mono (hi2.trans hi3) hb1, hlen⟩ (by simp) fun rv hrv => ?_
 rw [hr] at hrv
 obtain ⟨rb, rc, rfl⟩ := bytes_form hrv
 refine G ?_
 refine ⟨fun y J => BytesAt J rest y, ?_, ⟨_, I3, .refl I3, hrv⟩, fun y J hJ hy => ?_⟩
 ·refine copied_law hrv (by simp at hlen; omega) fun I4 y hi4 hy => ⟨rfl, hy⟩
 obtain ⟨yb, yc, rfl⟩ := bytes_form hy
 refine G ?_
 refine L0 ?_
 exact h J l' _ _ (hi1.trans (hi2.trans (hi3.trans hJ))) hlb (hrow.mono hJ fun _ _ h => h.mono hJ) hy
end ea
end Go.Proofs.YtcfglgelckjpmaaGreatDoor
