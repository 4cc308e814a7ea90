/- Own machinery, and laws of the functions that the statement reaches (part 33). -/
import Derived.Test.YtcfglgelckjpmaaGreatDoorB20
import Derived.Recover
import Derived.Tactics
import Derived.Tactics2
import Derived.Lib.ByteType
set_option linter.all false
namespace Go.Proofs.YtcfglgelckjpmaaGreatDoor
set_option maxRecDepth 100000
set_option maxHeartbeats 8000000
section body
variable {P : Program} {TT : Nat → Option TI}
theorem wp_of_body_d (hT : ∀ t i, TT t = some i → tiOf P t = some i) (hZ : ∀ t i, TT t = some i → i.d = .int .i64 → i.zero = .int .i64 0) (hmix : P.follows .mixedOrders = true) {kp : List Nat} {f : FuncId} {fn : Func} {locs : List (Nat × Nat)} {args : List Value}
  {H : List (Nat × List Value)} {R : List Res} {I : Imm} {Q : Qt} {i0 i1 : Nat} {ops0 : Array Oper} {c1 : Code} {o : Oper} {g : FuncId} {xs : Array Operand} {tys : Array TypeId}
  (hf : P.funcs[f]? = some fn) (hn : (fn.name == "runtime.NumGoroutine") = false) (hlen : args.length ≤ fn.ntmps) (hlocs : LocsOk args H locs)
  (hb : fn.body = some ((Code.region i0 ops0 false).seq ((Code.region i1 #[o] false).seq c1))) (ho : o.op = .defer ⟨.value (.func g), xs, tys⟩) (hd : o.dst = none) (hg : o.guard = none) (hfn : ∀ args w, (callFunc g args).run P w = .ok (.enter g args) w)
  (hcd : ∀ dargs w, CallsD P g dargs .returning w fun e u' w' => e = .returned (.tuple #[]) ∧ u' = .returning ∧ w' = w)
  (h : Body P TT kp { fn with body := some ((Code.region i0 ops0 false).seq c1) } locs args H R I Q) : WP P f args.toArray H R I Q := by
 unfold Body at h
 simp only [exec] at h
 refine ⟨fun w => ?_, fun w hs => ?_⟩
 ·unfold callFunc
  simp only [Sem.run_bind, run_program, Result.andThen_ok, hf, hn, Bool.false_eq_true, if_false, hb, Option.isNone_some, Sem.run_pure]
 ·refine calls_of_wp_defers hf hb ?_
  have hok : Ok ⟨I, blks H ++ R, w, [], mkL 1000 H⟩ fn.ntmps ⟨mkEnv locs 0 args, ⟨mkL 1000 H, mkR 2000 R, I⟩⟩ { tmps := args.toArray ++ Array.replicate (fn.ntmps - args.toArray.size) undef, defers := [] } w := by
   refine ⟨by simp; omega, rfl, fun t sv hg => ?_, mkEnv_srt, .refl _, mkL_srt, ?_⟩
   ·obtain ⟨k, v, rfl, h2, rfl⟩ := mkEnv_get hg
    rw [Nat.zero_add]
    have hval : (args.toArray ++ Array.replicate (fn.ntmps - args.toArray.size) undef).getD k undef = v := by
     have hk : k < args.length := by
      rcases Nat.lt_or_ge k args.length with h' | h'
      ·exact h'
      ·rw [List.getElem?_eq_none h'] at h2; cases h2
     rw [Array.getD_eq_getD_getElem?, Array.getElem?_append_left (by simpa using hk)]
     simp [h2]
    rw [hval]
    split
    ·rename_i i hi
     obtain ⟨lb, g1, g2⟩ := hlocs.get hi
     rw [h2] at g2
     cases g2
     exact ⟨lb, g1, rfl⟩
    ·rfl
   ·have : Mem.res ⟨mkL 1000 H, mkR 2000 R, I⟩ = blks H ++ R := by unfold Mem.res; rw [mkL_res, mkR_res]
    rw [this]
    exact .refl hs
  have fin : ∀ s a' w', (resK TT s fn.results.toList fun vs => Leaf (idsFrom 1000 H) s (tup vs) Q) → ∀ D, Ok ⟨I, blks H ++ R, w, D, mkL 1000 H⟩ fn.ntmps s a' w' →
    ∃ v, (results fn a'.tmps).run P w' = .ok v w' ∧ ∃ v' cs Rn I', Ending.returned v = .returned v' ∧ cs.length = H.length ∧ Step I (blks H ++ R) w I' (blks (setC H cs) ++ Rn) w' ∧ Q v' cs Rn I' := fun s a' w' hr D hok' => by
   obtain ⟨vs, h1, h2⟩ := results_ok hT hok' hr
   obtain ⟨cs, Rn, I', g1, g2, g3⟩ := leaf_ok hok' h1
   exact ⟨_, h2, _, cs, Rn, I', rfl, g1, g2, g3⟩
  refine wp_seq (wp_mono (exec_ok (kp := kp) hT hZ hmix (.region i0 ops0 false) _ _ (fun e s' => match e with
   | .normal => exec P TT fn.ntmps kp c1 s' fun e s => match e with
    | .exit _ => False
    | _ => resK TT s fn.results.toList fun vs => Leaf (idsFrom 1000 H) s (tup vs) Q
   | _ => False) _ _ (by simp only [exec]; exact h) hok) fun e a' w' hp => ?_)
  cases e with
  | normal =>
   obtain ⟨s1, hk, hok1⟩ := hp
   refine wp_seq (wp_region ?_)
   have hrun : ∃ dargs, (execOp a'.eval o).run P w' = .ok (.defer ⟨.fn (.func g) #[], dargs⟩) w' := by
    obtain ⟨dst, op, ty, pos, after, guard⟩ := o
    obtain rfl : op = _ := ho
    exact ⟨_, rfl⟩
   obtain ⟨dargs, hrun⟩ := hrun
   have hnx : Code.wp P c1 (bodyPostD P fn fun e w' => ∃ v' cs Rn I', e = .returned v' ∧ cs.length = H.length ∧ Step I (blks H ++ R) w I' (blks (setC H cs) ++ Rn) w' ∧ Q v' cs Rn I') { a' with defers := ⟨.fn (.func g) #[], dargs⟩ :: a'.defers } w' := by
    have hdf : a'.defers = [] := hok1.dfr
    rw [hdf]
    have hok2 : Ok ⟨I, blks H ++ R, w, [⟨.fn (.func g) #[], dargs⟩], mkL 1000 H⟩ fn.ntmps s1 { a' with defers := [⟨.fn (.func g) #[], dargs⟩] } w' := { hok1 with dfr := rfl, env := hok1.env }
    refine wp_mono (exec_ok hT hZ hmix c1 _ _ _ _ _ hk hok2) fun e a2 w2 hp => ?_
    have door : ∀ s, (resK TT s fn.results.toList fun vs => Leaf (idsFrom 1000 H) s (tup vs) Q) → Ok ⟨I, blks H ++ R, w, [⟨.fn (.func g) #[], dargs⟩], mkL 1000 H⟩ fn.ntmps s a2 w2 →
      Leaves P fn a2.tmps (fun e w' => ∃ v' cs Rn I', e = .returned v' ∧ cs.length = H.length ∧ Step I (blks H ++ R) w I' (blks (setC H cs) ++ Rn) w' ∧ Q v' cs Rn I') a2.defers .returning w2 := fun s hr hok' => by
     have hdf2 : a2.defers = [⟨.fn (.func g) #[], dargs⟩] := hok'.dfr
     rw [hdf2]
     refine leaves_cons (f := g) (args := dargs) (by simp) ?_ ((hcd dargs w2).mono ?_)
     ·simp [invoke, hfn]
     ·rintro e u' w'' ⟨rfl, rfl, rfl⟩
      exact fin s a2 _ hr _ hok'
    cases e with
    | normal => obtain ⟨s, hk, hok'⟩ := hp; exact door s hk hok'
    | ret => obtain ⟨s, hk, hok'⟩ := hp; exact door s hk hok'
    | exit i => obtain ⟨s, hk, hok'⟩ := hp; exact hk.elim
    | goto l => exact hp.elim
    | panic c => exact hp.elim
    | outgrown => exact hp.elim
   have hsz : (#[o] : Array Oper).size = 1 := rfl
   rw [hsz]
   have hw : Region.wanted o (yielded #[o] a'.tmps) = true := by simp [Region.wanted, hg]
   show (if Region.wanted o (yielded #[o] a'.tmps) = true then _ ∨ _ else _)
   rw [if_pos hw]
   refine .inl ?_
   show o.upon P a' _ _ ((execOp a'.eval o).run P w')
   rw [hrun, Oper.upon_defer, hd]
   exact hnx
  | ret => obtain ⟨s, hk, hok'⟩ := hp; exact hk.elim
  | exit i => obtain ⟨s, hk, hok'⟩ := hp; exact hk.elim
  | goto l => exact hp.elim
  | panic c => exact hp.elim
  | outgrown => exact hp.elim
end body
theorem neq_nil (w : World) : (binOp .neq 20 .nilIface .nilIface).run Tryz.prog w = .ok (.bool false) w := by kernel_rfl
theorem eqg (w : World) : (eqGuard BinOp.neq 20 (Operand.tmp 7) (Operand.const Value.nilIface) .nilIface .nilIface).run Tryz.prog w = .ok () w := by kernel_rfl
theorem noValue_21 (dargs : Array Value) (w : World) : CallsD Tryz.prog 21 dargs .returning w fun e u' w' => e = .returned (.tuple #[]) ∧ u' = .returning ∧ w' = w := by
 refine callsD_of_wpS Tryz.func21 rfl fun c₀ cs hu => ?_
 have hT : 16 ≤ (dargs ++ Array.replicate (Tryz.f21.ntmps - dargs.size) undef).size := by
  have : Tryz.f21.ntmps = 16 := rfl
  simp; omega
 generalize (dargs ++ Array.replicate (Tryz.f21.ntmps - dargs.size) undef) = T at hT
 have h7 : 7 < T.size := by omega
 have h8 : 8 < T.size := by omega
 apply wpS_seq
 apply wpS_region
 simp [wpOpsS, go_sem, recoverD, hu, neq_nil, eqg, h7, h8, Exit.thenS, Region.wanted, Act.put]
 refine wpS_cond (t := false) ?_ ?_
 ·simp [Act.eval, Array.getElem?_setIfInBounds, h7, h8]
 ·simp only [Bool.false_eq_true, if_false]
  refine wpS_of_wp (wp_skip ?_)
  cases c₀
  simp_all [bodyPostS, results, (show Tryz.f21.results = #[] from rfl)]
theorem noValue_38 (dargs : Array Value) (w : World) : CallsD Tryz.prog 38 dargs .returning w fun e u' w' => e = .returned (.tuple #[]) ∧ u' = .returning ∧ w' = w := by
 refine callsD_of_wpS Tryz.func38 rfl fun c₀ cs hu => ?_
 have hT : 16 ≤ (dargs ++ Array.replicate (Tryz.f38.ntmps - dargs.size) undef).size := by
  have : Tryz.f38.ntmps = 16 := rfl
  simp; omega
 generalize (dargs ++ Array.replicate (Tryz.f38.ntmps - dargs.size) undef) = T at hT
 have h7 : 7 < T.size := by omega
 have h8 : 8 < T.size := by omega
 apply wpS_seq
 apply wpS_region
 simp [wpOpsS, go_sem, recoverD, hu, neq_nil, eqg, h7, h8, Exit.thenS, Region.wanted, Act.put]
 refine wpS_cond (t := false) ?_ ?_
 ·simp [Act.eval, Array.getElem?_setIfInBounds, h7, h8]
 ·simp only [Bool.false_eq_true, if_false]
  refine wpS_of_wp (wp_skip ?_)
  cases c₀
  simp_all [bodyPostS, results, (show Tryz.f38.results = #[] from rfl)]
theorem noValue_49 (dargs : Array Value) (w : World) : CallsD Tryz.prog 49 dargs .returning w fun e u' w' => e = .returned (.tuple #[]) ∧ u' = .returning ∧ w' = w := by
 refine callsD_of_wpS Tryz.func49 rfl fun c₀ cs hu => ?_
 have hT : 16 ≤ (dargs ++ Array.replicate (Tryz.f49.ntmps - dargs.size) undef).size := by
  have : Tryz.f49.ntmps = 16 := rfl
  simp; omega
 generalize (dargs ++ Array.replicate (Tryz.f49.ntmps - dargs.size) undef) = T at hT
 have h7 : 7 < T.size := by omega
 have h8 : 8 < T.size := by omega
 apply wpS_seq
 apply wpS_region
 simp [wpOpsS, go_sem, recoverD, hu, neq_nil, eqg, h7, h8, Exit.thenS, Region.wanted, Act.put]
 refine wpS_cond (t := false) ?_ ?_
 ·simp [Act.eval, Array.getElem?_setIfInBounds, h7, h8]
 ·simp only [Bool.false_eq_true, if_false]
  refine wpS_of_wp (wp_skip ?_)
  cases c₀
  simp_all [bodyPostS, results, (show Tryz.f49.results = #[] from rfl)]
end Go.Proofs.YtcfglgelckjpmaaGreatDoor
