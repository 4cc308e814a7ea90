/- Own machinery, and laws of the functions that the statement reaches (part 19). -/
import Derived.Test.YtcfglgelckjpmaaGreatDoorB18
set_option linter.all false
namespace Go.Proofs.YtcfglgelckjpmaaGreatDoor
section body
variable {P : Program} {TT : Nat → Option TI} {nt : Nat} {C : Ctx}
theorem mkL_keys : ∀ {H : List (Nat × List Value)} {i : Nat}, ∀ x ∈ mkL i H, i ≤ x.1
  | [], _, x, h => by simp [mkL] at h
  | (b, cs) :: H, i, x, h => by
    simp only [mkL, List.mem_cons] at h
    rcases h with rfl | h
    · exact Nat.le_refl _
    · have := mkL_keys x h; omega
theorem mkL_srt : ∀ {H : List (Nat × List Value)} {i : Nat}, Srt (mkL i H)
  | [], _ => .nil
  | (b, cs) :: H, i => List.pairwise_cons.2 ⟨fun x hx => by have := mkL_keys x hx; simp only; omega, mkL_srt⟩
theorem mkL_res : ∀ {H : List (Nat × List Value)} {i : Nat}, (mkL i H).map lres = blks H
  | [], _ => rfl
  | (b, cs) :: H, i => by simp only [mkL, List.map_cons, blks, lres]; congr 1; exact mkL_res
theorem mkR_res : ∀ {R : List Res} {i : Nat}, (mkR i R).map Prod.snd = R
  | [], _ => rfl
  | r :: R, i => by simp only [mkR, List.map_cons]; congr 1; exact mkR_res
theorem mkL_get : ∀ {H : List (Nat × List Value)} {i j b : Nat} {cs : List Value}, H[j]? = some (b, cs) → get (mkL i H) (i + j) = some ⟨b, cs⟩
  | (b, cs) :: H, i, 0, b', cs', h => by simp only [List.getElem?_cons_zero, Option.some.injEq] at h; cases h; simp only [mkL]; rw [get_cons, Nat.add_zero, if_pos rfl]
  | (b, cs) :: H, i, j + 1, b', cs', h => by
    simp only [List.getElem?_cons_succ] at h
    simp only [mkL]
    rw [get_cons, if_neg (by omega), if_neg (by omega)]
    have := mkL_get (i := i + 1) h
    rw [show i + (j + 1) = i + 1 + j by omega]
    exact this
theorem back_blks {L : List (Nat × Lb)} : ∀ {H : List (Nat × List Value)} {i : Nat} {K : List (Nat × Lb)}, K.map Prod.fst = idsFrom i H → (∀ x ∈ K, get L x.1 = some x.2) → (∀ j b cs, H[j]? = some (b, cs) → ∃ cs', get L (i + j) = some ⟨b, cs'⟩) →
    blks (hOf K) = blks (setC H (csOf K)) ∧ (csOf K).length = H.length
  | [], i, [], _, _, _ => ⟨rfl, rfl⟩
  | [], i, k :: K, h, _, _ => by simp [idsFrom] at h
  | (b, cs) :: H, i, [], h, _, _ => by simp [idsFrom] at h
  | (b, cs) :: H, i, (id, lb) :: K, h, hk, hb => by
    simp only [List.map_cons, idsFrom, List.cons.injEq] at h
    obtain ⟨rfl, h⟩ := h
    obtain ⟨cs', h0⟩ := hb 0 b cs rfl
    have h1 := hk (id, lb) (by simp)
    simp only [Nat.add_zero] at h0 h1
    rw [h0] at h1
    cases h1
    obtain ⟨g1, g2⟩ := back_blks (L := L) (K := K) h (fun x hx => hk x (by simp [hx])) (fun j b' cs' hj => by
      obtain ⟨c, hc⟩ := hb (j + 1) b' cs' (by simpa using hj)
      exact ⟨c, by rw [show id + 1 + j = id + (j + 1) by omega]; exact hc⟩)
    refine ⟨?_, by simp [csOf, g2]⟩
    simp only [hOf, csOf, setC, blks, List.map_cons] at g1 ⊢
    rw [g1]
theorem leaf_ok {H : List (Nat × List Value)} {R : List Res} {I : Imm} {w w' : World} {s : St} {v : Value} {Q : Value → List (List Value) → List Res → Imm → Prop} {a : Act} {D : List Deferred}
    (hok : Ok ⟨I, blks H ++ R, w, D, mkL 1000 H⟩ nt s a w') (h : Leaf (idsFrom 1000 H) s v Q) :
    ∃ cs Rn I', cs.length = H.length ∧ Step I (blks H ++ R) w I' (blks (setC H cs) ++ Rn) w' ∧ Q v cs Rn I' := by
  obtain ⟨kL, kR, fL, fR, h⟩ := h.ex
  change pickL s.mem.L (idsFrom 1000 H) _ at h
  obtain ⟨K, L₁, h, hkeys, _, hpt⟩ := pickL_pt h
  obtain ⟨K2, L2, ⟨rfl, rfl⟩, hperm, hsub, hmem, _⟩ := pickL_sound (hpt (fun K2 L2 => K2 = K ∧ L2 = L₁) ⟨rfl, rfl⟩)
  obtain ⟨hb1, hb2⟩ := back_blks (L := s.mem.L) hkeys (fun x hx => get_of_mem hok.srt (hmem x hx)) (fun j b cs hj => by
    obtain ⟨c, hc⟩ := hok.lle.get _ _ (mkL_get (i := 1000) hj)
    exact ⟨c, hc⟩)
  have hst := hok.step
  have hp1 : s.mem.res.Perm (L2.map lres ++ (blks (setC H (csOf K2)) ++ s.mem.R.map Prod.snd)) := by
    unfold Mem.res
    refine (hperm.append_right _).trans ?_
    rw [hb1, ← List.append_assoc]
    exact List.perm_append_comm.append_right _
  have hst1 := hst.perm_right hp1
  obtain ⟨L₂, I₁, h, hf⟩ := freezeL_sound hst1.sat h
  have hst2 := hst1.trans hf
  obtain ⟨K3, L₃, h, hperm3⟩ : ∃ (K3 L₃ : List (Nat × Lb)), freezeR s.mem.R fR I₁ (fun R₁ I₂ => pickR R₁ kR fun Rk _ => Q v (csOf K2) (K3.map lres ++ Rk) I₂) ∧ (L₂.map lres).Perm (K3.map lres ++ L₃.map lres) := by
    obtain ⟨K3, L₃, h, _, _, hpt3⟩ := pickL_pt h
    obtain ⟨K4, L4, ⟨rfl, rfl⟩, hperm4, _, _, _⟩ := pickL_sound (hpt3 (fun K4 L4 => K4 = K3 ∧ L4 = L₃) ⟨rfl, rfl⟩)
    refine ⟨K4, L4, h, ?_⟩
    have : ∀ K : List (Nat × Lb), blks (hOf K) = K.map lres := fun K => by
      induction K with
      | nil => rfl
      | cons x K ih => obtain ⟨id, lb⟩ := x; simp only [hOf, blks, List.map_cons, lres] at ih ⊢; rw [ih]
    rw [this] at hperm4
    exact hperm4
  have hp2 : (L₂.map lres ++ (blks (setC H (csOf K2)) ++ s.mem.R.map Prod.snd)).Perm ((blks (setC H (csOf K2)) ++ L₂.map lres) ++ s.mem.R.map Prod.snd) := by
    rw [← List.append_assoc]
    exact List.perm_append_comm.append_right _
  have hst3 := hst2.perm_right hp2
  obtain ⟨R₁, I₂, h, hf2⟩ := freezeR_sound hst3.sat h
  have hst4 := hst3.trans hf2
  obtain ⟨Rk, R₂, h, hperm4⟩ := pickR_sound h
  refine ⟨csOf K2, K3.map lres ++ Rk, I₂, hb2, ?_, h⟩
  have hp3 : ((blks (setC H (csOf K2)) ++ L₂.map lres) ++ R₁.map Prod.snd).Perm ((blks (setC H (csOf K2)) ++ (K3.map lres ++ Rk)) ++ (L₃.map lres ++ R₂.map Prod.snd)) := by
    refine ((hperm3.append_left _).append hperm4).trans ?_
    simp only [List.append_assoc]
    refine List.Perm.append_left _ (List.Perm.append_left _ ?_)
    rw [← List.append_assoc, ← List.append_assoc]
    exact List.perm_append_comm.append_right _
  exact (hst4.perm_right hp3).sub_right (List.sublist_append_left _ _)
theorem tov_run {s : St} {a : Act} {w : World} (hok : Ok C nt s a w) {t : Nat} {sv : SV} (h : get s.env t = some sv) {c : Value → Prop} (hc : tov s.mem.L sv c) : c (a.tmps.getD t undef) :=
  tov_sound hc (hok.env t sv h)
theorem resK_ok (hT : ∀ t i, TT t = some i → tiOf P t = some i) {s : St} {a : Act} {w : World} (hok : Ok C nt s a w) : ∀ {rs : List ResultVar} {c : List Value → Prop}, resK TT s rs c →
    ∃ vs, c vs ∧ (rs.mapM fun r => (match r with | .tmp t => pure (a.tmps.getD t undef) | .cell x t => do loadVar t (← asAddr (a.tmps.getD x undef)) : Sem Value)).run P w = .ok vs w
  | [], c, h => ⟨[], h, by simp⟩
  | .tmp t :: r, c, h => by
    simp only [resK] at h
    split at h
    · rename_i sv e
      have h1 := tov_run hok e h
      obtain ⟨vs, h2, h3⟩ := resK_ok hT hok h1
      refine ⟨_, h2, ?_⟩
      simp only [List.mapM_cons, Sem.run_bind, Sem.run_pure, Result.andThen_ok, h3]
    · exact h.elim
  | .cell x t :: r, c, h => by
    simp only [resK] at h
    split at h
    · rename_i id off e
      split at h
      · rename_i lb hl
        obtain ⟨lb', g1, g2⟩ := hok.env x _ e
        rw [hl] at g1
        cases g1
        have hrd : ∀ xs : List Value, (∀ j y, xs[j]? = some y → lb.cs[off + j]? = some y) → ∀ j y, xs[j]? = some y → w.cell? ⟨lb.b, off + j, none⟩ = some y := fun xs hxs => reads_cell hok.step.sat (.loc id lb.cs hl hxs)
        have key : ∃ v, (loadVar t ⟨lb.b, off, none⟩).run P w = .ok v w ∧ resK TT s r fun vs => c (v :: vs) := by
          unfold partK at h
          split at h
          · rename_i i hi
            split at h
            · rename_i ha
              obtain ⟨xs, h3, h4, h5, h6⟩ := takeAt_sound h
              refine ⟨_, run_loadVar_agg (hT _ _ hi) ha h4 (hrd xs fun j y e => ?_), h3⟩
              rw [h5, List.getElem?_take] at e
              split at e
              · simpa using e
              · cases e
            · rename_i ha
              obtain ⟨y, h3, h4⟩ := cellAt_sound h
              refine ⟨_, run_loadVar_one (hT _ _ hi) ha ?_, h3⟩
              have := hrd [y] (fun j z e => by
                cases j with
                | zero => simp at e; subst e; exact h4
                | succ j => simp at e) 0 y rfl
              simpa using this
          · exact h.elim
        obtain ⟨v, h1, h2⟩ := key
        obtain ⟨vs, h3, h4⟩ := resK_ok hT hok h2
        refine ⟨_, h3, ?_⟩
        have ha : (asAddr (a.tmps.getD x undef)).run P w = .ok ⟨lb.b, off, none⟩ w := by rw [g2]; rfl
        simp only [List.mapM_cons, Sem.run_bind, ha, Sem.run_pure, Result.andThen_ok, h1, h4]
      · exact h.elim
    · exact h.elim
theorem results_ok (hT : ∀ t i, TT t = some i → tiOf P t = some i) {s : St} {a : Act} {w : World} (hok : Ok C nt s a w) {fn : Func} {c : List Value → Prop} (h : resK TT s fn.results.toList c) :
    ∃ vs, c vs ∧ (results fn a.tmps).run P w = .ok (tup vs) w := by
  obtain ⟨vs, h1, h2⟩ := resK_ok hT hok h
  refine ⟨vs, h1, ?_⟩
  unfold results
  simp only [Array.mapM_eq_mapM_toList, Sem.run_bind, Sem.run_map]
  erw [h2]
  simp only [Result.andThen_ok, Sem.run_pure]
  congr 1
  cases vs with
  | nil => rfl
  | cons v vs =>
    cases vs with
    | nil => rfl
    | cons u vs => simp [tup]
def LocsOk (args : List Value) (H : List (Nat × List Value)) : List (Nat × Nat) → Prop
  | [] => True
  | (j, i) :: r => (match args[j]?, get (mkL 1000 H) i with
      | some v, some lb => v = .pointer (some ⟨lb.b, 0, none⟩)
      | _, _ => False) ∧ LocsOk args H r
theorem LocsOk.get {args : List Value} {H : List (Nat × List Value)} : ∀ {locs : List (Nat × Nat)}, LocsOk args H locs → ∀ {j i : Nat}, Go.Proofs.YtcfglgelckjpmaaGreatDoor.get locs j = some i → ∃ lb, Go.Proofs.YtcfglgelckjpmaaGreatDoor.get (mkL 1000 H) i = some lb ∧ args[j]? = some (.pointer (some ⟨lb.b, 0, none⟩))
  | [], _, j, i, h => by simp [Go.Proofs.YtcfglgelckjpmaaGreatDoor.get] at h
  | (k, l) :: r, hl, j, i, h => by
    rw [get_cons] at h
    split at h
    · subst_vars
      cases h
      have h1 := hl.1
      split at h1
      · rename_i v lb e1 e2
        exact ⟨lb, e2, by rw [e1, h1]⟩
      · exact h1.elim
    · split at h
      · cases h
      · exact LocsOk.get hl.2 h
theorem mkEnv_keys {locs : List (Nat × Nat)} : ∀ {vs : List Value} {j : Nat}, ∀ x ∈ mkEnv locs j vs, j ≤ x.1
  | [], _, x, h => by simp [mkEnv] at h
  | v :: vs, j, x, h => by
    simp only [mkEnv] at h
    split at h <;> rcases List.mem_cons.1 h with rfl | h <;> first | exact Nat.le_refl _ | (have := mkEnv_keys x h; omega)
theorem mkEnv_srt {locs : List (Nat × Nat)} : ∀ {vs : List Value} {j : Nat}, Srt (mkEnv locs j vs)
  | [], _ => .nil
  | v :: vs, j => by
    simp only [mkEnv]
    split <;> exact List.pairwise_cons.2 ⟨fun x hx => by have := mkEnv_keys x hx; simp only; omega, mkEnv_srt⟩
theorem mkEnv_get {locs : List (Nat × Nat)} : ∀ {vs : List Value} {j t : Nat} {sv : SV}, get (mkEnv locs j vs) t = some sv → ∃ k v, t = j + k ∧ vs[k]? = some v ∧ sv = (match get locs t with | some i => .loc i 0 | none => .v v)
  | [], j, t, sv, h => by simp [mkEnv, get] at h
  | v :: vs, j, t, sv, h => by
    have h' : get ((j, (match get locs j with | some i => SV.loc i 0 | none => SV.v v)) :: mkEnv locs (j + 1) vs) t = some sv := by
      simp only [mkEnv] at h
      cases hl : get locs j with
      | none => rw [hl] at h; exact h
      | some i => rw [hl] at h; exact h
    rw [get_cons] at h'
    split at h'
    · subst_vars
      simp only [Option.some.injEq] at h'
      exact ⟨0, v, rfl, rfl, h'.symm⟩
    · split at h'
      · cases h'
      · obtain ⟨k, u, h1, h2, h3⟩ := mkEnv_get h'
        exact ⟨k + 1, u, by omega, by simpa using h2, h3⟩
theorem wp_of_body (hT : ∀ t i, TT t = some i → tiOf P t = some i) (hZ : ∀ t i, TT t = some i → i.d = .int .i64 → i.zero = .int .i64 0) (hmix : P.follows .mixedOrders = true) {kp : List Nat} {f : FuncId} {fn : Func} {locs : List (Nat × Nat)} {args : List Value}
    {H : List (Nat × List Value)} {R : List Res} {I : Imm} {Q : Value → List (List Value) → List Res → Imm → Prop} (hf : P.funcs[f]? = some fn) (hn : (fn.name == "runtime.NumGoroutine") = false) (hlen : args.length ≤ fn.ntmps) (hlocs : LocsOk args H locs)
    (h : Body P TT kp fn locs args H R I Q) : WP P f args.toArray H R I Q := by
  unfold Body at h
  split at h
  · rename_i c hb
    refine ⟨fun w => ?_, fun w hs => ?_⟩
    · unfold callFunc
      simp only [Sem.run_bind, run_program, Result.andThen_ok, hf, hn, Bool.false_eq_true, if_false, hb, Option.isNone_some, Sem.run_pure]
    · refine calls_of_wp hf hb ?_
      have hok : Ok ⟨I, blks H ++ R, w, [], mkL 1000 H⟩ fn.ntmps ⟨mkEnv locs 0 args, ⟨mkL 1000 H, mkR 2000 R, I⟩⟩ { tmps := args.toArray ++ Array.replicate (fn.ntmps - args.toArray.size) undef, defers := [] } w := by
        refine ⟨by simp; omega, rfl, fun t sv hg => ?_, mkEnv_srt, .refl _, mkL_srt, ?_⟩
        · obtain ⟨k, v, rfl, h2, rfl⟩ := mkEnv_get hg
          rw [Nat.zero_add]
          have hval : (args.toArray ++ Array.replicate (fn.ntmps - args.toArray.size) undef).getD k undef = v := by
            have hk : k < args.length := by
              rcases Nat.lt_or_ge k args.length with h' | h'
              · exact h'
              · rw [List.getElem?_eq_none h'] at h2; cases h2
            rw [Array.getD_eq_getD_getElem?, Array.getElem?_append_left (by simpa using hk)]
            simp [h2]
          rw [hval]
          split
          · rename_i i hi
            obtain ⟨lb, g1, g2⟩ := hlocs.get hi
            rw [h2] at g2
            cases g2
            exact ⟨lb, g1, rfl⟩
          · rfl
        · have : Mem.res ⟨mkL 1000 H, mkR 2000 R, I⟩ = blks H ++ R := by unfold Mem.res; rw [mkL_res, mkR_res]
          rw [this]
          exact .refl hs
      refine wp_mono (exec_ok hT hZ hmix c _ _ _ _ _ h hok) fun e a' w' hp => ?_
      have fin : ∀ s, (resK TT s fn.results.toList fun vs => Leaf (idsFrom 1000 H) s (tup vs) Q) → Ok ⟨I, blks H ++ R, w, [], mkL 1000 H⟩ fn.ntmps s a' w' →
          a'.defers = [] ∧ ∃ v, (results fn a'.tmps).run P w' = .ok v w' ∧ ∃ v' cs Rn I', Ending.returned v = .returned v' ∧ cs.length = H.length ∧ Step I (blks H ++ R) w I' (blks (setC H cs) ++ Rn) w' ∧ Q v' cs Rn I' := fun s hr hok' => by
        obtain ⟨vs, h1, h2⟩ := results_ok hT hok' hr
        obtain ⟨cs, Rn, I', g1, g2, g3⟩ := leaf_ok hok' h1
        exact ⟨hok'.dfr, _, h2, _, cs, Rn, I', rfl, g1, g2, g3⟩
      cases e with
      | normal => obtain ⟨s, hk, hok'⟩ := hp; exact fin s hk hok'
      | ret => obtain ⟨s, hk, hok'⟩ := hp; exact fin s hk hok'
      | exit i => obtain ⟨s, hk, hok'⟩ := hp; exact hk.elim
      | goto l => exact hp.elim
      | panic c => exact hp.elim
      | outgrown => exact hp.elim
  · exact h.elim
end body
end Go.Proofs.YtcfglgelckjpmaaGreatDoor
