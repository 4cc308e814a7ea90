/- Own machinery, and laws of the functions that the statement reaches (part 17). -/
import Derived.Test.YtcfglgelckjpmaaGreatDoorB16
set_option linter.all false
namespace Go.Proofs.YtcfglgelckjpmaaGreatDoor
section nodeD
variable {P : Program} {TT : Nat → Option TI} {ρ : Operand → Option SV} {ρv : Operand → Value} {σ : Mem} {k : SV → Mem → Prop} {w : World}
theorem nLoadD_n {cids : List Nat} {t : TypeId} {a : Operand} (h : nLoadD TT cids ρ σ k t a) : nLoad TT ρ σ k t a := by
  unfold nLoadD at h
  split at h
  · split at h
    · exact h.elim
    · exact h
  · rename_i b off e
    split at h
    · exact h.elim
    · rename_i i hi
      unfold nLoad
      simp only [hi, e]
      split at h
      · rename_i h1 h2
        simp only [h1, h2]
        exact h
      · rename_i n h1 h2
        simp only [h1, h2]
        obtain ⟨xs, g1, g2, g3⟩ := h
        exact ⟨xs, .imm g1, g2, g3⟩
      · rename_i h1
        simp only [h1]
        obtain ⟨x, g1, g2⟩ := h
        exact ⟨x, .imm g1, g2⟩
  · exact h.elim
theorem nLoadF_n {t : TypeId} {a : Operand} (h : nLoadF TT ρ σ k t a) : nLoad TT ρ σ k t a := by
  unfold nLoadF at h
  split at h
  · rename_i b off e
    split at h
    · exact h.elim
    · rename_i i hi
      unfold nLoad
      simp only [hi, e]
      split at h
      · exact h.elim
      · rename_i n h1 h2
        simp only [h1, h2]
        exact h
      · rename_i h1
        simp only [h1]
        exact h
  · rename_i id off e
    split at h
    · exact h.elim
    · rename_i i hi
      split at h
      · rename_i lb h1 h2
        unfold nLoad
        simp only [hi, e, h1, h2]
        exact h
      · exact h.elim
  · exact h.elim
theorem nConvF_n {dst : Option Nat} {s d : TypeId} {x : Operand} (h : nConvF TT ρ σ k dst s d x) : nConv TT ρ σ k dst s d x := by
  unfold nConvF at h
  split at h
  · rename_i i j d' hi hj
    split at h
    · rename_i e h3 h4
      split at h
      · rename_i h5
        unfold isU8 at h5
        have h0 := val_q h; clear h; obtain ⟨v, h, hv⟩ := h0
        unfold nConv
        simp only [hi, hj]
        refine hv rfl (.refl _) ?_
        split at h
        · simp only [h3, h4]
          cases hie : TT e with
          | none => rw [hie] at h5; cases h5
          | some ie =>
            simp only [hie] at h5 ⊢
            split at h5
            · rename_i h6
              simp only [h6]
              exact .inr ⟨d', rfl, h⟩
            · cases h5
        · exact h.elim
      · exact h.elim
    · exact h.elim
  · exact h.elim
theorem nConvD_n {dst : Option Nat} {s d : TypeId} {x : Operand} (h : nConvD TT ρ σ k s d x) : nConv TT ρ σ k dst s d x := by
  unfold nConvD at h
  split at h
  · rename_i i j hi hj
    unfold nConv
    simp only [hi, hj]
    obtain ⟨v, h, hv⟩ := val_q h
    refine hv rfl (.refl _) ?_
    unfold nConvB at h
    split at h
    · rename_i e1
      simp only [e1]
      exact h
    · rename_i e1
      simp only [e1]
      exact h
    · rename_i e1 hn
      split at h
      · rename_i e2
        split at h
        · rename_i e hu
          simp only [e1, e2]
          unfold isU8 at hu
          split at hu
          · rename_i ie hie
            split at hu
            · rename_i hd
              simp only [hie, hd]
              obtain ⟨bs, h1, h2⟩ := h
              exact ⟨bs, .imm h1, h2⟩
            · cases hu
          · cases hu
        · exact h.elim
      · exact h.elim
    · exact h.elim
  · exact h.elim
theorem nLookD_n {t : TypeId} {x ix : Operand} {ok : Bool} (h : nLookD TT ρ σ k t x ix ok) : nLookup P TT ρ σ k t x ix ok := by
  unfold nLookD at h
  split at h
  · rename_i i hi
    split at h
    · rename_i kt et tm r kvs hd hk
      split at h
      · rename_i h1 h2
        have h0 := val_q h; clear h; obtain ⟨v, h, hv⟩ := h0
        have h0 := val_q h; clear h; obtain ⟨u, h, hu⟩ := h0
        unfold nLookup
        simp only [hi, hd, h1, h2]
        refine hv rfl (.refl _) (hu rfl (.refl _) ?_)
        split at h
        · obtain ⟨rfl, m, g1, g2⟩ := h
          exact ⟨tm, kvs, m, theMap_get hk, g1, g2⟩
        · exact h.elim
      · exact h.elim
    · exact h.elim
  · exact h.elim
theorem mild_ok (hs : Sat σ.I σ.res w) {cids crs : List Nat} {d : Option Nat} {f : FuncId} {args : List Value} (h : nCallD P cids crs true σ k d f args) : OpOk P σ.I σ.res w (NK σ k) ((callFunc f args.toArray).run P w) := by
  obtain ⟨Qc, hw, _, hk⟩ := h
  rw [hw.enters w]
  refine ⟨rfl, (hw.calls w (hs.sub (List.nil_sublist _))).mono ?_⟩
  rintro e w' ⟨v, cs, Rn, I', rfl, hl, hst, rfl, hq⟩
  have hst' : Step σ.I [] w I' [] w' := by
    have : blks (setC [] cs) ++ ([] : List Res) = [] := by cases cs <;> rfl
    rw [this] at hst
    exact hst
  have := Step.framed (Rs := []) (F := σ.res) hs hst'
  exact ⟨v, I', σ.res, rfl, this, .v v, { σ with I := I' }, hk v I' hst'.le hq, rfl, .refl _, rfl, rfl⟩
theorem nCallD_ok (hsrt : Srt σ.L) (hs : Sat σ.I σ.res w) {cids crs : List Nat} {mild : Bool} {d : Option Nat} {f : FuncId} {args : List Value} (h : nCallD P cids crs mild σ k d f args) : OpOk P σ.I σ.res w (NK σ k) ((callFunc f args.toArray).run P w) := by
  cases mild with
  | true => exact mild_ok hs h
  | false =>
    refine nCallF_sound (d := d) hsrt hs ?_
    rcases h with h | h
    · exact .inl h
    · exact .inr ⟨cids, crs, [], h⟩
theorem nodeD_sound (hT : ∀ t i, TT t = some i → tiOf P t = some i) (hZ : ∀ t i, TT t = some i → i.d = .int .i64 → i.zero = .int .i64 0) (hsrt : Srt σ.L) (hf : Fits σ ρ ρv) (hF : ∀ f, ρv (.func f) = .func (.func f) #[] #[])
    (hs : Sat σ.I σ.res w) {cids crs ms : List Nat} {o : Oper} (h : nodeD P TT cids crs ms ρ σ k o) : OpOk P σ.I σ.res w (NK σ k) ((execOp ρv o).run P w) := by
  have N : node P TT ρ σ k o → OpOk P σ.I σ.res w (NK σ k) ((execOp ρv o).run P w) := fun h => node_sound hT hZ hsrt hf hF hs h
  unfold nodeD at h
  split at h
  case h_4 =>
    rename_i c e
    split at h
    · rename_i f hc
      replace h := vals_sound hf h
      simp only [execOp, e, resolve, map_args, hc, hF, Deferred.ofValue, Sem.run_bind, Sem.run_pure, Result.andThen_ok, invoke, Array.empty_append, Array.append_empty]
      exact nCallD_ok hsrt hs h
    · rename_i x _ hc
      replace h := vals_sound hf (val_sound hf h)
      split at h
      · rename_i f first captured ex
        have := nCallD_ok hsrt hs h
        simp only [execOp, e, resolve, map_args, hc, ex, Deferred.ofValue, Sem.run_bind, Sem.run_pure, Result.andThen_ok, invoke]
        have e2 : first ++ (c.args.toList.map ρv).toArray ++ captured = (first.toList ++ c.args.toList.map ρv ++ captured.toList).toArray := by apply Array.toList_inj.1; simp
        rw [e2]; exact this
      · exact h.elim
    · rename_i b hc
      refine N ?_
      simp only [node, e, nCall, hc]
      split at h
      · rename_i x t ha ht
        simp only [ha, ht]
        unfold nLenD at h
        unfold nLen
        split at h
        · rename_i i hi
          simp only [hi]
          split at h
          · exact h.elim
          · rename_i hnm
            obtain ⟨v, h, hv⟩ := val_q h
            refine hv rfl (.refl _) ?_
            split
            · exact (hnm _ _ ‹i.d = _›).elim
            · exact (hnm _ _ ‹i.d = _›).elim
            · exact h
        · exact h.elim
      · rename_i s x t u ha ht
        simp only [ha, ht]
        exact h
      · rename_i s x t u ha ht
        simp only [ha, ht]
        exact h
      · exact h.elim
    · exact h.elim
  all_goals first
    | exact h.elim
    | (rename_i e; exact N (by simp only [node, e]; first | (split at h; exact nLoadF_n h; exact nLoadD_n h) | (split at h; exact nConvF_n h; exact nConvD_n h) | exact nLookD_n h | exact h))
end nodeD
structure Ctx where
  I : Imm
  Rs : List Res
  w : World
  D : List Deferred
  L : List (Nat × Lb)
structure Ok (C : Ctx) (nt : Nat) (s : St) (a : Act) (w : World) : Prop where
  size : a.tmps.size = nt
  dfr : a.defers = C.D
  env : ∀ t sv, get s.env t = some sv → Den s.mem.L sv (a.tmps.getD t undef)
  senv : Srt s.env
  lle : LLe C.L s.mem.L
  srt : Srt s.mem.L
  step : Step C.I C.Rs C.w s.mem.I s.mem.res w
section walk
variable {P : Program} {TT : Nat → Option TI} {nt : Nat} {C : Ctx}
theorem Ok.fits {s : St} {a : Act} {w : World} (h : Ok C nt s a w) : Fits s.mem (opSV s.env) a.eval := by
  intro x sv e
  cases x with
  | tmp t => exact h.env t sv e
  | const v => cases e; rfl
  | global g => cases e; rfl
  | func f => cases e; rfl
theorem Ok.put {env : List (Nat × SV)} {σ σ' : Mem} {a : Act} {w w' : World} (h : Ok C nt ⟨env, σ⟩ a w) {dst : Option Nat} {sv : SV} {v : Value} (hd : dOk nt dst) (hv : Den σ'.L sv v) (hl : LLe σ.L σ'.L)
    (hst : Step σ.I σ.res w σ'.I σ'.res w') : Ok C nt ⟨putE dst sv env, σ'⟩ (a.put dst v) w' := by
  refine ⟨?_, ?_, fun t sv' e => ?_, ?_, h.lle.trans hl, hl.srt h.srt, h.step.trans hst⟩
  · cases dst <;> simp [Act.put, h.size]
  · cases dst <;> simp [Act.put, h.dfr]
  · cases dst with
    | none => exact (h.env t sv' e).mono hl
    | some d =>
      simp only [putE] at e
      rw [get_ins] at e
      split at e
      · subst_vars
        cases e
        have hlt : d < a.tmps.size := by rw [h.size]; exact hd
        simpa [Act.put, hlt] using hv
      · rename_i hne
        have := (h.env t sv' e).mono hl
        simpa [Act.put, Array.getElem?_setIfInBounds_ne hne] using this
  · cases dst with
    | none => exact h.senv
    | some d => exact h.senv.ins
theorem wants_sound {s : St} {a : Act} {w : World} (h : Ok C nt s a w) {ops : Array Oper} {o : Oper} {b : Bool} (hw : wants ops.toList o s.env = some b) : Region.wanted o (yielded ops a.tmps) = b := by
  unfold wants at hw
  unfold Region.wanted
  split at hw
  · rename_i hg
    rw [hg]
    simpa using hw
  · rename_i j want hg
    rw [hg]
    simp only
    split at hw
    · rename_i d hd
      split at hw
      · rename_i b' hb
        simp only [Option.some.injEq] at hw
        subst hw
        have h1 : a.tmps.getD d undef = .bool b' := h.env d _ hb
        have hd' : (ops[j]?).bind (·.dst) = some d := by
          unfold dstAt at hd
          rw [Array.getElem?_toList] at hd
          split at hd
          · rename_i o' ho; rw [ho]; exact hd
          · cases hd
        have h2 : a.tmps[d]? = some (.bool b') := by
          rcases Nat.lt_or_ge d a.tmps.size with hlt | hge
          · simp [hlt] at h1 ⊢; exact h1
          · simp [Array.getElem?_eq_none hge] at h1
            cases h1
        unfold yielded
        simp only [hd', Option.bind_some, h2]
        cases b' <;> cases want <;> rfl
      · rename_i vs hb
        simp only [Option.some.injEq] at hw
        subst hw
        have h1 : a.tmps.getD d undef = .tuple vs := h.env d _ hb
        have hd' : (ops[j]?).bind (·.dst) = some d := by
          unfold dstAt at hd
          rw [Array.getElem?_toList] at hd
          split at hd
          · rename_i o' ho; rw [ho]; exact hd
          · cases hd
        unfold yielded
        rcases Nat.lt_or_ge d a.tmps.size with hlt | hge
        · have h2 : a.tmps[d]? = some (.tuple vs) := by
            simp [hlt] at h1 ⊢; exact h1
          simp only [hd', Option.bind_some, h2]
          cases want <;> rfl
        · simp only [hd', Option.bind_some, Array.getElem?_eq_none hge]
          cases want <;> rfl
      · cases hw
    · cases hw
variable {Q : Exit → Act → World → Prop}
theorem gNode_ok (hT : ∀ t i, TT t = some i → tiOf P t = some i) (hZ : ∀ t i, TT t = some i → i.d = .int .i64 → i.zero = .int .i64 0) {s : St} {a : Act} {w : World} (h : Ok C nt s a w) {ops : Array Oper} {i : Nat} {o : Oper} (ho : ops[i]? = some o)
    {K : SV → Mem → Prop} {F : (Operand → Option SV) → Mem → (SV → Mem → Prop) → Prop}
    (hF : ∀ {ρv : Operand → Value}, Srt s.mem.L → Fits s.mem (opSV s.env) ρv → (∀ f, ρv (.func f) = .func (.func f) #[] #[]) → Sat s.mem.I s.mem.res w → F (opSV s.env) s.mem K → OpOk P s.mem.I s.mem.res w (NK s.mem K) ((execOp ρv o).run P w))
    (hg : match wants ops.toList o s.env with | some true => F (opSV s.env) s.mem K | some false => K (.v undef) s.mem | none => False)
    {k : St → Prop} (hK : ∀ sv σ, K sv σ → dOk nt o.dst ∧ k ⟨putE o.dst sv s.env, σ⟩) :
    wpOp P ops Q i (fun a' w' => ∃ s', k s' ∧ Ok C nt s' a' w') a w := by
  unfold wpOp
  simp only [ho]
  split at hg
  · rename_i hw
    rw [wants_sound h hw, if_pos rfl]
    refine .inl (upon_of_ok (hF h.srt h.fits (fun _ => rfl) h.step.sat hg) ?_)
    rintro v w' Rs' I' hst ⟨sv, σ', hk, hden, hl, rfl, rfl⟩
    obtain ⟨hd, hk⟩ := hK _ _ hk
    obtain ⟨env, σ⟩ := s
    exact ⟨_, hk, h.put hd hden hl hst⟩
  · rename_i hw
    rw [wants_sound h hw]
    simp only [Bool.false_eq_true, if_false]
    obtain ⟨hd, hk⟩ := hK _ _ hg
    obtain ⟨env, σ⟩ := s
    exact ⟨_, hk, h.put hd rfl (.refl _) (.refl h.step.sat)⟩
  · exact hg.elim
theorem step1D_ok (hT : ∀ t i, TT t = some i → tiOf P t = some i) (hZ : ∀ t i, TT t = some i → i.d = .int .i64 → i.zero = .int .i64 0) {s : St} {a : Act} {w : World} (h : Ok C nt s a w) {ops : Array Oper} {i : Nat} {o : Oper} (ho : ops[i]? = some o)
    {cids crs ms : List Nat} {k : St → Prop} (hk : step1D P TT nt cids crs ms ops.toList o s k) : wpOp P ops Q i (fun a' w' => ∃ s', k s' ∧ Ok C nt s' a' w') a w := by
  rw [step1D_iff] at hk
  exact gNode_ok hT hZ h ho (F := fun ρ σ k => nodeD P TT cids crs ms ρ σ k o) (fun h1 h2 h3 h4 h5 => nodeD_sound hT hZ h1 h2 h3 h4 h5) hk (fun _ _ h => h)
theorem step1_ok (hT : ∀ t i, TT t = some i → tiOf P t = some i) (hZ : ∀ t i, TT t = some i → i.d = .int .i64 → i.zero = .int .i64 0) {s : St} {a : Act} {w : World} (h : Ok C nt s a w) {ops : Array Oper} {i : Nat} {o : Oper} (ho : ops[i]? = some o)
    {k : St → Prop} (hk : step1 P TT nt ops.toList o s k) : wpOp P ops Q i (fun a' w' => ∃ s', k s' ∧ Ok C nt s' a' w') a w := by
  obtain ⟨env, σ⟩ := s
  unfold step1 at hk
  simp only at hk
  rw [guarded_iff] at hk
  refine gNode_ok hT hZ h ho (K := fun sv σ => normM σ fun σ => setD nt o.dst sv env fun e => k ⟨e, σ⟩) (F := fun ρ σ k => node P TT ρ σ k o) (fun h1 h2 h3 h4 h5 => node_sound hT hZ h1 h2 h3 h4 h5) ?_ (fun sv σ' h => by rw [normM_iff, setD_iff] at h; exact h)
  simp only
  split at hk
  · rename_i hw; rw [hw]; exact hk
  · rename_i hw; rw [hw]; simp only; rw [normM_iff]; exact hk
  · exact hk.elim
theorem get_keep {α : Type} {ks : List Nat} {l : List (Nat × α)} (hs : Srt l) {t : Nat} {v : α} (h : get (keep ks l) t = some v) : get l t = some v :=
  get_of_mem hs ((keep_sub ks l).subset (get_mem h))
theorem Ok.clean {s : St} {a : Act} {w : World} (h : Ok C nt s a w) (kp : List Nat) : Ok C nt ⟨keep kp s.env, s.mem⟩ a w :=
  { h with env := fun t sv e => h.env t sv (get_keep h.senv e), senv := h.senv.sub (keep_sub _ _) }
theorem autoZ_ok {a : Act} {w : World} {k : St → Prop} : ∀ {zs : List Nat} {s : St}, autoZ zs s k → Ok C nt s a w → ∃ s', k s' ∧ Ok C nt s' a w
  | [], s, h, hok => ⟨s, h, hok⟩
  | z :: zs, ⟨env, ⟨L, R, I⟩⟩, h, hok => by
    simp only [autoZ] at h
    split at h
    · exact autoZ_ok h hok
    · split at h
      · exact autoZ_ok h hok
      · rename_i r hr
        have hfr : freezeR R [Nat.sub z 10000] I fun R' I' => autoZ zs ⟨env, ⟨L, R', I'⟩⟩ k := by
          simp only [freezeR, hr]
          exact h
        obtain ⟨R1, I1, q1, q2⟩ := freezeR_sound (X := L.map lres) hok.step.sat hfr
        exact autoZ_ok q1 { hok with step := hok.step.trans q2 }
theorem cleanS_ok {kp : List Nat} {s : St} {k : St → Prop} {a : Act} {w : World} (h : cleanS kp s k) (hok : Ok C nt s a w) : ∃ s', k s' ∧ Ok C nt s' a w := by
  obtain ⟨env, σ⟩ := s
  simp only [cleanS, keepK_eq] at h
  exact autoZ_ok h (hok.clean kp)
theorem normS_iff {s : St} {k : St → Prop} : normS s k ↔ k s := by
  obtain ⟨env, σ⟩ := s
  simp only [normS, forceS_eq, normM_iff]
theorem execOps_ok (hT : ∀ t i, TT t = some i → tiOf P t = some i) (hZ : ∀ t i, TT t = some i → i.d = .int .i64 → i.zero = .int .i64 0) {kp : List Nat} {ops : Array Oper} {k : St → Prop} (hQ : ∀ s a w, k s → Ok C nt s a w → Q .normal a w) :
    ∀ (r : List Oper) (n : Nat) (s : St) (a : Act) (w : World), ops.toList.drop n = r → execOps P TT nt kp ops.toList r s k → Ok C nt s a w → wpOps P ops Q (List.range' n r.length) a w
  | [], n, s, a, w, _, h, hok => by
    simp only [execOps] at h
    obtain ⟨s', h1, h2⟩ := cleanS_ok h hok
    exact hQ _ _ _ h1 h2
  | o :: r, n, s, a, w, hd, h, hok => by
    have hn : ops[n]? = some o := by
      rw [← Array.getElem?_toList]
      have := congrArg (fun l => l[0]?) hd
      simpa using this
    rw [List.length_cons, List.range'_succ, wpOps_cons]
    refine wpOp_mono ?_ (step1_ok hT hZ hok hn h)
    rintro a' w' ⟨s', hk, hok'⟩
    refine execOps_ok hT hZ hQ r (n + 1) s' a' w' ?_ hk hok'
    have := congrArg List.tail hd
    simpa using this
theorem front {cids crs ms kp : List Nat} {all : List Oper} {i : Nat} {q : List Nat} {k : St → Prop} : ∀ {p : List Nat} {s : St}, Srt s.mem.L → (∀ y ∈ p, CrossOk ms all y i) → execOpsD P TT nt kp cids crs ms all (p ++ i :: q) s k →
    execOpsD P TT nt kp cids crs ms all (i :: (p ++ q)) s k
  | [], s, _, _, h => h
  | y :: p, s, hs, hc, h => by
    obtain ⟨oy, ox, hy, hx, h1, h2⟩ := hc y (by simp)
    simp only [List.cons_append, execOpsD, hy, hx] at h ⊢
    refine swap2 hs h2 h1 ?_
    rw [step1D_iff] at h ⊢
    refine gNode_m (ld := false) (fun h => by cases h) hs h (fun _ _ => rfl) fun sv σ' hst hk => ⟨hk.1, ?_⟩
    have := front (p := p) (s := ⟨putE oy.dst sv s.env, σ'⟩) (hst.lle.srt hs) (fun z hz => hc z (by simp [hz])) hk.2
    simp only [execOpsD, hx] at this
    exact this
theorem any_ok (hT : ∀ t i, TT t = some i → tiOf P t = some i) (hZ : ∀ t i, TT t = some i → i.d = .int .i64 → i.zero = .int .i64 0) {cids crs ms kp : List Nat} {ops : Array Oper} {k : St → Prop} (hQ : ∀ s a w, k s → Ok C nt s a w → Q .normal a w) :
    ∀ (fuel : Nat) (r done : List Nat) (listed : Array Bool) (s : St) (a : Act) (w : World), r.length ≤ fuel → listed.size = ops.size → (∀ j, j < ops.size → (j ∈ r ↔ listed.getD j true = false)) → (∀ j, listed.getD j false = true ↔ j ∈ done) →
      r.Pairwise (fun y x => Anc ops.toList x y ∨ CrossOk ms ops.toList y x) → Topo ops.toList r done → (∀ j ∈ done, ∀ l, Anc ops.toList j l → l ∈ done) →
      execOpsD P TT nt kp cids crs ms ops.toList r s k → Ok C nt s a w → wpAny P .any ops Q fuel listed a w := by
  intro fuel
  have lt_of_some : ∀ {j : Nat} {o : Oper}, ops[j]? = some o → j < ops.size := fun h => (Array.getElem?_eq_some_iff.1 h).1
  have hready : ∀ {listed : Array Bool} {r : List Nat} {j : Nat}, (∀ j, j < ops.size → (j ∈ r ↔ listed.getD j true = false)) → j ∈ Region.ready .any ops listed → j ∈ r := fun hr hj => by
    obtain ⟨h0, o, ho, _⟩ := mem_ready.1 hj
    exact (hr _ (lt_of_some ho)).2 h0
  have hfin : ∀ {s : St} {a : Act} {w : World}, execOpsD P TT nt kp cids crs ms ops.toList [] s k → Ok C nt s a w → Q .normal a w := fun h hok => by
    simp only [execOpsD] at h
    obtain ⟨s', h1, h2⟩ := cleanS_ok h hok
    exact hQ _ _ _ h1 h2
  have hhead : ∀ {i : Nat} {r done : List Nat} {listed : Array Bool}, (∀ j, j < ops.size → (j ∈ i :: r ↔ listed.getD j true = false)) → (∀ j, listed.getD j false = true ↔ j ∈ done) → Topo ops.toList (i :: r) done → i ∈ Region.ready .any ops listed := by
    intro i r done listed hr hd ht
    obtain ⟨⟨x, hx, hp⟩, _, _⟩ := ht
    rw [Array.getElem?_toList] at hx
    refine mem_ready.2 ⟨(hr i (lt_of_some hx)).1 (by simp), x, hx, fun e he hb => (hd _).2 (hp _ ?_)⟩
    unfold predsOf
    exact List.mem_map.2 ⟨e, List.mem_filter.2 ⟨by simpa using he, hb⟩, rfl⟩
  induction fuel with
  | zero =>
    intro r done listed s a w hlen hsz hr hd hpw ht hcl h hok
    obtain rfl : r = [] := List.eq_nil_of_length_eq_zero (by omega)
    refine ⟨?_, hfin h hok⟩
    cases hl : Region.ready .any ops listed with
    | nil => rfl
    | cons x xs => exact absurd (hready hr (by rw [hl]; simp)) (by simp : x ∉ [])
  | succ fuel ih =>
    intro r done listed s a w hlen hsz hr hd hpw ht hcl h hok
    refine ⟨fun hnil => ?_, fun i hi => ?_⟩
    · cases r with
      | nil => exact hfin h hok
      | cons i r =>
        have := hhead hr hd ht
        rw [hnil] at this
        simp at this
    · have hir := hready hr hi
      obtain ⟨p, q, rfl⟩ := List.append_of_mem hir
      obtain ⟨h0, o, ho, hpre⟩ := mem_ready.1 hi
      have hol : ops.toList[i]? = some o := by rw [Array.getElem?_toList]; exact ho
      have hpd : ∀ j ∈ predsOf o, j ∈ done := fun j hj => by
        unfold predsOf at hj
        obtain ⟨e, he, rfl⟩ := List.mem_map.1 hj
        obtain ⟨he1, he2⟩ := List.mem_filter.1 he
        exact (hd _).1 (hpre e (by simpa using he1) he2)
      have hanc : ∀ l, Anc ops.toList i l → l ∈ done := fun l hl => by
        cases hl with
        | base h1 hj => rw [hol] at h1; cases h1; exact hpd _ hj
        | step h1 hl h2 => rw [hol] at h1; cases h1; exact hcl _ (hpd _ hl) _ h2
      have hnot : ∀ j ∈ p ++ i :: q, j ∉ done := fun j hj hjd => by
        have h1 := (hd j).2 hjd
        have hlt : j < ops.size := by
          rw [← hsz]
          rcases Nat.lt_or_ge j listed.size with h' | h'
          · exact h'
          · simp [Array.getElem?_eq_none h'] at h1
        have h2 := (hr j hlt).1 hj
        rw [Array.getD_eq_getD_getElem?, Array.getElem?_eq_getElem (by rw [hsz]; exact hlt)] at h1 h2
        simp at h1 h2
        rw [h1] at h2; cases h2
      have hfr := front hok.srt (fun y hy => by
        have h1 := (List.pairwise_append.1 hpw).2.2 y hy i (by simp)
        rcases h1 with h1 | h1
        · exact absurd (hanc y h1) (hnot y (by simp [hy]))
        · exact h1) h
      simp only [execOpsD, hol] at hfr
      refine wpOp_mono ?_ (step1D_ok hT hZ hok ho hfr)
      rintro a' w' ⟨s', hk, hok'⟩
      have hnd : i ∉ p ++ q := by
        have := topo_nodup ht
        rw [List.nodup_append] at this
        intro hm
        rcases List.mem_append.1 hm with hm | hm
        · exact this.2.2 i hm i (by simp) rfl
        · exact (List.nodup_cons.1 this.2.1).1 hm
      refine ih (p ++ q) (i :: done) (listed.setIfInBounds i true) s' a' w' ?_ (by simp [hsz]) (fun j hj => ?_) (fun j => ?_) (hpw.sublist ?_) (topo_front ht) (fun j hj l hl => ?_) hk hok'
      · simp at hlen ⊢; omega
      · by_cases hji : i = j
        · subst hji
          have : i < listed.size := by rw [hsz]; exact hj
          simp [this, hnd]
        · rw [getD_set_ne true hji, ← hr j hj]
          simp [Ne.symm hji]
      · by_cases hji : i = j
        · subst hji
          have : i < listed.size := by rw [hsz]; exact lt_of_some ho
          simp [this]
        · rw [getD_set_ne false hji, hd j]
          simp [Ne.symm hji]
      · exact List.Sublist.append (.refl _) (List.sublist_cons_self _ _)
      · rcases List.mem_cons.1 hj with rfl | hj
        · exact List.mem_cons_of_mem _ (hanc l hl)
        · exact List.mem_cons_of_mem _ (hcl j hj l hl)
end walk
end Go.Proofs.YtcfglgelckjpmaaGreatDoor
