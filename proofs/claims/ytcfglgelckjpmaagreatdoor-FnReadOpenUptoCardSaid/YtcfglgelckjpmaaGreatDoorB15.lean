/- Own machinery, and laws of the functions that the statement reaches (part 15). -/
import Derived.Test.YtcfglgelckjpmaaGreatDoorB14
set_option linter.all false
namespace Go.Proofs.YtcfglgelckjpmaaGreatDoor
section swap
variable {P : Program} {TT : Nat → Option TI}
theorem conv_pure {s d : Nat} (h : (match isTo s d with | true => Cls.fresh | false => Cls.pure) = .pure ∨ (match isTo s d with | true => Cls.fresh | false => Cls.pure) = .mv) : isTo s d = false := by
  cases e : isTo s d
  · rfl
  · simp [e] at h
theorem conv_fresh {s d : Nat} (h : (match isTo s d with | true => Cls.fresh | false => Cls.pure) = .mv ∨ (match isTo s d with | true => Cls.fresh | false => Cls.pure) = .fresh ∨ (match isTo s d with | true => Cls.fresh | false => Cls.pure) = .lay ∨ (match isTo s d with | true => Cls.fresh | false => Cls.pure) = .look) : isTo s d = true := by
  cases e : isTo s d
  · simp [e] at h
  · rfl
theorem conv_q {R : Mem → Mem → Prop} {dst : Option Nat} {s d : TypeId} {x : Operand} (hto : isTo s d = false) (hR : ∀ {σ σ'}, R σ σ' → LLe σ.L σ'.L ∧ σ.I.le σ'.I) :
    QS R [x] (fun ρ σ k => match isTo s d with | true => nConvF TT ρ σ k dst s d x | false => nConvD TT ρ σ k s d x) := by
  simp only [hto]
  exact nConvD_q hR
theorem load_nopure {ms : List Nat} {d : Option Nat} (h : (match isIn ms d with | true => Cls.lload | false => Cls.load) = .pure ∨ (match isIn ms d with | true => Cls.lload | false => Cls.load) = .mv) : False := by
  cases e : isIn ms d <;> simp [e] at h
theorem nodeD_pure {cids crs ms : List Nat} {o : Oper} (hc : clsOf ms o = .pure ∨ clsOf ms o = .mv) : QS (Stb false cids) o.op.operands.toList (fun ρ σ k => nodeD P TT cids crs ms ρ σ k o) := by
  intro ρ σ k h
  have hR : ∀ {σ σ' : Mem}, Stb false cids σ σ' → LLe σ.L σ'.L := fun h => h.lle
  have hR2 : ∀ {σ σ' : Mem}, Stb false cids σ σ' → LLe σ.L σ'.L ∧ σ.I.le σ'.I := fun h => ⟨h.lle, h.le⟩
  simp only [nodeD] at h ⊢
  unfold clsOf at hc
  cases e : o.op <;> rw [e] at hc <;> rw [e] at h <;> simp only [Op.operands] <;> first
    | (exfalso; simp at hc; done)
    | exact nMove_q ρ σ k h
    | exact nPick_q hR ρ σ k h
    | exact nNil_q ρ σ k h
    | exact nBin_q hR ρ σ k h
    | exact nUn_q hR ρ σ k h
    | exact conv_q (conv_pure hc) hR2 ρ σ k h
    | exact (load_nopure hc).elim
    | exact nIface_q hR ρ σ k h
    | exact nFunc_q hR ρ σ k h
    | exact nFieldAddr_q ρ σ k h
    | exact nField_q hR ρ σ k h
    | exact nIndexAddr_q hR ρ σ k h
    | exact nIndex_q hR ρ σ k h
    | (obtain ⟨sv, h1, h2⟩ := nBuild_q hR ρ σ k h
       exact ⟨sv, h1, fun ρ' σ' k' he hr h' => h2 ρ' σ' k' (fun x hx => he x (by simpa using hx)) hr h'⟩)
    | (obtain ⟨sv, h1, h2⟩ := nSlice_q hR ρ σ k h
       exact ⟨sv, h1, fun ρ' σ' k' he hr h' => h2 ρ' σ' k' (fun x hx => he x (by simpa [or_assoc] using hx)) hr h'⟩)
    | skip
  rename_i c
  simp only at hc h
  split at h
  · rename_i f hcal; rw [hcal] at hc; simp only at hc; cases hm : isIn ms o.dst <;> simp [hm] at hc
  · rename_i f _ hcal; rw [hcal] at hc; simp only at hc; cases hm : isIn ms o.dst <;> simp [hm] at hc
  · rename_i b hcal
    split at h
    · rename_i x t ha ht
      obtain ⟨sv, h1, h2⟩ := nLenD_q hR ρ σ k h
      refine ⟨sv, h1, fun ρ' σ' k' he hr h' => ?_⟩
      exact h2 ρ' σ' k' (fun y hy => he y (mem_args (by rw [ha]; exact hy))) hr h'
    · simp [hcal] at hc
    · simp [hcal] at hc
    · exact h.elim
  · exact h.elim
theorem load_only {ms : List Nat} {d : Option Nat} (h : (match isIn ms d with | true => Cls.lload | false => Cls.load) = .load) : isIn ms d = false := by
  cases e : isIn ms d
  · rfl
  · simp [e] at h
theorem load_q {cids ms : List Nat} {d : Option Nat} {t : TypeId} {a : Operand} (hd : isIn ms d = false) : QS (Stb true cids) [a] (fun ρ σ k => match isIn ms d with | true => nLoadF TT ρ σ k t a | false => nLoadD TT cids ρ σ k t a) := by
  simp only [hd]
  exact nLoadD_q
theorem nLoadF_q {t : TypeId} {a : Operand} : QS (fun σ σ' => σ' = σ) [a] (fun ρ σ k => nLoadF TT ρ σ k t a) := by
  intro ρ σ k h
  simp only [nLoadF] at h ⊢
  split at h
  · rename_i b off e
    split at h
    · exact h.elim
    · rename_i i hi
      split at h
      · exact h.elim
      · rename_i n h0 h1
        obtain ⟨xs, g1, g2, g3⟩ := h
        refine ⟨_, g3, fun ρ' σ' k' he hr h' => ?_⟩
        subst hr
        rw [he a (by simp), e]
        simp only [hi, h0, h1]
        exact ⟨xs, g1, g2, h'⟩
      · rename_i h0
        obtain ⟨x, g1, g2⟩ := h
        refine ⟨_, g2, fun ρ' σ' k' he hr h' => ?_⟩
        subst hr
        rw [he a (by simp), e]
        simp only [hi, h0]
        exact ⟨x, g1, h'⟩
  · rename_i id off e
    split at h
    · exact h.elim
    · rename_i i hi
      split at h
      · rename_i lb h0 hl
        obtain ⟨x, g1, g2⟩ := cellAt_ang _ h
        refine ⟨_, g1, fun ρ' σ' k' he hr h' => ?_⟩
        subst hr
        rw [he a (by simp), e]
        simp only [hi, h0, hl]
        exact g2 (fun x => k' (.v x) σ') h'
      · exact h.elim
  · exact h.elim
theorem load_lonly {ms : List Nat} {d : Option Nat} (h : (match isIn ms d with | true => Cls.lload | false => Cls.load) = .lload) : isIn ms d = true := by
  cases e : isIn ms d
  · simp [e] at h
  · rfl
theorem load_lq {cids ms : List Nat} {d : Option Nat} {t : TypeId} {a : Operand} (hd : isIn ms d = true) : QS (fun σ σ' => σ' = σ) [a] (fun ρ σ k => match isIn ms d with | true => nLoadF TT ρ σ k t a | false => nLoadD TT cids ρ σ k t a) := by
  simp only [hd]
  exact nLoadF_q
theorem conv_nolload {s d : Nat} (h : (match isTo s d with | true => Cls.fresh | false => Cls.pure) = .lload) : False := by
  cases e : isTo s d <;> simp [e] at h
theorem nodeD_lload {cids crs ms : List Nat} {o : Oper} (hc : clsOf ms o = .lload) : QS (fun σ σ' => σ' = σ) o.op.operands.toList (fun ρ σ k => nodeD P TT cids crs ms ρ σ k o) := by
  intro ρ σ k h
  simp only [nodeD] at h ⊢
  unfold clsOf at hc
  cases e : o.op <;> rw [e] at hc <;> rw [e] at h <;> simp only [Op.operands] <;> first
    | exact (conv_nolload hc).elim
    | (exfalso; simp at hc; done)
    | exact load_lq (load_lonly hc) ρ σ k h
    | skip
  rename_i c
  exfalso
  simp only at hc
  split at hc <;> first | (cases hc; done) | skip
  cases hm : isIn ms o.dst <;> simp [hm] at hc
theorem load_noplain {ms : List Nat} {d : Option Nat} (h : (match isIn ms d with | true => Cls.lload | false => Cls.load) = .mv ∨ (match isIn ms d with | true => Cls.lload | false => Cls.load) = .fresh ∨ (match isIn ms d with | true => Cls.lload | false => Cls.load) = .lay ∨ (match isIn ms d with | true => Cls.lload | false => Cls.load) = .look) : False := by
  cases e : isIn ms d <;> simp [e] at h
theorem conv_noload {s d : Nat} (h : (match isTo s d with | true => Cls.fresh | false => Cls.pure) = .load) : False := by
  cases e : isTo s d <;> simp [e] at h
theorem nodeD_load {cids crs ms : List Nat} {o : Oper} (hc : clsOf ms o = .load) : QS (Stb true cids) o.op.operands.toList (fun ρ σ k => nodeD P TT cids crs ms ρ σ k o) := by
  intro ρ σ k h
  simp only [nodeD] at h ⊢
  unfold clsOf at hc
  cases e : o.op <;> rw [e] at hc <;> rw [e] at h <;> simp only [Op.operands] <;> first
    | exact (conv_noload hc).elim
    | (exfalso; simp at hc; done)
    | exact load_q (load_only hc) ρ σ k h
    | skip
  rename_i c
  exfalso
  simp only at hc
  split at hc <;> first | (cases hc; done) | skip
  cases hm : isIn ms o.dst <;> simp [hm] at hc
def PS (xs : List Operand) (F : (Operand → Option SV) → Mem → (SV → Mem → Prop) → Prop) : Prop :=
  ∀ ρ σ k, F ρ σ k → ∃ (α : Type) (sv : α → SV) (m : α → List (Nat × Lb) × List (Nat × Res)), (∀ a, LLe σ.L (m a).1) ∧
    ∀ ρ' J k', (∀ x ∈ xs, ρ' x = ρ x) → (F ρ' ⟨σ.L, σ.R, J⟩ k' ↔ ∀ a, k' (sv a) ⟨(m a).1, (m a).2, J⟩)
theorem val_iff {ρ : Operand → Option SV} {σ : Mem} {x : Operand} {c : Value → Prop} (h : val ρ σ x c) : ∃ v, c v ∧ ∀ {ρ' : Operand → Option SV} {J : Imm} {c' : Value → Prop}, ρ' x = ρ x → (val ρ' ⟨σ.L, σ.R, J⟩ x c' ↔ c' v) := by
  unfold val at h
  split at h
  · rename_i sv e
    cases sv with
    | v y => exact ⟨y, h, fun {ρ' J c'} e' => by unfold val; rw [e', e]; exact Iff.rfl⟩
    | loc id off =>
      simp only [tov] at h
      split at h
      · rename_i lb hl
        refine ⟨_, h, fun {ρ' J c'} e' => ?_⟩
        unfold val
        rw [e', e]
        simp only [tov, hl]
      · exact h.elim
  · exact h.elim
theorem optVal_iff {ρ : Operand → Option SV} {σ : Mem} {x : Option Operand} {c : Option Value → Prop} (h : optVal ρ σ x c) : ∃ v, c v ∧ ∀ {ρ' : Operand → Option SV} {J : Imm} {c' : Option Value → Prop}, (∀ y ∈ x.toList, ρ' y = ρ y) → (optVal ρ' ⟨σ.L, σ.R, J⟩ x c' ↔ c' v) := by
  cases x with
  | none => exact ⟨none, h, fun _ => Iff.rfl⟩
  | some x =>
    obtain ⟨v, h, hv⟩ := val_iff (c := fun v => c (some v)) h
    exact ⟨some v, h, fun {ρ' J c'} he => hv (he x (by simp))⟩
theorem one_iff {k' : SV → Mem → Prop} {sv : SV} {σ : Mem} : k' sv σ ↔ ∀ _ : Nat, k' sv σ := ⟨fun h _ => h, fun h => h 0⟩
theorem nMove_p {x : Operand} : PS [x] (fun ρ σ k => nMove ρ σ k x) := by
  intro ρ σ k h
  unfold nMove at h
  split at h
  · rename_i sv e
    refine ⟨Nat, fun _ => sv, fun _ => (σ.L, σ.R), fun _ => .refl _, fun ρ' J k' he => ?_⟩
    show nMove ρ' _ k' x ↔ _
    unfold nMove
    rw [he x (by simp), e]
    exact one_iff
  · exact h.elim
theorem nAlloc_p {xs : List Operand} {d : Option Nat} {t : TypeId} : PS xs (fun _ σ k => nAlloc TT σ k d t) := by
  intro ρ σ k h
  simp only [nAlloc] at h ⊢
  split at h
  · rename_i i hi
    unfold newLoc at h
    split at h
    · rename_i d
      split at h
      · rename_i hd
        refine ⟨Nat, fun _ => .loc d 0, fun b => (ins d ⟨b, vcells i.zero⟩ σ.L, σ.R), fun b => LLe.ins_new hd _, fun ρ' J k' _ => ?_⟩
        unfold newLoc
        simp only [hd]
        exact Iff.rfl
      · exact h.elim
    · exact h.elim
  · exact h.elim
theorem nMakeMap_p {d : Option Nat} {t : TypeId} {r : Option Operand} : PS r.toList (fun ρ σ k => nMakeMap TT ρ σ k d t r) := by
  intro ρ σ k h
  simp only [nMakeMap] at h ⊢
  split at h
  · rename_i i d hi
    split at h
    · rename_i kt et hd
      obtain ⟨v, h, hv⟩ := optVal_iff h
      split at h
      · refine ⟨Nat, fun r => .v (.map (some r)), fun r => (σ.L, ins d (.map r #[] 0) σ.R), fun _ => .refl _, fun ρ' J k' he => ?_⟩
        rw [hv he]
        exact Iff.rfl
      · cases h1 : numT TT kt <;> cases h2 : numT TT et <;> rw [h1, h2] at h
        · refine ⟨Nat, fun r => .v (.map (some r)), fun r => (σ.L, ins d (.map r #[] 0) σ.R), fun _ => .refl _, fun ρ' J k' he => ?_⟩
          rw [hv he]
          exact Iff.rfl
        · refine ⟨Nat, fun r => .v (.map (some r)), fun r => (σ.L, ins d (.map r #[] 0) σ.R), fun _ => .refl _, fun ρ' J k' he => ?_⟩
          rw [hv he]
          exact Iff.rfl
        · refine ⟨Nat, fun r => .v (.map (some r)), fun r => (σ.L, ins d (.map r #[] 0) σ.R), fun _ => .refl _, fun ρ' J k' he => ?_⟩
          rw [hv he]
          exact Iff.rfl
        · refine ⟨Nat, fun r => .v (.map (some r)), fun r => (σ.L, ins d (.lmap r []) σ.R), fun _ => .refl _, fun ρ' J k' he => ?_⟩
          rw [hv he]
          exact Iff.rfl
      · exact h.elim
    · exact h.elim
  · exact h.elim
theorem nInsert_p {t : TypeId} {m key x : Operand} : PS [m, key, x] (fun ρ σ k => nInsert TT ρ σ k t m key x) := by
  intro ρ σ k h
  simp only [nInsert] at h ⊢
  split at h
  · rename_i i tm hi
    split at h
    · rename_i kt et r kvs hd hk
      split at h
      · have h0 := val_iff h; clear h; obtain ⟨v, h, hv⟩ := h0
        have h0 := val_iff h; clear h; obtain ⟨u, h, hu⟩ := h0
        have h0 := val_iff h; clear h; obtain ⟨z, h, hz⟩ := h0
        split at h
        · rename_i r' a c
          split at h
          · rename_i ha
            obtain ⟨rfl, h⟩ := h
            refine ⟨Nat, fun _ => .v undef, fun _ => (σ.L, ins tm (.lmap r' (ins a c kvs)) σ.R), fun _ => .refl _, fun ρ' J k' he => ?_⟩
            simp only [hk]
            rw [hv (he _ (by simp)), hu (he _ (by simp)), hz (he _ (by simp))]
            simp only [true_and, ha]
            exact one_iff
          · exact h.elim
        · exact h.elim
      · exact h.elim
    · exact h.elim
  · exact h.elim
theorem nLookD_p {t : TypeId} {x ix : Operand} {ok : Bool} : PS [x, ix] (fun ρ σ k => nLookD TT ρ σ k t x ix ok) := by
  intro ρ σ k h
  simp only [nLookD] at h ⊢
  split at h
  · rename_i i hi
    split at h
    · rename_i kt et key r kvs hd hk
      split at h
      · have h0 := val_iff h; clear h; obtain ⟨v, h, hv⟩ := h0
        have h0 := val_iff h; clear h; obtain ⟨u, h, hu⟩ := h0
        split at h
        · rename_i r' n
          obtain ⟨rfl, m, rfl, h⟩ := h
          refine ⟨Nat, fun _ => .v (.int .i64 (lookN kvs n)), fun _ => (σ.L, σ.R), fun _ => .refl _, fun ρ' J k' he => ?_⟩
          simp only [hk]
          rw [hv (he _ (by simp)), hu (he _ (by simp))]
          simp only [true_and, exists_eq_left']
          exact one_iff
        · exact h.elim
      · exact h.elim
    · exact h.elim
  · exact h.elim
theorem nConvF_p {dst : Option Nat} {s d : TypeId} {x : Operand} : PS [x] (fun ρ σ k => nConvF TT ρ σ k dst s d x) := by
  intro ρ σ k h
  simp only [nConvF] at h ⊢
  split at h
  · rename_i i j d' h1 h2
    split at h
    · rename_i e h3 h4
      split at h
      · rename_i h5
        have h0 := val_iff h; clear h; obtain ⟨v, h, hv⟩ := h0
        split at h
        · rename_i s
          refine ⟨Nat × Nat, fun a => .v (.slice (some ⟨a.1, 0, none⟩) s.size a.2), fun a => (σ.L, ins d' (.vec (.slice (some ⟨a.1, 0, none⟩) s.size a.2) 1 (s.data.toList.map byteV)) σ.R), fun _ => .refl _, fun ρ' J k' he => ?_⟩
          rw [hv (he _ (by simp))]
          exact Iff.rfl
        · exact h.elim
      · exact h.elim
    · exact h.elim
  · exact h.elim
theorem conv_p {dst : Option Nat} {s d : TypeId} {x : Operand} (hto : isTo s d = true) : PS [x] (fun ρ σ k => match isTo s d with | true => nConvF TT ρ σ k dst s d x | false => nConvD TT ρ σ k s d x) := by
  simp only [hto]
  exact nConvF_p
theorem nodeD_plain {cids crs ms : List Nat} {o : Oper} (hc : clsOf ms o = .mv ∨ clsOf ms o = .fresh ∨ clsOf ms o = .lay ∨ clsOf ms o = .look) : PS o.op.operands.toList (fun ρ σ k => nodeD P TT cids crs ms ρ σ k o) := by
  intro ρ σ k h
  simp only [nodeD] at h ⊢
  unfold clsOf at hc
  cases e : o.op <;> rw [e] at hc <;> rw [e] at h <;> simp only [Op.operands] <;> first
    | (exfalso; simp at hc; done)
    | exact nMove_p ρ σ k h
    | exact nAlloc_p ρ σ k h
    | exact nInsert_p ρ σ k h
    | exact conv_p (conv_fresh hc) ρ σ k h
    | exact (load_noplain hc).elim
    | exact nLookD_p ρ σ k h
    | (obtain ⟨α, sv, m, h1, h2⟩ := nMakeMap_p ρ σ k h
       exact ⟨α, sv, m, h1, fun ρ' J k' he => h2 ρ' J k' (fun x hx => he x (by simpa using hx))⟩)
    | skip
  rename_i c
  exfalso
  simp only at hc
  split at hc <;> first | (simp at hc; done) | skip
  cases hm : isIn ms o.dst <;> simp [hm] at hc
theorem nodeD_mild {cids crs ms : List Nat} {o : Oper} (hc : clsOf ms o = .mild) {ρ : Operand → Option SV} {σ : Mem} {k : SV → Mem → Prop} (h : nodeD P TT cids crs ms ρ σ k o) :
    ∃ Qc : Value → Imm → Prop, (∃ v I', σ.I.le I' ∧ Qc v I') ∧ (∀ v I', σ.I.le I' → Qc v I' → k (.v v) { σ with I := I' }) ∧
      ∀ (ρ' : Operand → Option SV) (σ' : Mem) (k' : SV → Mem → Prop), (∀ x ∈ o.op.operands.toList, ρ' x = ρ x) → LLe σ.L σ'.L → σ'.I = σ.I → (∀ v I', σ.I.le I' → Qc v I' → k' (.v v) { σ' with I := I' }) → nodeD P TT cids crs ms ρ' σ' k' o := by
  have hm : ∃ c x, o.op = .call c ∧ c.callee = .value x ∧ isIn ms o.dst = true := by
    unfold clsOf at hc
    split at hc <;> first | (cases hc; done) | (split at hc <;> cases hc; done) | skip
    rename_i c e
    split at hc <;> first | (cases hc; done) | skip
    rename_i x hcal
    split at hc
    · exact ⟨c, x, e, hcal, ‹_›⟩
    · cases hc
  obtain ⟨c, x, e, hcal, hin⟩ := hm
  simp only [nodeD, e, hcal, hin] at h ⊢
  have hargs : ∀ {ρ' : Operand → Option SV}, (∀ x ∈ (Op.call c).operands.toList, ρ' x = ρ x) → ∀ x ∈ c.args.toList, ρ' x = ρ x := fun he x hx => he x (mem_args hx)
  split at h
  · obtain ⟨vs, h, hv⟩ := vals_q h
    obtain ⟨Qc, h1, h2, h3⟩ := h
    exact ⟨Qc, h2, h3, fun ρ' σ' k' he hl hi hk => hv (hargs he) hl ⟨Qc, by rw [hi]; exact h1, by rw [hi]; exact h2, by rw [hi]; exact hk⟩⟩
  · rename_i y _ hy
    cases hy
    obtain ⟨fv, h, hfv⟩ := val_q h
    obtain ⟨vs, h, hv⟩ := vals_q h
    split at h
    · obtain ⟨Qc, h1, h2, h3⟩ := h
      refine ⟨Qc, h2, h3, fun ρ' σ' k' he hl hi hk => hfv (he x (by simp [Op.operands, Call.operands, hcal])) hl (hv (hargs he) hl ⟨Qc, by rw [hi]; exact h1, by rw [hi]; exact h2, by rw [hi]; exact hk⟩)⟩
    · exact h.elim
  · rename_i hy; cases hy
  · exact h.elim
end swap
section step
variable {P : Program} {TT : Nat → Option TI} {nt : Nat}
def putE (dst : Option Nat) (sv : SV) (env : List (Nat × SV)) : List (Nat × SV) :=
  match dst with
  | none => env
  | some d => ins d sv env
def dOk (nt : Nat) (dst : Option Nat) : Prop :=
  match dst with
  | none => True
  | some d => d < nt
theorem setD_iff {dst : Option Nat} {sv : SV} {env : List (Nat × SV)} {k : List (Nat × SV) → Prop} : setD nt dst sv env k ↔ dOk nt dst ∧ k (putE dst sv env) := by
  cases dst with
  | none => simp [setD, dOk, putE]
  | some d =>
    simp only [setD, dOk, putE, insK_eq]
    cases h : Nat.blt d nt with
    | true => simp [blt_iff.1 h]
    | false =>
      have : ¬ d < nt := fun h' => by rw [blt_iff.2 h'] at h; cases h
      simp [this]
theorem normM_iff {σ : Mem} {k : Mem → Prop} : normM σ k ↔ k σ := by
  unfold normM
  simp only [forceS_eq, forceL_eq]
def wants (all : List Oper) (o : Oper) (env : List (Nat × SV)) : Option Bool :=
  match o.guard with
  | none => some true
  | some (j, want) => match dstAt all j with
    | some d => match get env d with
      | some (.v (.bool b)) => some (b == want)
      | some (.v (.tuple _)) => some false
      | _ => none
    | none => none
theorem guarded_iff {all : List Oper} {o : Oper} {env : List (Nat × SV)} {yes no : Prop} : guarded all o env yes no ↔ match wants all o env with | some true => yes | some false => no | none => False := by
  unfold guarded wants
  cases o.guard with
  | none => simp
  | some g =>
    obtain ⟨j, want⟩ := g
    simp only
    cases dstAt all j with
    | none => simp
    | some d =>
      simp only
      cases get env d with
      | none => simp
      | some sv =>
        cases sv with
        | loc => simp
        | v x =>
          cases x <;> simp
          cases ‹Bool› <;> cases want <;> simp
def gNode (P : Program) (TT : Nat → Option TI) (cids crs ms : List Nat) (all : List Oper) (o : Oper) (env : List (Nat × SV)) (σ : Mem) (K : SV → Mem → Prop) : Prop :=
  match wants all o env with
  | some true => nodeD P TT cids crs ms (opSV env) σ K o
  | some false => K (.v undef) σ
  | none => False
theorem nodeD_iffK {cids crs ms : List Nat} {o : Oper} {ρ : Operand → Option SV} {σ : Mem} {k k' : SV → Mem → Prop} (h : ∀ sv σ', k sv σ' ↔ k' sv σ') : nodeD P TT cids crs ms ρ σ k o ↔ nodeD P TT cids crs ms ρ σ k' o := by
  have : k = k' := funext fun _ => funext fun _ => propext (h _ _)
  rw [this]
theorem step1D_iff {cids crs ms : List Nat} {all : List Oper} {o : Oper} {s : St} {k : St → Prop} :
    step1D P TT nt cids crs ms all o s k ↔ gNode P TT cids crs ms all o s.env s.mem fun sv σ => dOk nt o.dst ∧ k ⟨putE o.dst sv s.env, σ⟩ := by
  obtain ⟨env, mem⟩ := s
  unfold step1D gNode
  simp only
  rw [guarded_iff]
  cases wants all o env with
  | none => exact Iff.rfl
  | some b =>
    cases b with
    | true => exact nodeD_iffK fun sv σ' => by rw [normM_iff, setD_iff]
    | false => exact setD_iff
def looks (all : List Oper) (o : Oper) : List Nat := Oper.looksAt all.toArray o
def Agree (all : List Oper) (o : Oper) (env env' : List (Nat × SV)) : Prop := ∀ t ∈ looks all o, get env' t = get env t
theorem Agree.ops {all : List Oper} {o : Oper} {env env' : List (Nat × SV)} (h : Agree all o env env') : ∀ x ∈ o.op.operands.toList, opSV env' x = opSV env x := by
  intro x hx
  cases x with
  | tmp t => exact h t (List.mem_append_left _ (List.mem_filterMap.2 ⟨.tmp t, hx, rfl⟩))
  | _ => rfl
theorem Agree.wants {all : List Oper} {o : Oper} {env env' : List (Nat × SV)} (h : Agree all o env env') : wants all o env' = wants all o env := by
  unfold Go.Proofs.YtcfglgelckjpmaaGreatDoor.wants
  cases hg : o.guard with
  | none => rfl
  | some g =>
    obtain ⟨j, want⟩ := g
    simp only
    cases hd : dstAt all j with
    | none => rfl
    | some d =>
      simp only
      rw [h d ?_]
      refine List.mem_append_right _ ?_
      rw [hg]
      unfold dstAt at hd
      split at hd
      · rename_i o' ho
        simp [ho, hd]
      · cases hd
theorem agree_put {all : List Oper} {o : Oper} {env : List (Nat × SV)} {dst : Option Nat} {sv : SV} (h : ∀ d, dst = some d → d ∉ looks all o) : Agree all o env (putE dst sv env) := by
  intro t ht
  cases dst with
  | none => rfl
  | some d =>
    simp only [putE]
    rw [get_ins_other]
    rintro rfl
    exact h _ rfl ht
theorem putE_comm {x y : Option Nat} (h : ∀ d, x = some d → y ≠ some d) (u v : SV) (env : List (Nat × SV)) : putE x u (putE y v env) = putE y v (putE x u env) := by
  cases x with
  | none => rfl
  | some d =>
    cases y with
    | none => rfl
    | some e => exact ins_comm (fun e' => h d rfl (by rw [e'])) _ _ _
variable {cids crs ms : List Nat} {all : List Oper}
theorem gNode_m {ld : Bool} {o : Oper} (hc : ld = true → clsOf ms o ≠ .store) {env env' : List (Nat × SV)} {σ : Mem} {K K' : SV → Mem → Prop} (hsrt : Srt σ.L) (h : gNode P TT cids crs ms all o env σ K) (ha : Agree all o env env')
    (hk : ∀ sv σ', Stb ld cids σ σ' → K sv σ' → K' sv σ') : gNode P TT cids crs ms all o env' σ K' := by
  unfold gNode at h ⊢
  rw [ha.wants]
  split at h
  · exact nodeD_m hc _ σ K _ K' hsrt h ha.ops hk
  · exact hk _ _ (.refl _ _ _) h
  · exact h.elim
theorem gNode_q {R : Mem → Mem → Prop} {o : Oper} (hq : QS R o.op.operands.toList (fun ρ σ k => nodeD P TT cids crs ms ρ σ k o)) {env : List (Nat × SV)} {σ : Mem} {K : SV → Mem → Prop} (h : gNode P TT cids crs ms all o env σ K) :
    ∃ sv, K sv σ ∧ ∀ {env' : List (Nat × SV)} {σ' : Mem} {K' : SV → Mem → Prop}, Agree all o env env' → R σ σ' → K' sv σ' → gNode P TT cids crs ms all o env' σ' K' := by
  unfold gNode at h ⊢
  split at h
  · rename_i hw
    obtain ⟨sv, h1, h2⟩ := hq _ _ _ h
    exact ⟨sv, h1, fun {env' σ' K'} ha hr hk => by rw [ha.wants, hw]; exact h2 _ _ _ ha.ops hr hk⟩
  · rename_i hw
    exact ⟨_, h, fun {env' σ' K'} ha hr hk => by rw [ha.wants, hw]; exact hk⟩
  · exact h.elim
theorem gNode_p {o : Oper} (hq : PS o.op.operands.toList (fun ρ σ k => nodeD P TT cids crs ms ρ σ k o)) {env : List (Nat × SV)} {σ : Mem} {K : SV → Mem → Prop} (h : gNode P TT cids crs ms all o env σ K) :
    ∃ (α : Type) (sv : α → SV) (m : α → List (Nat × Lb) × List (Nat × Res)), (∀ a, LLe σ.L (m a).1) ∧
      ∀ {env' : List (Nat × SV)} {J : Imm} {k' : SV → Mem → Prop}, Agree all o env env' → (gNode P TT cids crs ms all o env' ⟨σ.L, σ.R, J⟩ k' ↔ ∀ a, k' (sv a) ⟨(m a).1, (m a).2, J⟩) := by
  unfold gNode at h ⊢
  split at h
  · rename_i hw
    obtain ⟨α, sv, m, h1, h2⟩ := hq _ _ _ h
    exact ⟨α, sv, m, h1, fun {env' J k'} ha => by rw [ha.wants, hw]; exact h2 _ _ _ ha.ops⟩
  · rename_i hw
    exact ⟨Nat, fun _ => .v undef, fun _ => (σ.L, σ.R), fun _ => .refl _, fun {env' J k'} ha => by rw [ha.wants, hw]; exact one_iff⟩
  · exact h.elim
theorem anyKey_ins {a a' c : Nat} {kvs : List (Nat × Nat)} : anyKey a' (ins a c kvs) = false → a ≠ a' ∧ anyKey a' kvs = false := by
  induction kvs with
  | nil =>
    intro h
    simp only [ins, anyKey, cond_eq_ite, beq_iff] at h
    refine ⟨fun e => ?_, rfl⟩
    rw [if_pos e] at h; cases h
  | cons p r ih =>
    obtain ⟨b, x⟩ := p
    intro h
    rw [ins_cons] at h
    split at h
    · subst_vars
      simp only [anyKey, cond_eq_ite, beq_iff] at h ⊢
      split at h
      · cases h
      · exact ⟨‹_›, by rw [if_neg ‹_›]; exact h⟩
    · split at h
      · simp only [anyKey, cond_eq_ite, beq_iff] at h ⊢
        split at h
        · cases h
        · exact ⟨‹_›, h⟩
      · simp only [anyKey, cond_eq_ite, beq_iff] at h ⊢
        split at h
        · cases h
        · rw [if_neg ‹_›]; exact ih h
theorem anyKey_not {a a' c : Nat} {kvs : List (Nat × Nat)} (hne : a ≠ a') (h : anyKey a' kvs = false) : anyKey a' (ins a c kvs) = false := by
  induction kvs with
  | nil => simp only [ins, anyKey, cond_eq_ite, beq_iff]; rw [if_neg hne]
  | cons p r ih =>
    obtain ⟨b, x⟩ := p
    simp only [anyKey, cond_eq_ite, beq_iff] at h
    split at h
    · cases h
    · rename_i hb
      rw [ins_cons]
      split
      · simp only [anyKey, cond_eq_ite, beq_iff]; rw [if_neg hne]; exact h
      · split
        · simp only [anyKey, cond_eq_ite, beq_iff]; rw [if_neg hne, if_neg hb]; exact h
        · simp only [anyKey, cond_eq_ite, beq_iff]; rw [if_neg hb]; exact ih h
theorem ins_ins {α : Type} (t : Nat) (u v : α) (l : List (Nat × α)) : ins t v (ins t u l) = ins t v l := by
  induction l with
  | nil => simp [ins]
  | cons p r ih =>
    obtain ⟨s, x⟩ := p
    rw [ins_cons, ins_cons]
    split
    · rw [ins_cons, if_pos rfl]
    · split
      · rw [ins_cons, if_pos rfl]
      · rw [ins_cons, if_neg ‹_›, if_neg ‹_›, ih]
theorem nInsert_inv {ρ : Operand → Option SV} {σ : Mem} {k : SV → Mem → Prop} {t : TypeId} {tm : Nat} {key x : Operand} (h : nInsert TT ρ σ k t (.tmp tm) key x) :
    ∃ r kvs a c, get σ.R tm = some (.lmap r kvs) ∧ anyKey a kvs = false ∧ k (.v undef) { σ with R := ins tm (.lmap r (ins a c kvs)) σ.R } ∧
      ∀ (ρ' : Operand → Option SV) (σ' : Mem) (k' : SV → Mem → Prop) (kvs' : List (Nat × Nat)), (∀ y ∈ [Operand.tmp tm, key, x], ρ' y = ρ y) → σ'.L = σ.L → get σ'.R tm = some (.lmap r kvs') → anyKey a kvs' = false →
        k' (.v undef) { σ' with R := ins tm (.lmap r (ins a c kvs')) σ'.R } → nInsert TT ρ' σ' k' t (.tmp tm) key x := by
  simp only [nInsert] at h ⊢
  cases hi : TT t with
  | none => rw [hi] at h; exact h.elim
  | some i =>
    rw [hi] at h
    simp only at h ⊢
    split at h
    · rename_i kt et r kvs hd hk
      split at h
      · rename_i hn1 hn2
        have h0 := val_q h; clear h; obtain ⟨v, h, hv⟩ := h0
        have h0 := val_q h; clear h; obtain ⟨u, h, hu⟩ := h0
        have h0 := val_q h; clear h; obtain ⟨z, h, hz⟩ := h0
        split at h
        · rename_i r' a c
          split at h
          · rename_i ha
            obtain ⟨rfl, h⟩ := h
            refine ⟨r', kvs, a, c, hk, ha, h, fun ρ' σ' k' kvs' he hl hk' ha' h' => ?_⟩
            have hll : LLe σ.L σ'.L := by rw [hl]; exact .refl _
            simp only [hd, hk', hn1, hn2]
            refine hv (he _ (by simp)) hll (hu (he _ (by simp)) hll (hz (he _ (by simp)) hll ?_))
            simp only [ha', true_and]
            exact h'
          · exact h.elim
        · exact h.elim
      · exact h.elim
    · exact h.elim
theorem swap2 {x y : Oper} {s : St} {k : St → Prop} (hsrt : Srt s.mem.L) (hap : Oper.apart all.toArray y x = true) (hc : mayCross ms y x = true)
    (h : step1D P TT nt cids crs ms all y s fun s' => step1D P TT nt cids crs ms all x s' k) : step1D P TT nt cids crs ms all x s fun s' => step1D P TT nt cids crs ms all y s' k := by
  obtain ⟨h1, h2, h3⟩ := Oper.apart_spec hap
  obtain ⟨env, σ⟩ := s
  simp only [step1D_iff] at h ⊢
  have A : ∀ (ld : Bool), (ld = true → clsOf ms x ≠ .store) → QS (Stb ld cids) y.op.operands.toList (fun ρ σ k => nodeD P TT cids crs ms ρ σ k y) →
      gNode P TT cids crs ms all x env σ fun sv σ_1 => dOk nt x.dst ∧ gNode P TT cids crs ms all y (putE x.dst sv env) σ_1 fun sv_1 σ => dOk nt y.dst ∧ k ⟨putE y.dst sv_1 (putE x.dst sv env), σ⟩ := by
    intro ld hx hq
    obtain ⟨sv, ⟨hd, hx1⟩, hback⟩ := gNode_q hq h
    refine gNode_m (ld := ld) hx hsrt hx1 (fun t ht => (agree_put h1 t ht).symm) fun sv' σ2 hst hk => ⟨hk.1, hback (agree_put h3) hst ⟨hd, ?_⟩⟩
    rw [putE_comm h2]
    exact hk.2
  have B : clsOf ms y = .mild → PS x.op.operands.toList (fun ρ σ k => nodeD P TT cids crs ms ρ σ k x) →
      gNode P TT cids crs ms all x env σ fun sv σ_1 => dOk nt x.dst ∧ gNode P TT cids crs ms all y (putE x.dst sv env) σ_1 fun sv_1 σ => dOk nt y.dst ∧ k ⟨putE y.dst sv_1 (putE x.dst sv env), σ⟩ := by
    intro hm hp
    unfold gNode at h
    split at h
    · rename_i hw
      obtain ⟨Qc, ⟨v0, I0, hi0, hq0⟩, hall, hback⟩ := nodeD_mild hm h
      obtain ⟨hdy, hx0⟩ := hall v0 I0 hi0 hq0
      change gNode P TT cids crs ms all x _ _ _ at hx0
      obtain ⟨α, svx, m, hle, hiff⟩ := gNode_p hp hx0
      refine (hiff (env' := env) (J := σ.I) (fun t ht => (agree_put h1 t ht).symm)).2 fun a => ?_
      have hk0 := (hiff (fun _ _ => rfl)).1 hx0 a
      refine ⟨hk0.1, ?_⟩
      unfold gNode
      rw [(agree_put h3 : Agree all y env (putE x.dst (svx a) env)).wants, hw]
      refine hback _ ⟨(m a).1, (m a).2, σ.I⟩ _ (agree_put h3 : Agree all y env _).ops (hle a) rfl fun v I' hi hq => ⟨hdy, ?_⟩
      have hx1 := (hall v I' hi hq).2
      change gNode P TT cids crs ms all x _ _ _ at hx1
      have := ((hiff (fun t ht => by rw [agree_put h1 t ht, agree_put h1 t ht])).1 hx1 a).2
      rw [putE_comm h2]
      exact this
    · rename_i hw
      obtain ⟨hd, hx1⟩ := h
      change gNode P TT cids crs ms all x _ _ _ at hx1
      have hne : clsOf ms x ≠ .store ∨ True := .inr trivial
      refine gNode_m (ld := false) (fun h => by cases h) hsrt hx1 (fun t ht => (agree_put h1 t ht).symm) fun sv' σ2 hst hk => ⟨hk.1, ?_⟩
      unfold gNode
      rw [(agree_put h3 : Agree all y env (putE x.dst sv' env)).wants, hw]
      refine ⟨hd, ?_⟩
      rw [putE_comm h2]
      exact hk.2
    · exact h.elim
  have C : sameMap y x = true →
      gNode P TT cids crs ms all x env σ fun sv σ_1 => dOk nt x.dst ∧ gNode P TT cids crs ms all y (putE x.dst sv env) σ_1 fun sv_1 σ => dOk nt y.dst ∧ k ⟨putE y.dst sv_1 (putE x.dst sv env), σ⟩ := by
    intro hm
    unfold sameMap at hm
    split at hm
    · rename_i ty tm ky vy tx tm' kx vx ey ex
      obtain rfl := beq_iff.1 hm
      have keyY : ∀ {ρ : Operand → Option SV} {σ : Mem} {k : SV → Mem → Prop}, nodeD P TT cids crs ms ρ σ k y ↔ nInsert TT ρ σ k ty (.tmp tm) ky vy := fun {ρ σ k} => by simp only [nodeD, ey]
      have keyX : ∀ {ρ : Operand → Option SV} {σ : Mem} {k : SV → Mem → Prop}, nodeD P TT cids crs ms ρ σ k x ↔ nInsert TT ρ σ k tx (.tmp tm) kx vx := fun {ρ σ k} => by simp only [nodeD, ex]
      have opY : ∀ {env' : List (Nat × SV)}, Agree all y env env' → ∀ z ∈ [Operand.tmp tm, ky, vy], opSV env' z = opSV env z := fun ha z hz => ha.ops z (by rw [ey]; exact hz)
      unfold gNode at h
      split at h
      · rename_i hw
        obtain ⟨r, kvs, a, c, g1, g2, ⟨hdy, hx1⟩, g3⟩ := nInsert_inv (keyY.1 h)
        change gNode P TT cids crs ms all x _ _ _ at hx1
        have hax : Agree all x (putE y.dst (.v undef) env) env := fun t ht => (agree_put h1 t ht).symm
        have hay : Agree all y env (putE x.dst (.v undef) env) := agree_put h3
        unfold gNode at hx1 ⊢
        rw [hax.wants]
        split at hx1
        · obtain ⟨r', kvs', a', c', f1, f2, ⟨hdx, f⟩, f3⟩ := nInsert_inv (keyX.1 hx1)
          simp only [get_ins_same, Option.some.injEq, Res.lmap.injEq] at f1
          obtain ⟨rfl, rfl⟩ := f1
          obtain ⟨hne, ha'⟩ := anyKey_ins f2
          refine keyX.2 (f3 _ σ _ kvs (fun z hz => hax.ops z (by rw [ex]; exact hz)) rfl g1 ha' ⟨hdx, ?_⟩)
          rw [hay.wants, hw]
          refine keyY.2 (g3 _ _ _ _ (opY hay) rfl (get_ins_same _ _ _) (anyKey_not (Ne.symm hne) g2) ⟨hdy, ?_⟩)
          simp only [ins_ins] at f ⊢
          rw [putE_comm h2, ins_comm hne]
          exact f
        · refine ⟨hx1.1, ?_⟩
          rw [hay.wants, hw]
          refine keyY.2 (g3 _ _ _ _ (opY hay) rfl g1 g2 ⟨hdy, ?_⟩)
          rw [putE_comm h2]
          exact hx1.2
        · exact hx1.elim
      · rename_i hw
        obtain ⟨hd, hx1⟩ := h
        change gNode P TT cids crs ms all x _ _ _ at hx1
        refine gNode_m (ld := false) (fun h => by cases h) hsrt hx1 (fun t ht => (agree_put h1 t ht).symm) fun sv' σ2 hst hk => ⟨hk.1, ?_⟩
        unfold gNode
        rw [(agree_put h3 : Agree all y env (putE x.dst sv' env)).wants, hw]
        refine ⟨hd, ?_⟩
        rw [putE_comm h2]
        exact hk.2
      · exact h.elim
    · cases hm
  have D : ∀ {R : Mem → Mem → Prop}, clsOf ms y = .lload → (∀ σ, R σ σ) → QS R x.op.operands.toList (fun ρ σ k => nodeD P TT cids crs ms ρ σ k x) →
      gNode P TT cids crs ms all x env σ fun sv σ_1 => dOk nt x.dst ∧ gNode P TT cids crs ms all y (putE x.dst sv env) σ_1 fun sv_1 σ => dOk nt y.dst ∧ k ⟨putE y.dst sv_1 (putE x.dst sv env), σ⟩ := by
    intro R hm hr hqx
    obtain ⟨sv, ⟨hd, hx1⟩, hback⟩ := gNode_q (nodeD_lload hm) h
    change gNode P TT cids crs ms all x _ _ _ at hx1
    obtain ⟨svx, hk, hbx⟩ := gNode_q hqx hx1
    refine hbx (fun t ht => (agree_put h1 t ht).symm) (hr σ) ⟨hk.1, hback (agree_put h3) rfl ⟨hd, ?_⟩⟩
    rw [putE_comm h2]
    exact hk.2
  unfold mayCross at hc
  cases hy : clsOf ms y <;> cases hx : clsOf ms x <;> rw [hy, hx] at hc <;> first
    | (cases hc; done)
    | exact A false (fun h => by cases h) (nodeD_pure (.inl hy))
    | exact A false (fun h => by cases h) (nodeD_pure (.inr hy))
    | exact A true (fun _ => by rw [hx]; simp) (nodeD_load hy)
    | exact D hy (fun _ => .refl _ _ _) (nodeD_pure (.inl hx))
    | exact D hy (fun _ => .refl _ _ _) (nodeD_pure (.inr hx))
    | exact D hy (fun _ => .refl _ _ _) (nodeD_load hx)
    | exact D (R := fun σ σ' => σ' = σ) hy (fun _ => rfl) (nodeD_lload hx)
    | exact B hy (nodeD_plain (by simp [hx]))
    | exact C hc
end step
end Go.Proofs.YtcfglgelckjpmaaGreatDoor
