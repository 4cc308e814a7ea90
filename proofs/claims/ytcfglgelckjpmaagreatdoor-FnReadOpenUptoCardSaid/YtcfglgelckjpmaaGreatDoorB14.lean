/- Own machinery, and laws of the functions that the statement reaches (part 14). -/
import Derived.Test.YtcfglgelckjpmaaGreatDoorB13
set_option linter.all false
namespace Go.Proofs.YtcfglgelckjpmaaGreatDoor
section nodes
variable {P : Program} {TT : Nat → Option TI}
def MS (ld : Bool) (cids : List Nat) (xs : List Operand) (F : (Operand → Option SV) → Mem → (SV → Mem → Prop) → Prop) : Prop :=
  ∀ ρ σ k ρ' k', Srt σ.L → F ρ σ k → (∀ x ∈ xs, ρ' x = ρ x) → (∀ sv σ', Stb ld cids σ σ' → k sv σ' → k' sv σ') → F ρ' σ k'
theorem MS.of_q {ld : Bool} {cids : List Nat} {xs : List Operand} {F : (Operand → Option SV) → Mem → (SV → Mem → Prop) → Prop} {R : Mem → Mem → Prop} (hr : ∀ σ, R σ σ) (h : QS R xs F) : MS ld cids xs F :=
  fun ρ σ k ρ' k' _ hF he hk => by
    obtain ⟨sv, h1, h2⟩ := h ρ σ k hF
    exact h2 ρ' σ k' he (hr σ) (hk _ _ (.refl _ _ _) h1)
theorem newLoc_m {ld : Bool} {cids : List Nat} {σ : Mem} {k k' : SV → Mem → Prop} {d : Option Nat} {cs : List Value} (h : newLoc σ k d cs) (hk : ∀ sv σ', Stb ld cids σ σ' → k sv σ' → k' sv σ') : newLoc σ k' d cs := by
  unfold newLoc at h ⊢
  split at h
  · rename_i d
    split at h
    · rename_i hd
      intro b
      refine hk _ _ ⟨LLe.ins_new hd _, .refl _, fun _ id lb _ e => ?_⟩ (h b)
      show get (ins d _ σ.L) id = _
      rw [get_ins_other]
      · exact e
      · rintro rfl; rw [hd] at e; cases e
    · exact h.elim
  · exact h.elim
theorem nAlloc_m {ld : Bool} {cids : List Nat} {xs : List Operand} {d : Option Nat} {t : TypeId} : MS ld cids xs (fun _ σ k => nAlloc TT σ k d t) := by
  intro ρ σ k ρ' k' _ h _ hk
  simp only [nAlloc] at h ⊢
  split at h
  · exact newLoc_m h hk
  · exact h.elim
theorem nBuildSlice_m {ld : Bool} {cids : List Nat} {d : Option Nat} {t : TypeId} {len : Nat} {ps : Array (Nat × Operand)} : MS ld cids (ps.toList.map (·.2)) (fun ρ σ k => nBuildSlice TT ρ σ k d t len ps) := by
  intro ρ σ k ρ' k' _ h he hk
  simp only [nBuildSlice] at h ⊢
  split at h
  · split at h
    · split at h
      · split at h
        · obtain ⟨vs, h, hv⟩ := partVals_q h
          obtain ⟨cs, h1, h2⟩ := rowOf_ang _ h
          refine hv he (.refl _) (h2 _ ?_)
          rcases h1 with h1 | ⟨d', hd, h1⟩
          · exact .inl fun b I' hi hc => hk _ _ (.sameL rfl hi) (h1 b I' hi hc)
          · exact .inr ⟨d', hd, fun b => hk _ _ (.sameL rfl (.refl _)) (h1 b)⟩
        · exact h.elim
      · exact h.elim
    · exact h.elim
  · exact h.elim
theorem Writes.m {σ : Mem} {b off : Nat} {xs : List Value} {K K' : Mem → Prop} {cids : List Nat} (h : Writes σ b off xs K) (hk : ∀ σ', Stb false cids σ σ' → K σ' → K' σ') : Writes σ b off xs K' := by
  cases h with
  | blk key cs h1 h2 h3 => exact .blk key cs h1 h2 (hk _ (.sameL rfl (.refl _)) h3)
  | vec key len cap sz cs h1 h2 h3 => exact .vec key len cap sz cs h1 h2 (hk _ (.sameL rfl (.refl _)) h3)
  | loc id cs h1 h2 h3 => exact .loc id cs h1 h2 (hk _ ⟨LLe.ins_upd h1 _, .refl _, fun h => by cases h⟩ h3)
theorem nStore_m {cids : List Nat} {t : TypeId} {a x : Operand} : MS false cids [a, x] (fun ρ σ k => nStore TT ρ σ k t a x) := by
  intro ρ σ k ρ' k' _ h he hk
  simp only [nStore] at h ⊢
  split at h
  · exact h.elim
  · obtain ⟨v, h, hv⟩ := val_q h
    refine hv (he x (by simp)) (.refl _) ?_
    split at h
    · rw [he a (by simp)]
      split at h
      · split at h
        · rename_i lb hl
          obtain ⟨cs, h1, h2⟩ := putAt_ang _ h
          exact h2 _ (hk _ _ ⟨LLe.ins_upd hl _, .refl _, fun h => by cases h⟩ h1)
        · exact h.elim
      · exact h.m (cids := cids) (fun σ' hs h => hk _ _ hs h)
      · exact h.elim
    · exact h.elim
theorem nCopy_m {cids : List Nat} {t : TypeId} {a x : Operand} : MS false cids [a, x] (fun ρ σ k => nCopy TT ρ σ k t a x) := by
  intro ρ σ k ρ' k' _ h he hk
  simp only [nCopy] at h ⊢
  split at h
  · split at h
    · split at h
      · obtain ⟨v, h, hv⟩ := val_q h
        obtain ⟨u, h, hu⟩ := val_q h
        refine hv (he a (by simp)) (.refl _) (hu (he x (by simp)) (.refl _) ?_)
        split at h
        · obtain ⟨m, xs, h1, h2, h3⟩ := h
          exact ⟨m, xs, h1, h2, h3.m (cids := cids) fun σ' hs h => hk _ _ hs h⟩
        · exact h.elim
      · exact h.elim
    · exact h.elim
  · exact h.elim
theorem nInsert_m {ld : Bool} {cids : List Nat} {t : TypeId} {m key x : Operand} : MS ld cids [m, key, x] (fun ρ σ k => nInsert TT ρ σ k t m key x) := by
  intro ρ σ k ρ' k' _ h he hk
  simp only [nInsert] at h ⊢
  split at h
  · split at h
    · split at h
      · obtain ⟨v, h, hv⟩ := val_q h
        obtain ⟨u, h, hu⟩ := val_q h
        obtain ⟨z, h, hz⟩ := val_q h
        refine hv (he _ (by simp)) (.refl _) (hu (he _ (by simp)) (.refl _) (hz (he _ (by simp)) (.refl _) ?_))
        split at h
        · split at h
          · exact ⟨h.1, hk _ _ (.sameL rfl (.refl _)) h.2⟩
          · exact h.elim
        · exact h.elim
      · exact h.elim
    · exact h.elim
  · exact h.elim
theorem nMakeMap_m {ld : Bool} {cids : List Nat} {d : Option Nat} {t : TypeId} {r : Option Operand} : MS ld cids r.toList (fun ρ σ k => nMakeMap TT ρ σ k d t r) := by
  intro ρ σ k ρ' k' _ h he hk
  simp only [nMakeMap] at h ⊢
  split at h
  · split at h
    · obtain ⟨v, h, hv⟩ := optVal_q h
      refine hv he (.refl _) ?_
      split at h
      · exact fun r => hk _ _ (.sameL rfl (.refl _)) (h r)
      · split at h
        · exact fun r => hk _ _ (.sameL rfl (.refl _)) (h r)
        · exact fun r => hk _ _ (.sameL rfl (.refl _)) (h r)
      · exact h.elim
    · exact h.elim
  · exact h.elim
theorem nLookD_m {ld : Bool} {cids : List Nat} {t : TypeId} {x ix : Operand} {ok : Bool} : MS ld cids [x, ix] (fun ρ σ k => nLookD TT ρ σ k t x ix ok) := by
  intro ρ σ k ρ' k' _ h he hk
  simp only [nLookD] at h ⊢
  split at h
  · split at h
    · split at h
      · obtain ⟨v, h, hv⟩ := val_q h
        obtain ⟨u, h, hu⟩ := val_q h
        refine hv (he _ (by simp)) (.refl _) (hu (he _ (by simp)) (.refl _) ?_)
        split at h
        · obtain ⟨h1, m, h2, h⟩ := h
          exact ⟨h1, m, h2, hk _ _ (.refl _ _ _) h⟩
        · exact h.elim
      · exact h.elim
    · exact h.elim
  · exact h.elim
theorem nLoadF_m {ld : Bool} {cids : List Nat} {t : TypeId} {a : Operand} : MS ld cids [a] (fun ρ σ k => nLoadF TT ρ σ k t a) := by
  intro ρ σ k ρ' k' _ h he hk
  simp only [nLoadF] at h ⊢
  rw [he a (by simp)]
  split at h
  · rename_i b off e
    split at h
    · exact h.elim
    · rename_i i hi
      split at h
      · exact h.elim
      · rename_i n h0 h1
        obtain ⟨xs, g1, g2, g3⟩ := h
        exact ⟨xs, g1, g2, hk _ _ (.refl _ _ _) g3⟩
      · rename_i h0
        obtain ⟨x, g1, g2⟩ := h
        exact ⟨x, g1, hk _ _ (.refl _ _ _) g2⟩
  · split at h
    · exact h.elim
    · split at h
      · obtain ⟨x, g1, g2⟩ := cellAt_ang _ h
        exact g2 _ (hk _ _ (.refl _ _ _) g1)
      · exact h.elim
  · exact h.elim
theorem nConvF_m {ld : Bool} {cids : List Nat} {dst : Option Nat} {s d : TypeId} {x : Operand} : MS ld cids [x] (fun ρ σ k => nConvF TT ρ σ k dst s d x) := by
  intro ρ σ k ρ' k' _ h he hk
  simp only [nConvF] at h ⊢
  split at h
  · split at h
    · split at h
      · obtain ⟨v, h, hv⟩ := val_q h
        refine hv (he _ (by simp)) (.refl _) ?_
        split at h
        · exact fun a => hk _ _ (.sameL rfl (.refl _)) (h a)
        · exact h.elim
      · exact h.elim
    · exact h.elim
  · exact h.elim
theorem Grows.m {ld : Bool} {cids : List Nat} {σ : Mem} {d sz bytes : Nat} {s x : Value} {k k' : SV → Mem → Prop} (h : Grows σ d sz bytes s x k) (hk : ∀ sv σ', Stb ld cids σ σ' → k sv σ' → k' sv σ') : Grows σ d sz bytes s x k' := by
  cases h with
  | own key n m cs xs h1 h2 h3 h4 h5 h => exact .own key n m cs xs h1 h2 h3 h4 h5 fun b c => hk _ _ (.sameL rfl (.refl _)) (h b c)
  | ownR key n m bx ox cx cs xs h1 h2 h3 h4 h5 h6 h7 h => exact .ownR key n m bx ox cx cs xs h1 h2 h3 h4 h5 h6 h7 fun b c => hk _ _ (.sameL rfl (.refl _)) (h b c)
  | nil m xs h1 h2 h3 h => exact .nil m xs h1 h2 h3 fun b c => hk _ _ (.sameL rfl (.refl _)) (h b c)
  | new n m cs xs h1 h2 h3 h4 h5 h6 h => exact .new n m cs xs h1 h2 h3 h4 h5 h6 fun b c => hk _ _ (.sameL rfl (.refl _)) (h b c)
theorem nAppend_m {ld : Bool} {cids : List Nat} {d : Option Nat} {t : TypeId} {s x : Operand} : MS ld cids [s, x] (fun ρ σ k => nAppend TT ρ σ k d t s x) := by
  intro ρ σ k ρ' k' _ h he hk
  simp only [nAppend] at h ⊢
  split at h
  · split at h
    · split at h
      · split at h
        · obtain ⟨v, h, hv⟩ := val_q h
          obtain ⟨u, h, hu⟩ := val_q h
          exact hv (he _ (by simp)) (.refl _) (hu (he _ (by simp)) (.refl _) (h.m (ld := ld) (cids := cids) hk))
        · exact h.elim
      · exact h.elim
    · exact h.elim
  · exact h.elim
theorem pickL_pt : ∀ {ids : List Nat} {L : List (Nat × Lb)} {c : List (Nat × Lb) → List (Nat × Lb) → Prop}, pickL L ids c →
    ∃ H L', c H L' ∧ H.map Prod.fst = ids ∧ (∀ id lb, ids.any (Nat.beq id) = false → get L id = some lb → get L' id = some lb) ∧ ∀ c' : List (Nat × Lb) → List (Nat × Lb) → Prop, c' H L' → pickL L ids c'
  | [], L, c, h => ⟨[], L, h, rfl, fun _ _ _ e => e, fun _ h => h⟩
  | id :: ids, L, c, h => by
    simp only [pickL] at h ⊢
    split at h
    · rename_i lb hl
      obtain ⟨H, L', h1, h2, h3, h4⟩ := pickL_pt h
      refine ⟨(id, lb) :: H, L', h1, by simp [h2], fun i l hi e => ?_, fun c' h' => h4 _ h'⟩
      simp only [List.any_cons, Bool.or_eq_false_iff] at hi
      refine h3 i l hi.2 (get_rem_other ?_ e)
      rintro rfl
      have := hi.1
      simp at this
    · exact h.elim
theorem pickR_pt : ∀ {ids : List Nat} {L : List (Nat × Res)} {c : List Res → List (Nat × Res) → Prop}, pickR L ids c →
    ∃ H L', c H L' ∧ ∀ c' : List Res → List (Nat × Res) → Prop, c' H L' → pickR L ids c'
  | [], L, c, h => ⟨[], L, h, fun _ h => h⟩
  | id :: ids, L, c, h => by
    simp only [pickR] at h ⊢
    split at h
    · rename_i lb hl
      obtain ⟨H, L', h1, h4⟩ := pickR_pt h
      exact ⟨lb :: H, L', h1, fun c' h' => h4 _ h'⟩
    · exact h.elim
theorem backL_ang : ∀ {H : List (Nat × Lb)} {css : List (List Value)} {L : List (Nat × Lb)}, Ang (backL H css L)
  | [], [], L => .pt _
  | (id, lb) :: H, cs :: css, L => backL_ang (H := H) (css := css) (L := ins id ⟨lb.b, cs⟩ L)
  | [], _ :: _, _ => .no
  | _ :: _, [], _ => .no
theorem nCallD_m {ld : Bool} {cids crs : List Nat} {mild : Bool} {σ : Mem} {k k' : SV → Mem → Prop} {d : Option Nat} {f : FuncId} {args : List Value} (hsrt : Srt σ.L) (h : nCallD P cids crs mild σ k d f args)
    (hk : ∀ sv σ', Stb ld cids σ σ' → k sv σ' → k' sv σ') : nCallD P cids crs mild σ k' d f args := by
  unfold nCallD at h ⊢
  split at h
  · obtain ⟨Qc, h1, h2, h3⟩ := h
    exact ⟨Qc, h1, h2, fun v I' hi hq => hk _ _ (.sameL rfl hi) (h3 v I' hi hq)⟩
  · rcases h with ⟨v, h1, h2⟩ | h
    · exact .inl ⟨v, h1, hk _ _ (.refl _ _ _) h2⟩
    · refine .inr ?_
      change pickL σ.L cids _ at h
      change pickL σ.L cids _
      obtain ⟨H, L', h, hkeys, hrows, hpt⟩ := pickL_pt h
      obtain ⟨H2, L2, ⟨rfl, rfl⟩, _, _, _, hback⟩ := pickL_sound (hpt (fun H2 L2 => H2 = H ∧ L2 = L') ⟨rfl, rfl⟩)
      refine hpt _ ?_
      obtain ⟨Rs, R', h, hptR⟩ := pickR_pt h
      refine hptR _ (h.mono fun v cs Rn I' hi hb => ?_)
      obtain ⟨M', hM, hpM⟩ := backL_ang _ hb
      obtain ⟨M2, rfl, g2, g3, _⟩ := hback hsrt (.refl _) (hpM (fun M => M = M') rfl)
      refine hpM _ (hk _ _ ⟨g2, hi, fun _ id lb hn e => ?_⟩ hM)
      rw [g3 id ?_]
      · exact hrows id lb hn e
      · rw [hkeys]
        intro hm
        rw [List.any_eq_false] at hn
        have := hn id hm
        simp at this
theorem mem_args {c : Call} {x : Operand} (h : x ∈ c.args.toList) : x ∈ (Call.operands c).toList := by
  simp only [Call.operands, Array.toList_append, List.mem_append]
  exact .inr h
theorem nodeD_m {ld : Bool} {cids crs ms : List Nat} {o : Oper} (hc : ld = true → clsOf ms o ≠ .store) : MS ld cids o.op.operands.toList (fun ρ σ k => nodeD P TT cids crs ms ρ σ k o) := by
  intro ρ σ k ρ' k' hsrt h he hk
  have hR : ∀ {σ σ' : Mem}, Stb ld cids σ σ' → LLe σ.L σ'.L := fun h => h.lle
  have q : ∀ {xs : List Operand} {F : (Operand → Option SV) → Mem → (SV → Mem → Prop) → Prop}, QS (Stb ld cids) xs F → F ρ σ k → (∀ x ∈ xs, ρ' x = ρ x) → F ρ' σ k' := fun hq hF he => MS.of_q (fun _ => .refl _ _ _) hq ρ σ k ρ' k' hsrt hF he hk
  simp only [nodeD] at h ⊢
  split at h
  · rename_i t a e
    rw [e] at he
    split at h
    · exact nLoadF_m ρ σ k ρ' k' hsrt h he hk
    · exact MS.of_q (fun _ => .refl _ _ _) (nLoadD_q (TT := TT) (cids := cids)) ρ σ k ρ' k' hsrt h he hk
  · rename_i s d x e
    rw [e] at he
    split at h
    · exact nConvF_m ρ σ k ρ' k' hsrt h he hk
    · exact q (nConvD_q fun h => ⟨h.lle, h.le⟩) h he
  · rename_i t x ix ok e
    rw [e] at he
    exact nLookD_m ρ σ k ρ' k' hsrt h he hk
  · rename_i c e
    rw [e] at he
    have hargs : ∀ x ∈ c.args.toList, ρ' x = ρ x := fun x hx => he x (mem_args hx)
    split at h
    · rename_i f hcal
      obtain ⟨vs, h, hv⟩ := vals_q h
      exact hv hargs (.refl _) (nCallD_m hsrt h hk)
    · rename_i x _ hcal
      obtain ⟨fv, h, hfv⟩ := val_q h
      obtain ⟨vs, h, hv⟩ := vals_q h
      refine hfv (he x (by simp [Op.operands, Call.operands, hcal])) (.refl _) (hv hargs (.refl _) ?_)
      split at h
      · exact nCallD_m hsrt h hk
      · exact h.elim
    · rename_i b hcal
      split at h
      · rename_i x t ha ht
        exact q (nLenD_q hR) h (fun y hy => hargs y (by rw [ha]; exact hy))
      · rename_i s x t u ha ht
        split at h
        · split at h
          · exact h.elim
          · exact nAppend_m ρ σ k ρ' k' hsrt h (fun y hy => hargs y (by rw [ha]; exact hy)) hk
        · exact h.elim
      · rename_i s x t u ha ht
        cases ld with
        | true => exact absurd (by simp [clsOf, e, hcal]) (hc rfl)
        | false => exact nCopy_m ρ σ k ρ' k' hsrt h (fun y hy => hargs y (by rw [ha]; exact hy)) hk
      · exact h.elim
    · exact h.elim
  · rename_i x e
    rw [e] at he
    exact q (nMove_q) h he
  · rename_i x e
    rw [e] at he
    exact q (nMove_q) h he
  · rename_i c a b e
    rw [e] at he
    exact q (nPick_q hR) h he
  · rename_i t e
    rw [e] at he
    exact nAlloc_m (xs := []) ρ σ k ρ' k' hsrt h he hk
  · rename_i t ps e
    rw [e] at he
    exact q (nBuild_q hR) h (fun x hx => he x (by simpa [Op.operands] using hx))
  · rename_i t len ps e
    rw [e] at he
    exact nBuildSlice_m ρ σ k ρ' k' hsrt h (fun x hx => he x (by simpa [Op.operands] using hx)) hk
  · rename_i t m key x e
    rw [e] at he
    exact nInsert_m ρ σ k ρ' k' hsrt h he hk
  · rename_i t a x e
    rw [e] at he
    cases ld with
    | true => exact absurd (by simp [clsOf, e]) (hc rfl)
    | false => exact nStore_m ρ σ k ρ' k' hsrt h he hk
  · rename_i x e
    rw [e] at he
    exact q (nNil_q) h he
  · rename_i op t x y _ e
    rw [e] at he
    exact q (nBin_q hR) h he
  · rename_i op _ x e
    rw [e] at he
    exact q (nUn_q hR) h he
  · rename_i t x e
    rw [e] at he
    exact q (nIface_q hR) h he
  · rename_i fn a b e
    rw [e] at he
    exact q (nFunc_q hR) h he
  · rename_i t r e
    rw [e] at he
    exact nMakeMap_m ρ σ k ρ' k' hsrt h (fun x hx => he x (by simpa [Op.operands] using hx)) hk
  · rename_i t x l hi m e
    rw [e] at he
    exact q (nSlice_q hR) h (fun y hy => he y (by simpa [Op.operands, or_assoc] using hy))
  · rename_i t x f e
    rw [e] at he
    exact q (nFieldAddr_q) h he
  · rename_i t x f e
    rw [e] at he
    exact q (nField_q hR) h he
  · rename_i t x ix e
    rw [e] at he
    exact q (nIndexAddr_q hR) h he
  · rename_i t x ix e
    rw [e] at he
    exact q (nIndex_q hR) h he
  · exact h.elim
end nodes
end Go.Proofs.YtcfglgelckjpmaaGreatDoor
