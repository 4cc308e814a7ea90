/- Own machinery, and laws of the functions that the statement reaches (part 12). -/
import Derived.Test.YtcfglgelckjpmaaGreatDoorB11
set_option linter.all false
namespace Go.Proofs.YtcfglgelckjpmaaGreatDoor
section lists
theorem get_rem_other {α : Type} {t t' : Nat} {y : α} : ∀ {l : List (Nat × α)}, t ≠ t' → get l t' = some y → get (rem t l) t' = some y
  | [], _, h => by simp [get] at h
  | (s, u) :: r, hne, h => by
    rw [get_cons] at h
    rw [rem_cons]
    split
    · subst_vars
      rw [if_neg (Ne.symm hne)] at h
      split at h
      · cases h
      · exact h
    · split
      · rw [get_cons]; exact h
      · rw [get_cons]
        split
        · rw [if_pos ‹_›] at h; exact h
        · rw [if_neg ‹_›] at h
          split
          · rw [if_pos ‹_›] at h; cases h
          · rw [if_neg ‹_›] at h; exact get_rem_other hne h
theorem step_putL {I I' : Imm} {Rs X : List Res} {w w' : World} {L : List (Nat × Lb)} {b : Nat} {cs : List Value} (d : Nat)
    (h : Step I Rs w I' (.blk b cs :: (L.map lres ++ X)) w') : Step I Rs w I' ((ins d ⟨b, cs⟩ L).map lres ++ X) w' := by
  obtain ⟨l', h1, h2⟩ := ins_perm d (⟨b, cs⟩ : Lb) L
  have h3 : ((ins d ⟨b, cs⟩ L).map lres ++ X).Perm (.blk b cs :: (l'.map lres ++ X)) := (h2.map lres).append_right _
  exact (h.sub_right ((((h1.map lres).append_right _)).cons_cons _)).perm_right h3.symm
theorem step_putR {I I' : Imm} {Rs X : List Res} {w w' : World} {R : List (Nat × Res)} {r : Res} (d : Nat)
    (h : Step I Rs w I' (r :: (X ++ R.map Prod.snd)) w') : Step I Rs w I' (X ++ (ins d r R).map Prod.snd) w' := by
  obtain ⟨l', h1, h2⟩ := ins_perm d r R
  have h3 : (X ++ (ins d r R).map Prod.snd).Perm (r :: (X ++ l'.map Prod.snd)) := ((h2.map Prod.snd).append_left _).trans List.perm_middle
  exact (h.sub_right (((h1.map Prod.snd).append_left _).cons_cons _)).perm_right h3.symm
theorem pickL_sound : ∀ {ids : List Nat} {L : List (Nat × Lb)} {c : List (Nat × Lb) → List (Nat × Lb) → Prop}, pickL L ids c → ∃ H L', c H L' ∧ (L.map lres).Perm (blks (hOf H) ++ L'.map lres) ∧ List.Sublist L' L ∧ (∀ x ∈ H, x ∈ L) ∧
    (Srt L → ∀ {css : List (List Value)} {M : List (Nat × Lb)} {K : List (Nat × Lb) → Prop}, LLe L' M → backL H css M K → ∃ M', K M' ∧ LLe L M' ∧ (∀ i, i ∉ H.map Prod.fst → get M' i = get M i) ∧
      ∀ {I I' : Imm} {Rs X : List Res} {w w' : World}, Step I Rs w I' (blks (setC (hOf H) css) ++ (M.map lres ++ X)) w' → Step I Rs w I' (M'.map lres ++ X) w')
  | [], L, c, h => ⟨[], L, h, by simp [hOf, blks], .refl _, by simp, fun _ {css M K} hk hb => by
      cases css with
      | nil => exact ⟨M, hb, hk, fun _ _ => rfl, fun h => by simpa [hOf, setC, blks] using h⟩
      | cons a b => exact hb.elim⟩
  | id :: ids, L, c, h => by
    simp only [pickL] at h
    split at h
    · rename_i lb hl
      obtain ⟨H, L', h1, h2, hsub, hmem, h3⟩ := pickL_sound h
      refine ⟨(id, lb) :: H, L', h1, ?_, hsub.trans (rem_sub _ _), ?_, fun hsrt {css M K} hk hb => ?_⟩
      · refine ((rem_perm hl).map lres).trans ?_
        simp only [List.map_cons, hOf, blks, lres, List.cons_append]
        exact h2.cons _
      · intro x hx
        rcases List.mem_cons.1 hx with rfl | hx
        · exact get_mem hl
        · exact (rem_sub id L).subset (hmem x hx)
      · have hno : ∀ x ∈ rem id L, x.1 ≠ id := fun x hx e => by
          have hn : ((id, lb) :: rem id L).Pairwise (fun a b => a.1 ≠ b.1) := (rem_perm hl).pairwise (List.Pairwise.imp (fun h => Nat.ne_of_lt h) hsrt) (fun h => Ne.symm h)
          exact (List.pairwise_cons.1 hn).1 x hx e.symm
        cases css with
        | nil => exact hb.elim
        | cons cs css =>
          simp only [backL] at hb
          have hk' : LLe L' (ins id ⟨lb.b, cs⟩ M) := ⟨fun i l e => by
            have hi : id ≠ i := by
              rintro rfl
              exact hno _ (hsub.subset (get_mem e)) rfl
            rw [get_ins_other hi]
            exact hk.get i l e, fun h => (hk.srt h).ins⟩
          obtain ⟨M', g1, g2, g3, g4⟩ := h3 (hsrt.sub (rem_sub _ _)) hk' hb
          have hidH : id ∉ H.map Prod.fst := fun hm => by
            obtain ⟨x, hx, e⟩ := List.mem_map.1 hm
            exact hno x (hmem x hx) e
          refine ⟨M', g1, ⟨fun i l e => ?_, fun h => g2.srt (h.sub (rem_sub _ _))⟩, fun i hi => ?_, fun {I I' Rs X w w'} hst => ?_⟩
          · by_cases hi : id = i
            · subst hi
              rw [hl] at e; cases e
              exact ⟨cs, by rw [g3 id hidH, get_ins_same]⟩
            · exact g2.get i l (get_rem_other hi e)
          · simp only [List.map_cons, List.mem_cons, not_or] at hi
            rw [g3 i hi.2, get_ins_other (Ne.symm hi.1)]
          · refine g4 ?_
            have hst1 : Step I Rs w I' (.blk lb.b cs :: (M.map lres ++ (blks (setC (hOf H) css) ++ X))) w' := by
              refine hst.perm_right ?_
              simp only [hOf, setC, blks, List.map_cons, List.cons_append]
              refine List.Perm.cons _ ?_
              rw [← List.append_assoc, ← List.append_assoc]
              exact List.perm_append_comm.append_right _
            refine (step_putL id hst1).perm_right ?_
            rw [← List.append_assoc, ← List.append_assoc]
            exact List.perm_append_comm.append_right _
    · exact h.elim
theorem pickR_sound : ∀ {ks : List Nat} {R : List (Nat × Res)} {c : List Res → List (Nat × Res) → Prop}, pickR R ks c → ∃ Rs R', c Rs R' ∧ (R.map Prod.snd).Perm (Rs ++ R'.map Prod.snd)
  | [], R, c, h => ⟨[], R, h, .refl _⟩
  | key :: ks, R, c, h => by
    simp only [pickR] at h
    split at h
    · rename_i r hr
      obtain ⟨Rs, R', h1, h2⟩ := pickR_sound h
      exact ⟨r :: Rs, R', h1, ((rem_perm hr).map Prod.snd).trans (h2.cons _)⟩
    · exact h.elim
theorem slAt_of {I : Imm} {b len cap sz : Nat} {cs : List Value} (h1 : cs.length = len * sz) (h2 : len ≤ cap) (h : CellsAt I b 0 cs) : SlAt I sz len cs (.slice (some ⟨b, 0, none⟩) len cap) := ⟨rfl, h2, h1, h⟩
theorem froz_step {I : Imm} {X : List Res} {w : World} {r : Res} (hs : Sat I (r :: X) w) : ∃ I', I.le I' ∧ Froz I' r ∧ Step I (r :: X) w I' X w := by
  have h0 := (hs.res r (by simp)).1
  have drop : Step I (r :: X) w I X w := (Step.refl hs).sub_right (List.sublist_cons_self _ _)
  cases r with
  | blk b cs =>
    obtain ⟨ty, fz, h1, h2⟩ := h0
    have hst := step_giveC (cs := cs) hs rfl fun o x e => by rw [World.cell_of_heap h1]; simpa using e
    exact ⟨_, hst.le, cells_addC _ _ _, hst⟩
  | vec v sz cs =>
    simp only [Res.holds] at h0
    unfold vecHolds at h0
    split at h0
    · rename_i b len cap
      obtain ⟨h1, h2, c, ty, fz, h3, h4, h5, h6⟩ := h0
      have hst := step_giveC (cs := cs) hs (b := b) rfl fun o x e => by
        rw [World.cell_of_heap h3]
        have : o < cs.length := by
          rcases Nat.lt_or_ge o cs.length with h' | h'
          · exact h'
          · rw [List.getElem?_eq_none h'] at e; cases e
        rw [h5 o this, e]
      exact ⟨_, hst.le, ⟨len, rfl, slAt_of h1 h2 (cells_addC _ _ _)⟩, hst⟩
    · obtain ⟨rfl, rfl, rfl⟩ := h0
      exact ⟨I, .refl _, ⟨0, rfl, rfl, rfl, rfl, rfl⟩, drop⟩
    · exact h0.elim
  | map r es cl =>
    have hst := step_giveM hs
    exact ⟨_, hst.le, by simp [Froz, Imm.addM], hst⟩
  | lmap r kvs => exact ⟨I, .refl _, trivial, drop⟩
  | iter r m s se st => exact ⟨I, .refl _, trivial, drop⟩
theorem freezeR_sound {w : World} : ∀ {ks : List Nat} {R : List (Nat × Res)} {I : Imm} {X : List Res} {c : List (Nat × Res) → Imm → Prop}, Sat I (X ++ R.map Prod.snd) w → freezeR R ks I c →
    ∃ R' I', c R' I' ∧ Step I (X ++ R.map Prod.snd) w I' (X ++ R'.map Prod.snd) w
  | [], R, I, X, c, hs, h => ⟨R, I, h, .refl hs⟩
  | key :: ks, R, I, X, c, hs, h => by
    simp only [freezeR] at h
    split at h
    · rename_i r hr
      have hp : (X ++ R.map Prod.snd).Perm (r :: (X ++ (rem key R).map Prod.snd)) := (((rem_perm hr).map Prod.snd).append_left X).trans List.perm_middle
      obtain ⟨I', h1, h2, h3⟩ := froz_step (hs.perm hp)
      obtain ⟨R', I'', g1, g2⟩ := freezeR_sound h3.sat (h I' h1 h2)
      exact ⟨R', I'', g1, (h3.perm_left hp.symm).trans g2⟩
    · exact h.elim
theorem freezeL_sound {w : World} : ∀ {ks : List Nat} {L : List (Nat × Lb)} {I : Imm} {X : List Res} {c : List (Nat × Lb) → Imm → Prop}, Sat I (L.map lres ++ X) w → freezeL L ks I c →
    ∃ L' I', c L' I' ∧ Step I (L.map lres ++ X) w I' (L'.map lres ++ X) w
  | [], L, I, X, c, hs, h => ⟨L, I, h, .refl hs⟩
  | key :: ks, L, I, X, c, hs, h => by
    simp only [freezeL] at h
    split at h
    · rename_i lb hr
      have hp : (L.map lres ++ X).Perm (.blk lb.b lb.cs :: ((rem key L).map lres ++ X)) := (((rem_perm hr).map lres).append_right X)
      obtain ⟨I', h1, h2, h3⟩ := froz_step (hs.perm hp)
      obtain ⟨R', I'', g1, g2⟩ := freezeL_sound h3.sat (h I' h1 h2)
      exact ⟨R', I'', g1, (h3.perm_left hp.symm).trans g2⟩
    · exact h.elim
theorem addR_step {I I' : Imm} {Rs X : List Res} {w w' : World} : ∀ {Rn : List Res} {d : Nat} {R : List (Nat × Res)}, Step I Rs w I' (X ++ (Rn ++ R.map Prod.snd)) w' → Step I Rs w I' (X ++ (addR d Rn R).map Prod.snd) w'
  | [], d, R, h => h
  | r :: Rn, d, R, h => by
    simp only [addR]
    refine step_putR d ?_
    refine Step.perm_right (R₁ := (X ++ [r]) ++ (addR (d + 1000) Rn R).map Prod.snd) (addR_step (Rn := Rn) (d := d + 1000) (X := X ++ [r]) ?_) ?_
    · simpa using h
    · simp only [List.append_assoc, List.cons_append, List.nil_append]
      exact List.perm_middle
end lists
section sound
variable {P : Program} {TT : Nat → Option TI} {ρ : Operand → Option SV} {ρv : Operand → Value} {σ : Mem} {k : SV → Mem → Prop} {w : World}
theorem call_ok {f : FuncId} {args : List Value} {H : List (Nat × Lb)} {L' : List (Nat × Lb)} {Rs : List Res} {R'' : List (Nat × Res)} {I' : Imm} {d : Nat}
    {K : Value → List (Nat × Lb) → List (Nat × Res) → Imm → Prop}
    (hback : ∀ {css : List (List Value)} {M : List (Nat × Lb)} {K : List (Nat × Lb) → Prop}, LLe L' M → backL H css M K → ∃ M', K M' ∧ LLe σ.L M' ∧ (∀ i, i ∉ H.map Prod.fst → get M' i = get M i) ∧
      ∀ {I I' : Imm} {Rs X : List Res} {w w' : World}, Step I Rs w I' (blks (setC (hOf H) css) ++ (M.map lres ++ X)) w' → Step I Rs w I' (M'.map lres ++ X) w')
    (hst : Step σ.I σ.res w I' (blks (hOf H) ++ Rs ++ (L'.map lres ++ R''.map Prod.snd)) w)
    (hK : ∀ v L R I, K v L R I → k (.v v) ⟨L, R, I⟩)
    (hw : WP P f args.toArray (hOf H) Rs I' fun v cs Rn I'' => backL H cs L' fun L'' => K v L'' (addR d Rn R'') I'') :
    OpOk P σ.I σ.res w (NK σ k) ((callFunc f args.toArray).run P w) := by
  rw [hw.enters w]
  refine ⟨rfl, (hw.calls w (hst.sat.sub (List.sublist_append_left _ _))).mono ?_⟩
  rintro e w' ⟨v, cs, Rn, I'', rfl, _, hs2, hb⟩
  obtain ⟨M', g1, g2, g3, g4⟩ := hback (.refl _) hb
  have hfr := Step.framed hst.sat hs2
  refine ⟨v, I'', _, rfl, hst.trans (addR_step (g4 (X := Rn ++ R''.map Prod.snd) (hfr.perm_right ?_))), .v v, _, hK _ _ _ _ g1, rfl, g2, rfl, rfl⟩
  rw [List.append_assoc]
  refine List.Perm.append_left _ ?_
  rw [← List.append_assoc, ← List.append_assoc]
  exact List.perm_append_comm.append_right _
theorem nCallF_sound (hsrt : Srt σ.L) (hs : Sat σ.I σ.res w) {d : Option Nat} {f : FuncId} {args : List Value} (h : nCallF P σ k d f args) : OpOk P σ.I σ.res w (NK σ k) ((callFunc f args.toArray).run P w) := by
  rcases h with ⟨v, h1, h2⟩ | ⟨ids, rs, fz, h⟩
  · rw [h1 w]
    exact .of_run hs ⟨_, σ, h2, rfl, .refl _, rfl, rfl⟩
  · change pickL σ.L ids _ at h
    obtain ⟨H, L', h, hp, _, _, hback⟩ := pickL_sound h
    change pickR σ.R rs _ at h
    obtain ⟨Rs, R', h, hp'⟩ := pickR_sound h
    have hp2 : σ.res.Perm ((blks (hOf H) ++ Rs ++ L'.map lres) ++ R'.map Prod.snd) := by
      unfold Mem.res
      refine (hp.append hp').trans ?_
      simp only [List.append_assoc]
      refine List.Perm.append_left _ ?_
      rw [← List.append_assoc, ← List.append_assoc]
      exact List.perm_append_comm.append_right _
    obtain ⟨R'', I', h, hst⟩ := freezeR_sound (hs.perm hp2) h
    refine call_ok (K := fun v L R I => k (.v v) ⟨L, R, I⟩) (hback hsrt) ((hst.perm_left hp2.symm).perm_right (by rw [List.append_assoc])) (fun _ _ _ _ h => h) h
theorem map_args {c : Array Operand} : c.map ρv = (c.toList.map ρv).toArray := by apply Array.toList_inj.1; simp
theorem nCall_sound (hT : ∀ t i, TT t = some i → tiOf P t = some i) (hsrt : Srt σ.L) (hf : Fits σ ρ ρv) (hF : ∀ f, ρv (.func f) = .func (.func f) #[] #[]) (hs : Sat σ.I σ.res w) {d : Option Nat} {c : Call} {ty : TypeId} (h : nCall P TT ρ σ k d c) :
    OpOk P σ.I σ.res w (NK σ k) ((do let d ← resolve ρv c ty; invoke d.target d.args : Sem Next).run P w) := by
  unfold nCall at h
  simp only [resolve, map_args]
  split at h
  · rename_i f hc
    replace h := vals_sound hf h
    simp only [hc, hF, Deferred.ofValue, Sem.run_bind, Sem.run_pure, Result.andThen_ok, invoke, Array.empty_append, Array.append_empty]
    exact nCallF_sound hsrt hs h
  · rename_i x hc
    replace h := vals_sound hf (val_sound hf h)
    split at h
    · rename_i f first captured ex
      have := nCallF_sound hsrt hs h
      simp only [hc, ex, Deferred.ofValue, Sem.run_bind, Sem.run_pure, Result.andThen_ok, invoke]
      have e : first ++ (c.args.toList.map ρv).toArray ++ captured = (first.toList ++ c.args.toList.map ρv ++ captured.toList).toArray := by apply Array.toList_inj.1; simp
      rw [e]; exact this
    · exact h.elim
  · rename_i x name hc
    replace h := vals_sound hf (val_sound hf h)
    split at h
    · rename_i t v ex
      obtain ⟨f, rcv, hm, h⟩ := h
      have := nCallF_sound hsrt hs h
      simp only [hc, ex, Sem.run_bind, Sem.run_pure, Result.andThen_ok, invoke]
      have e0 : (#[Value.iface t v] ++ (c.args.toList.map ρv).toArray)[0]? = some (.iface t v) := by simp
      rw [e0]
      have e1 : (#[Value.iface t v] ++ (c.args.toList.map ρv).toArray).extract 1 (#[Value.iface t v] ++ (c.args.toList.map ρv).toArray).size = (c.args.toList.map ρv).toArray := by
        apply Array.toList_inj.1
        simp
        apply List.take_of_length_le
        simp
      simp only [e1, callMethod, Sem.run_bind, run_program, Result.andThen_ok, hm w]
      have e2 : #[rcv] ++ (c.args.toList.map ρv).toArray = (rcv :: c.args.toList.map ρv).toArray := by apply Array.toList_inj.1; simp
      rw [e2]; exact this
    · exact h.elim
  · rename_i b hc
    have htys : ∀ l, c.argTypes.toList = l → c.argTypes = l.toArray := fun l e => by rw [← e]
    split at h
    · rename_i x t ha ht
      simp only [hc, Sem.run_pure, Sem.run_bind, Result.andThen_ok, invoke, builtin, ha, htys _ ht]
      have := nLen_sound (P := P) (ty := ty) hT hf hs h
      have := ok_of_v this
      simp only [Sem.run_bind, Sem.run_pure] at this
      exact this
    · rename_i x t ha ht
      simp only [hc, Sem.run_pure, Sem.run_bind, Result.andThen_ok, invoke, builtin, ha, htys _ ht]
      have := nCap_sound (P := P) (ty := ty) hT hf hs h
      have := ok_of_v this
      simp only [Sem.run_bind, Sem.run_pure] at this
      exact this
    · rename_i s x t u ha ht
      split at h
      · rename_i iu hu
        split at h
        · exact h.elim
        · rename_i hni
          simp only [hc, Sem.run_pure, Sem.run_bind, Result.andThen_ok, invoke, builtin, ha, htys _ ht]
          have := nAppend_sound (P := P) (ty := ty) hT hf hs (hT _ _ hu) (fun kd e => hni kd e) h
          have := ok_of_v this
          simp only [Sem.run_bind, Sem.run_pure] at this
          exact this
      · exact h.elim
    · rename_i s x t u ha ht
      simp only [hc, Sem.run_pure, Sem.run_bind, Result.andThen_ok, invoke, builtin, ha, htys _ ht]
      have := nCopy_sound (P := P) (ty := ty) (xt := u) hT hf hs h
      have := ok_of_v this
      simp only [Sem.run_bind, Sem.run_pure] at this
      exact this
    · exact h.elim
theorem node_sound (hT : ∀ t i, TT t = some i → tiOf P t = some i) (hZ : ∀ t i, TT t = some i → i.d = .int .i64 → i.zero = .int .i64 0) (hsrt : Srt σ.L) (hf : Fits σ ρ ρv) (hF : ∀ f, ρv (.func f) = .func (.func f) #[] #[])
    (hs : Sat σ.I σ.res w) {o : Oper} (h : node P TT ρ σ k o) : OpOk P σ.I σ.res w (NK σ k) ((execOp ρv o).run P w) := by
  have hn : ∀ x, o.op = .nilCheck x → nNil ρ σ k x → OpOk P σ.I σ.res w (NK σ k) ((execOp ρv o).run P w) := fun x e => nNil_sound hf hs e
  unfold node at h
  split at h
  all_goals (rename_i e)
  · simp only [execOp, e, Sem.run_pure]
    exact .of_run hs (nMove_sound hf h)
  · simp only [execOp, e, Sem.run_pure]
    exact .of_run hs (nMove_sound hf h)
  · have := nPick_sound (P := P) hf hs h
    simp only [execOp, e]
    exact this
  · simp only [execOp, e]
    exact ok_of_v (nAlloc_sound (P := P) hT hs h)
  · simp only [execOp, e]
    exact ok_of_v (nBox_sound (P := P) hf hs h)
  · simp only [execOp, e]
    exact ok_of_v (nBuild_sound (P := P) hT hf hs h)
  · simp only [execOp, e]
    exact ok_of_v (nBuildSlice_sound (P := P) hT hf hs h)
  · have := nInsert_sound (P := P) hT hf hs h
    simp only [execOp, e]
    exact this
  · simp only [execOp, e]
    exact ok_of_v (nLoad_sound (P := P) hT hf hs h)
  · have := nStore_sound (P := P) hT hf hs h
    simp only [execOp, e]
    exact this
  · exact hn _ e h
  · simp only [execOp, e]
    exact ok_of_v (nBin_sound (P := P) hT hf hs h)
  · simp only [execOp, e]
    exact ok_of_v (nUn_sound (P := P) hf hs h)
  · simp only [execOp, e]
    exact ok_of_v (nConv_sound (P := P) hT hf hs h)
  · simp only [execOp, e]
    exact ok_of_v (nIface_sound (P := P) hT hf hs h)
  · simp only [execOp, e]
    exact ok_of_v (nFunc_sound (P := P) hf hs h)
  · simp only [execOp, e]
    exact ok_of_v (nMakeMap_sound (P := P) hT hf hs h)
  · simp only [execOp, e]
    exact ok_of_v (nMakeSlice_sound (P := P) hT hf hs h)
  · simp only [execOp, e]
    exact ok_of_v (nSlice_sound (P := P) hT hf hs h)
  · simp only [execOp, e]
    exact ok_of_v (nFieldAddr_sound (P := P) hT hf hs h)
  · simp only [execOp, e]
    exact ok_of_v (nField_sound (P := P) hT hf hs h)
  · simp only [execOp, e]
    exact ok_of_v (nIndexAddr_sound (P := P) hT hf hs h)
  · simp only [execOp, e]
    exact ok_of_v (nIndex_sound (P := P) hT hf hs h)
  · simp only [execOp, e]
    exact ok_of_v (nLookup_sound (P := P) hT hZ hf hs h)
  · have := nMapUpdate_sound (P := P) hT hf hs h
    simp only [execOp, e]
    exact this
  · simp only [execOp, e]
    exact ok_of_v (nRange_sound (P := P) hT hf hs h)
  · simp only [execOp, e]
    exact ok_of_v (nNext_sound (P := P) (ty := o.type) hf hs h)
  · simp only [execOp, e]
    exact ok_of_v (nEntry_sound (P := P) hf hs h)
  · simp only [execOp, e]
    exact ok_of_v (nTypeAssert_sound (P := P) hT hf hs h)
  · simp only [execOp, e]
    exact ok_of_v (nExtract_sound (P := P) hf hs h)
  · have := nCall_sound (P := P) (ty := o.type) hT hsrt hf hF hs h
    simp only [execOp, e]
    exact this
  · exact h.elim
end sound
end Go.Proofs.YtcfglgelckjpmaaGreatDoor
