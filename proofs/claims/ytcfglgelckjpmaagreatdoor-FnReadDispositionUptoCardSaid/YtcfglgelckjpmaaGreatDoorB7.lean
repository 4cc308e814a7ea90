/- Own machinery, and laws of the functions that the statement reaches (part 7). -/
import Derived.Test.YtcfglgelckjpmaaGreatDoorB5
import GoSem.Dispatch
set_option linter.all false
namespace Go.Proofs.YtcfglgelckjpmaaGreatDoor
def NK (σ : Mem) (k : SV → Mem → Prop) (v : Value) (Rs : List Res) (I' : Imm) : Prop :=
  ∃ sv σ', k sv σ' ∧ Den σ'.L sv v ∧ LLe σ.L σ'.L ∧ σ'.I = I' ∧ Rs = σ'.res
def VOk (σ : Mem) (w : World) (k : SV → Mem → Prop) : Result Value → Prop
  | .ok v w' => ∃ I' Rs', Step σ.I σ.res w I' Rs' w' ∧ NK σ k v Rs' I'
  | _ => False
theorem ok_of_v {P : Program} {σ : Mem} {w : World} {k : SV → Mem → Prop} {s : Sem Value} (h : VOk σ w k (s.run P w)) :
    OpOk P σ.I σ.res w (NK σ k) ((do pure (Next.value (← s)) : Sem Next).run P w) := by
  simp only [Sem.run_bind]
  cases e : s.run P w with
  | ok v w' => rw [e] at h; simp only [Result.andThen_ok, Sem.run_pure]; exact h
  | halt x w' => rw [e] at h; exact h.elim
theorem ok_of_u {P : Program} {σ : Mem} {w w' : World} {k : SV → Mem → Prop} {s : Sem Unit} {I' : Imm} {Rs' : List Res} (h : s.run P w = .ok () w') (hs : Step σ.I σ.res w I' Rs' w') (hk : NK σ k undef Rs' I') :
    OpOk P σ.I σ.res w (NK σ k) ((do s; pure Next.skip : Sem Next).run P w) := by
  simp only [Sem.run_bind, h, Result.andThen_ok, Sem.run_pure]
  exact ⟨I', Rs', hs, hk⟩
theorem VOk.same {σ : Mem} {w : World} {k : SV → Mem → Prop} {sv : SV} {v : Value} (hs : Sat σ.I σ.res w) (hk : k sv σ) (hd : Den σ.L sv v) : VOk σ w k (.ok v w) :=
  ⟨σ.I, σ.res, .refl hs, sv, σ, hk, hd, .refl _, rfl, rfl⟩
theorem VOk.pure {σ : Mem} {w : World} {k : SV → Mem → Prop} {v : Value} (hs : Sat σ.I σ.res w) (hk : k (.v v) σ) : VOk σ w k (.ok v w) := .same hs hk rfl
section lists
variable {σ : Mem}
theorem res_getL {id : Nat} {lb : Lb} (h : get σ.L id = some lb) : σ.res.Perm (.blk lb.b lb.cs :: ((rem id σ.L).map lres ++ σ.R.map Prod.snd)) := by
  unfold Mem.res
  exact (((rem_perm h).map lres).append_right _)
theorem res_setL {id : Nat} {lb : Lb} (h : get σ.L id = some lb) (lb' : Lb) : (Mem.res { σ with L := ins id lb' σ.L }).Perm (.blk lb'.b lb'.cs :: ((rem id σ.L).map lres ++ σ.R.map Prod.snd)) := by
  unfold Mem.res
  exact (((ins_upd h lb').map lres).append_right _)
theorem res_getR {key : Nat} {r : Res} (h : get σ.R key = some r) : σ.res.Perm (r :: (σ.L.map lres ++ (rem key σ.R).map Prod.snd)) := by
  unfold Mem.res
  exact (((rem_perm h).map Prod.snd).append_left _).trans List.perm_middle
theorem res_setR {key : Nat} {r : Res} (h : get σ.R key = some r) (r' : Res) : (Mem.res { σ with R := ins key r' σ.R }).Perm (r' :: (σ.L.map lres ++ (rem key σ.R).map Prod.snd)) := by
  unfold Mem.res
  exact (((ins_upd h r').map Prod.snd).append_left _).trans List.perm_middle
theorem step_newL {I I' : Imm} {Rs : List Res} {w w' : World} {L : List (Nat × Lb)} {R : List (Nat × Res)} {b : Nat} {cs : List Value} (d : Nat) {J : Imm}
    (h : Step I Rs w I' (.blk b cs :: (L.map lres ++ R.map Prod.snd)) w') : Step I Rs w I' (Mem.res ⟨ins d ⟨b, cs⟩ L, R, J⟩) w' := by
  obtain ⟨l', h1, h2⟩ := ins_perm d (⟨b, cs⟩ : Lb) L
  have h3 : (Mem.res ⟨ins d ⟨b, cs⟩ L, R, J⟩).Perm (.blk b cs :: (l'.map lres ++ R.map Prod.snd)) := (h2.map lres).append_right _
  exact (h.sub_right ((((h1.map lres).append_right _)).cons_cons _)).perm_right h3.symm
theorem step_newR {I I' : Imm} {Rs : List Res} {w w' : World} {L : List (Nat × Lb)} {R : List (Nat × Res)} {r : Res} (d : Nat) {J : Imm}
    (h : Step I Rs w I' (r :: (L.map lres ++ R.map Prod.snd)) w') : Step I Rs w I' (Mem.res ⟨L, ins d r R, J⟩) w' := by
  obtain ⟨l', h1, h2⟩ := ins_perm d r R
  have h3 : (Mem.res ⟨L, ins d r R, J⟩).Perm (r :: (L.map lres ++ l'.map Prod.snd)) := ((h2.map Prod.snd).append_left _).trans List.perm_middle
  exact (h.sub_right (((h1.map Prod.snd).append_left _).cons_cons _)).perm_right h3.symm
end lists
section slots
variable {σ : Mem} {ρ : Operand → Option SV} {ρv : Operand → Value}
def Fits (σ : Mem) (ρ : Operand → Option SV) (ρv : Operand → Value) : Prop := ∀ x sv, ρ x = some sv → Den σ.L sv (ρv x)
theorem tov_sound {L : List (Nat × Lb)} {sv : SV} {c : Value → Prop} {y : Value} (h : tov L sv c) (d : Den L sv y) : c y := by
  cases sv with
  | v x => obtain rfl : y = x := d; exact h
  | loc id off =>
    obtain ⟨lb, h1, rfl⟩ := d
    simp only [tov, h1] at h
    exact h
theorem val_sound (hf : Fits σ ρ ρv) {x : Operand} {c : Value → Prop} (h : val ρ σ x c) : c (ρv x) := by
  unfold val at h
  split at h
  · exact tov_sound h (hf x _ ‹_›)
  · exact h.elim
theorem vals_sound (hf : Fits σ ρ ρv) : ∀ {xs : List Operand} {c : List Value → Prop}, vals ρ σ xs c → c (xs.map ρv)
  | [], _, h => h
  | x :: xs, c, h => by
    have h1 : vals ρ σ xs fun vs => c (ρv x :: vs) := val_sound hf h
    exact vals_sound (xs := xs) (c := fun vs => c (ρv x :: vs)) hf h1
theorem optVal_sound (hf : Fits σ ρ ρv) {x : Option Operand} {c : Option Value → Prop} (h : optVal ρ σ x c) : c (x.map ρv) := by
  cases x with
  | none => exact h
  | some x => exact val_sound hf h
end slots
section cells
theorem takeAt_sound : ∀ {cs : List Value} {o n : Nat} {c : List Value → Prop}, takeAt cs o n c → ∃ xs, c xs ∧ xs.length = n ∧ xs = (cs.drop o).take n ∧ o + n ≤ cs.length
  | cs, 0, 0, c, h => ⟨[], by cases cs <;> exact h, rfl, by simp, by simp⟩
  | x :: cs, 0, n + 1, c, h => by
    obtain ⟨xs, h1, h2, h3, h4⟩ := takeAt_sound (cs := cs) (o := 0) (n := n) (c := fun r => c (x :: r)) h
    exact ⟨x :: xs, h1, by simp [h2], by simp [h3], by simp at h4 ⊢; exact h4⟩
  | x :: cs, o + 1, n, c, h => by
    have h' : takeAt cs o n c := by cases n <;> exact h
    obtain ⟨xs, h1, h2, h3, h4⟩ := takeAt_sound h'
    exact ⟨xs, h1, h2, by simp [h3], by simp; omega⟩
  | [], 0, n + 1, c, h => h.elim
  | [], o + 1, n, c, h => by cases n <;> exact h.elim
theorem cellAt_sound : ∀ {cs : List Value} {o : Nat} {c : Value → Prop}, cellAt cs o c → ∃ x, c x ∧ cs[o]? = some x
  | x :: cs, 0, c, h => ⟨x, h, rfl⟩
  | x :: cs, o + 1, c, h => by
    obtain ⟨y, h1, h2⟩ := cellAt_sound (cs := cs) (o := o) h
    exact ⟨y, h1, by simpa using h2⟩
  | [], _, c, h => h.elim
theorem putAt_sound : ∀ {cs : List Value} {o : Nat} {xs : List Value} {c : List Value → Prop}, putAt cs o xs c → c (splice cs o xs) ∧ o + xs.length ≤ cs.length
  | cs, 0, [], c, h => ⟨by simpa [splice] using (show c cs by cases cs <;> exact h), by simp⟩
  | y :: cs, 0, x :: xs, c, h => by
    obtain ⟨h1, h2⟩ := putAt_sound (cs := cs) (o := 0) (xs := xs) (c := fun r => c (x :: r)) h
    exact ⟨by simpa [splice] using h1, by simp at h2 ⊢; exact h2⟩
  | y :: cs, o + 1, xs, c, h => by
    have h' : putAt cs o xs (fun r => c (y :: r)) := by cases xs <;> exact h
    obtain ⟨h1, h2⟩ := putAt_sound h'
    refine ⟨?_, by simp; omega⟩
    simpa [splice, Nat.add_right_comm] using h1
  | [], 0, x :: xs, c, h => h.elim
  | [], o + 1, xs, c, h => by cases xs <;> exact h.elim
theorem vcells_eq (v : Value) : v.cells.toList = vcells v := by cases v <;> simp [Value.cells, vcells]
theorem vcells_size (v : Value) : v.cells.size = (vcells v).length := by rw [← vcells_eq]; simp
end cells
section sound
variable {P : Program} {TT : Nat → Option TI} {ρ : Operand → Option SV} {ρv : Operand → Value} {σ : Mem} {k : SV → Mem → Prop} {w : World}
theorem nMove_sound (hf : Fits σ ρ ρv) {x : Operand} (h : nMove ρ σ k x) : NK σ k (ρv x) σ.res σ.I := by
  unfold nMove at h
  split at h
  · exact ⟨_, σ, h, hf x _ ‹_›, .refl _, rfl, rfl⟩
  · exact h.elim
theorem newVar_sound (hs : Sat σ.I σ.res w) {d : Option Nat} {t : TypeId} {v : Value} (h : newLoc σ k d (vcells v)) : VOk σ w k ((do pure (Value.pointer (some (← newVar t v))) : Sem Value).run P w) := by
  unfold newLoc at h
  split at h
  · rename_i d
    split at h
    · rename_i hd
      have h1 := step_alloc hs (.cells v.cells t) (.blk w.heap.size (vcells v)) rfl ⟨t, (0, 0), by
        rw [heap_alloc, if_pos rfl, ← vcells_eq], fun o _ h => by simp at h⟩
      simp only [newVar, newRow, Sem.run_bind, run_newObj, Result.andThen_ok, Sem.run_pure, World.alloc_eq]
      refine ⟨σ.I, _, step_newL d h1, _, _, h w.heap.size, ⟨_, get_ins_same _ _ _, rfl⟩, LLe.ins_new hd _, rfl, rfl⟩
    · exact h.elim
  · exact h.elim
theorem nAlloc_sound (hT : ∀ t i, TT t = some i → tiOf P t = some i) (hs : Sat σ.I σ.res w) {d : Option Nat} {t : TypeId} (h : nAlloc TT σ k d t) :
    VOk σ w k ((Instr.alloc t true (.tuple #[])).run P w) := by
  unfold nAlloc at h
  split at h
  · rename_i i hi
    simp only [Instr.alloc, Sem.run_bind, run_zero (hT _ _ hi), Result.andThen_ok]
    exact newVar_sound (P := P) hs h
  · exact h.elim
theorem nBox_sound (hf : Fits σ ρ ρv) (hs : Sat σ.I σ.res w) {d : Option Nat} {t : TypeId} {x : Operand} (h : nBox ρ σ k d x) : VOk σ w k ((Instr.box t (ρv x)).run P w) := by
  unfold nBox at h
  exact newVar_sound (P := P) hs (val_sound hf h)
theorem reads_cell (hs : Sat σ.I σ.res w) {b off : Nat} {xs : List Value} (h : Reads σ b off xs) : ∀ j x, xs[j]? = some x → w.cell? ⟨b, off + j, none⟩ = some x := by
  intro j x e
  cases h with
  | imm h => exact hs.ok.c (h j x e)
  | blk key cs hk h =>
    obtain ⟨ty, fz, h1, _⟩ := mem_blk hs ((res_getR hk).mem_iff.2 (by simp) : Res.blk b cs ∈ σ.res)
    rw [World.cell_of_heap h1]; simpa using h j x e
  | vec key len cap sz cs hk h =>
    have h0 : vecHolds w sz cs (.slice (some ⟨b, 0, none⟩) len cap) := mem_blk hs (r := .vec (.slice (some ⟨b, 0, none⟩) len cap) sz cs) ((res_getR hk).mem_iff.2 (by simp))
    obtain ⟨h1, h2, c, ty, fz, h3, h4, h5, h6⟩ := h0
    rw [World.cell_of_heap h3]
    have h7 := h j x e
    have hlt : off + j < cs.length := by
      rcases Nat.lt_or_ge (off + j) cs.length with h' | h'
      · exact h'
      · simp [List.getElem?_eq_none h'] at h7
    rw [h5 _ hlt, h7]
  | loc id cs hk h =>
    obtain ⟨ty, fz, h1, _⟩ := mem_blk hs ((res_getL hk).mem_iff.2 (by simp) : Res.blk b cs ∈ σ.res)
    rw [World.cell_of_heap h1]; simpa using h j x e
theorem run_loadVar_agg {t : Nat} {i : TI} (hi : tiOf P t = some i) (ha : aggT i.d = true) {b off : Nat} {xs : List Value} (hl : xs.length = i.size)
    (h : ∀ j x, xs[j]? = some x → w.cell? ⟨b, off + j, none⟩ = some x) : (loadVar t ⟨b, off, none⟩).run P w = .ok (.agg xs.toArray) w := by
  simp only [loadVar, Sem.run_bind, run_agg hi, ha, Result.andThen_ok, if_true, run_size hi, run_loadCells hl h, Sem.run_pure]
theorem run_loadVar_one {t : Nat} {i : TI} (hi : tiOf P t = some i) (ha : aggT i.d = false) {b off : Nat} {x : Value}
    (h : w.cell? ⟨b, off, none⟩ = some x) : (loadVar t ⟨b, off, none⟩).run P w = .ok x w := by
  simp only [loadVar, Sem.run_bind, run_agg hi, ha, Result.andThen_ok, Bool.false_eq_true, if_false, run_load_cell h]
theorem nLoad_sound (hT : ∀ t i, TT t = some i → tiOf P t = some i) (hf : Fits σ ρ ρv) (hs : Sat σ.I σ.res w) {t : TypeId} {a : Operand} (h : nLoad TT ρ σ k t a) :
    VOk σ w k ((Instr.loadAt t (ρv a)).run P w) := by
  unfold nLoad at h
  split at h
  · exact h.elim
  · rename_i i hi
    have hi := hT _ _ hi
    split at h
    · rename_i id off ha hr
      obtain ⟨lb, h1, h2⟩ := hf _ _ hr
      simp only [h1] at h
      obtain ⟨xs, h3, h4, h5, h6⟩ := takeAt_sound h
      rw [h2]
      simp only [Instr.loadAt, Instr.sureAddr, Sem.run_bind, Sem.run_pure, Result.andThen_ok]
      rw [run_loadVar_agg hi ha h4 (reads_cell hs (.loc id lb.cs h1 fun j x e => by
        rw [h5, List.getElem?_take] at e
        split at e
        · simpa using e
        · cases e))]
      exact .pure hs h3
    · rename_i id off ha hr
      obtain ⟨lb, h1, h2⟩ := hf _ _ hr
      simp only [h1] at h
      obtain ⟨x, h3, h4⟩ := cellAt_sound h
      rw [h2]
      simp only [Instr.loadAt, Instr.sureAddr, Sem.run_bind, Sem.run_pure, Result.andThen_ok]
      have := reads_cell hs (.loc id lb.cs (xs := [x]) (off := off) h1 fun j y e => by
        cases j with
        | zero => simp at e; subst e; exact h4
        | succ j => simp at e) 0 x rfl
      rw [run_loadVar_one hi ha (by simpa using this)]
      exact .pure hs h3
    · rename_i a' ha hr
      have hv : ρv a = _ := hf _ _ hr
      rw [hv]
      simp only [Instr.loadAt, Instr.sureAddr, Sem.run_bind, Sem.run_pure, Result.andThen_ok]
      split at h
      · rename_i hz
        have : ∀ a', (loadVar t a').run P w = .ok (.agg #[]) w := fun a' => by
          simp only [loadVar, Sem.run_bind, run_agg hi, ha, Result.andThen_ok, if_true, run_size hi, hz]
          simp [loadCells, loadCellsFrom]
        rw [this]
        exact .pure hs h
      · rename_i n b off hz
        obtain ⟨xs, h1, h2, h3⟩ := h
        rw [run_loadVar_agg hi ha (by rw [hz]; exact h2) (reads_cell hs h1)]
        exact .pure hs h3
      · exact h.elim
    · rename_i b off ha hr
      have hv : ρv a = _ := hf _ _ hr
      rw [hv]
      simp only [Instr.loadAt, Instr.sureAddr, Sem.run_bind, Sem.run_pure, Result.andThen_ok]
      obtain ⟨x, h1, h2⟩ := h
      rw [run_loadVar_one hi ha (by simpa using reads_cell hs h1 0 x rfl)]
      exact .pure hs h2
    · exact h.elim
theorem run_storeVar {t : Nat} {i : TI} (hi : tiOf P t = some i) {v : Value} (hz : (vcells v).length = i.size) (ho : oneAll (vcells v) = true) {b off : Nat} {c : Array Value} {ty : TypeId} {fz : Nat × Nat}
    (hc : w.heap[b]? = some (.cells c ty fz)) (hl : off + (vcells v).length ≤ c.size) (hfz : ∀ o, off ≤ o → o < off + (vcells v).length → loose fz o) :
    ∃ w', (storeVar t ⟨b, off, none⟩ v).run P w = .ok () w' ∧ w'.heap[b]? = some (.cells (splice c.toList off (vcells v)).toArray ty fz) ∧ w'.heap.size = w.heap.size ∧
      (∀ b', b' ≠ b → w'.heap[b']? = w.heap[b']?) ∧ w'.os = w.os ∧ w'.tape = w.tape ∧ w'.output = w.output := by
  obtain ⟨w', h1, h2⟩ := run_storeCells (P := P) (vcells v) off 0 w c hc (by simpa using hl) (by simpa using hfz) ho
  refine ⟨w', ?_, by simpa using h2⟩
  simp only [storeVar, Sem.run_bind, run_size hi, Result.andThen_ok, vcells_size, hz]
  simp only [ne_eq, not_true_eq_false, if_false, vcells_eq]
  simpa using h1
theorem writes_step (hs : Sat σ.I σ.res w) {b off : Nat} {xs : List Value} {K : Mem → Prop} (h : Writes σ b off xs K) :
    ∃ σ' c ty fz, K σ' ∧ LLe σ.L σ'.L ∧ w.heap[b]? = some (.cells c ty fz) ∧ off + xs.length ≤ c.size ∧ (∀ o, off ≤ o → o < off + xs.length → loose fz o) ∧ σ'.I = σ.I ∧
      ∀ w', w'.heap[b]? = some (.cells (splice c.toList off xs).toArray ty fz) → w'.heap.size = w.heap.size → (∀ b', b' ≠ b → w'.heap[b']? = w.heap[b']?) → w'.os = w.os → w'.tape = w.tape →
        w'.output = w.output → Step σ.I σ.res w σ.I σ'.res w' := by
  cases h with
  | blk key cs hk hl h =>
    obtain ⟨ty, fz, h1, h2⟩ := mem_blk hs ((res_getR hk).mem_iff.2 (by simp) : Res.blk b cs ∈ σ.res)
    refine ⟨_, cs.toArray, ty, fz, h, .refl _, h1, by simpa using hl, fun o _ h' => h2 o (by omega), rfl, fun w' e1 e2 e3 e4 e5 e6 => ?_⟩
    refine ((step_write (hs.perm (res_getR hk)) (b := b) (r' := .blk b (splice cs off xs)) rfl rfl ⟨ty, fz, by simpa using e1, fun o h' => h2 o (by rw [splice_length hl] at h'; exact h')⟩ e2 e3 e4 e5 e6).perm_left (res_getR hk).symm).perm_right (res_setR hk _).symm
  | vec key len cap sz cs hk hl h =>
    have h0 : vecHolds w sz cs (.slice (some ⟨b, 0, none⟩) len cap) := mem_blk hs (r := .vec (.slice (some ⟨b, 0, none⟩) len cap) sz cs) ((res_getR hk).mem_iff.2 (by simp))
    obtain ⟨h1, h2, c, ty, fz, h3, h4, h5, h6⟩ := h0
    have hle : cs.length ≤ cap * sz := by rw [h1]; exact Nat.mul_le_mul_right _ h2
    refine ⟨_, c, ty, fz, h, .refl _, h3, by omega, fun o _ h' => h6 o (by omega), rfl, fun w' e1 e2 e3 e4 e5 e6 => ?_⟩
    refine ((step_write (hs.perm (res_getR hk)) (b := b) (r' := .vec (.slice (some ⟨b, 0, none⟩) len cap) sz (splice cs off xs)) rfl rfl ?_ e2 e3 e4 e5 e6).perm_left (res_getR hk).symm).perm_right (res_setR hk _).symm
    refine ⟨by rw [splice_length hl]; exact h1, h2, _, ty, fz, e1, ?_, fun j hj => ?_, h6⟩
    · rw [List.size_toArray, splice_length (by simp; omega)]; simpa using h4
    · rw [splice_length hl] at hj
      have hcj : ∀ i, i < cs.length → c.toList[i]? = cs[i]? := fun i hi => by simpa using h5 i hi
      simp only [List.getElem?_toArray, splice]
      rw [List.getElem?_append, List.getElem?_append, List.getElem?_append, List.getElem?_append]
      have hmin : min off c.toList.length = off := by simp; omega
      have hmin' : min off cs.length = off := by omega
      simp only [List.length_append, List.length_take, hmin, hmin']
      split
      · split
        · simp only [List.getElem?_take]; split
          · exact hcj j hj
          · first | rfl | omega
        · rfl
      · simp only [List.getElem?_drop]
        exact hcj _ (by omega)
  | loc id cs hk hl h =>
    obtain ⟨ty, fz, h1, h2⟩ := mem_blk hs ((res_getL hk).mem_iff.2 (by simp) : Res.blk b cs ∈ σ.res)
    refine ⟨_, cs.toArray, ty, fz, h, LLe.ins_upd hk _, h1, by simpa using hl, fun o _ h' => h2 o (by omega), rfl, fun w' e1 e2 e3 e4 e5 e6 => ?_⟩
    refine ((step_write (hs.perm (res_getL hk)) (b := b) (r' := .blk b (splice cs off xs)) rfl rfl ⟨ty, fz, by simpa using e1, fun o h' => h2 o (by rw [splice_length hl] at h'; exact h')⟩ e2 e3 e4 e5 e6).perm_left (res_getL hk).symm).perm_right (res_setL hk ⟨b, splice cs off xs⟩).symm
theorem putAt_writes {id off : Nat} {lb : Lb} {xs : List Value} {K : Mem → Prop} (h1 : get σ.L id = some lb) (h : putAt lb.cs off xs fun cs => K { σ with L := ins id ⟨lb.b, cs⟩ σ.L }) : Writes σ lb.b off xs K := by
  obtain ⟨h2, h3⟩ := putAt_sound h
  exact .loc id lb.cs h1 h3 h2
theorem nStore_sound (hT : ∀ t i, TT t = some i → tiOf P t = some i) (hf : Fits σ ρ ρv) (hs : Sat σ.I σ.res w) {t : TypeId} {a x : Operand} (h : nStore TT ρ σ k t a x) :
    OpOk P σ.I σ.res w (NK σ k) ((do Instr.storeAt t (ρv a) (ρv x); pure Next.skip : Sem Next).run P w) := by
  unfold nStore at h
  split at h
  · exact h.elim
  · rename_i i hi
    have hi := hT _ _ hi
    have h := val_sound hf h
    split at h
    · rename_i hz ho
      have hz : (vcells (ρv x)).length = i.size := beq_iff.1 hz
      have key : ∀ b off, ρv a = .pointer (some ⟨b, off, none⟩) → Writes σ b off (vcells (ρv x)) (fun σ' => k (.v undef) σ') →
          OpOk P σ.I σ.res w (NK σ k) ((do Instr.storeAt t (ρv a) (ρv x); pure Next.skip : Sem Next).run P w) := by
        intro b off e hw
        obtain ⟨σ', c, ty, fz, h1, h2, h3, h4, h5, h6, h7⟩ := writes_step hs hw
        obtain ⟨w', g1, g2, g3, g4, g5, g6, g7⟩ := run_storeVar hi hz ho h3 h4 h5
        refine ok_of_u (w' := w') ?_ (h7 w' g2 g3 g4 g5 g6 g7) ⟨_, σ', h1, rfl, h2, h6, rfl⟩
        rw [e]
        simp only [Instr.storeAt, Instr.sureAddr, Sem.run_bind, Sem.run_pure, Result.andThen_ok]
        exact g1
      split at h
      · rename_i id off hr
        obtain ⟨lb, h1, h2⟩ := hf _ _ hr
        simp only [h1] at h
        exact key _ _ h2 (putAt_writes h1 h)
      · rename_i b off hr
        exact key _ _ (hf _ _ hr) h
      · exact h.elim
    · exact h.elim
theorem nNil_sound (hf : Fits σ ρ ρv) (hs : Sat σ.I σ.res w) {x : Operand} {o : Oper} (ho : o.op = .nilCheck x) (h : nNil ρ σ k x) : OpOk P σ.I σ.res w (NK σ k) ((execOp ρv o).run P w) := by
  simp only [execOp, ho]
  unfold nNil at h
  split at h
  · rename_i id off hr
    obtain ⟨lb, h1, h2⟩ := hf _ _ hr
    simp only [h2, Sem.run_pure]
    exact .of_run hs ⟨_, σ, h, ⟨lb, h1, rfl⟩, .refl _, rfl, rfl⟩
  · rename_i a hr
    have h2 : ρv x = _ := hf _ _ hr
    simp only [h2, Sem.run_pure]
    exact .of_run hs ⟨_, σ, h, rfl, .refl _, rfl, rfl⟩
  · exact h.elim
end sound
end Go.Proofs.YtcfglgelckjpmaaGreatDoor
