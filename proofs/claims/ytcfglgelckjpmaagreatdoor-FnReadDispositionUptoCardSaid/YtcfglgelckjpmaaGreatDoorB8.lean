/- Own machinery, and laws of the functions that the statement reaches (part 8). -/
import Derived.Test.YtcfglgelckjpmaaGreatDoorB7
import Derived.Laws.Append
import Derived.Laws.BytesString
set_option linter.all false
namespace Go.Proofs.YtcfglgelckjpmaaGreatDoor
section sound
variable {P : Program} {TT : Nat → Option TI} {ρ : Operand → Option SV} {ρv : Operand → Value} {σ : Mem} {k : SV → Mem → Prop} {w : World}
theorem nPick_sound (hf : Fits σ ρ ρv) (hs : Sat σ.I σ.res w) {c a b : Operand} (h : nPick ρ σ k c a b) :
    OpOk P σ.I σ.res w (NK σ k) ((do pure (Next.value (if ← asBool (ρv c) then ρv a else ρv b)) : Sem Next).run P w) := by
  unfold nPick at h
  have h := val_sound hf h
  split at h
  · rename_i e; simp only [e, asBool, Sem.run_bind, Sem.run_pure, Result.andThen_ok, if_true]; exact .of_run hs (nMove_sound hf h)
  · rename_i e; simp only [e, asBool, Sem.run_bind, Sem.run_pure, Result.andThen_ok, Bool.false_eq_true, if_false]; exact .of_run hs (nMove_sound hf h)
  · exact h.elim
theorem places_sound (hT : ∀ t i, TT t = some i → tiOf P t = some i) : ∀ {fs : List Field} {c : List (Nat × Nat) → Prop}, places TT fs c →
    ∃ pl, c pl ∧ (fs.mapM fun f => (do pure (f.offset, ← sizeOf f.type) : Sem (Nat × Nat))).run P w = .ok pl w
  | [], c, h => ⟨[], h, by simp⟩
  | f :: fs, c, h => by
    obtain ⟨n, ft, fo, e, t, pk, bo⟩ := f
    simp only [places] at h
    split at h
    · rename_i i hi
      obtain ⟨pl, h1, h2⟩ := places_sound hT h
      refine ⟨_, h1, ?_⟩
      simp only [List.mapM_cons, Sem.run_bind, run_size (hT _ _ hi), Result.andThen_ok, Sem.run_pure, h2]
    · exact h.elim
theorem partVals_sound (hf : Fits σ ρ ρv) : ∀ {ps : List (Nat × Operand)} {c : List (Nat × Value) → Prop}, partVals ρ σ ps c → c (ps.map fun (i, x) => (i, ρv x))
  | [], _, h => h
  | (i, x) :: ps, c, h => by
    have h1 : partVals ρ σ ps fun vs => c ((i, ρv x) :: vs) := val_sound hf h
    exact partVals_sound (ps := ps) (c := fun vs => c ((i, ρv x) :: vs)) hf h1
theorem foldl_zip (xs : List Value) : ∀ (off i : Nat) (cs : Array Value), off + i + xs.length ≤ cs.size →
    ((xs.zipIdx i).foldl (fun cs (c, j) => cs.setIfInBounds (off + j) c) cs).toList = splice cs.toList (off + i) xs := by
  induction xs with
  | nil => intro off i cs _; simp [splice]
  | cons x xs ih =>
    intro off i cs h
    simp only [List.length_cons] at h
    simp only [List.zipIdx_cons, List.foldl_cons]
    rw [ih _ _ _ (by simp; omega)]
    have : (cs.setIfInBounds (off + i) x).toList = cs.toList.set (off + i) x := by simp
    rw [this, show off + (i + 1) = off + i + 1 by omega, splice_cons (by simp; omega)]
theorem foldl_cells (v : Value) (off : Nat) (cs : Array Value) : (v.cells.zipIdx.foldl (fun cs (c, j) => cs.setIfInBounds (off + j) c) cs) = ((vcells v).zipIdx.foldl (fun cs (c, j) => cs.setIfInBounds (off + j) c) cs) := by
  rw [← Array.foldl_toList, ← vcells_eq]
  simp
theorem fillAt_sound {pl : List (Nat × Nat)} {place : Nat → Option (Nat × Nat)} (hp : ∀ i x, pl[i]? = some x → place i = some x) : ∀ {ps : List (Nat × Value)} {cs : List Value} {c : List Value → Prop}, fillAt pl ps cs c →
    ∃ r, c r ∧ Instr.fill place cs.toArray ps = some r.toArray
  | [], cs, c, h => ⟨cs, h, rfl⟩
  | (i, v) :: ps, cs, c, h => by
    simp only [fillAt] at h
    split at h
    · rename_i off size hi
      split at h
      · rename_i hz
        obtain ⟨h1, h2⟩ := putAt_sound h
        obtain ⟨r, h3, h4⟩ := fillAt_sound hp h1
        refine ⟨r, h3, ?_⟩
        have hz : (vcells v).length = size := beq_iff.1 hz
        simp only [Instr.fill, hp i _ hi, vcells_size, hz]
        have hno : ¬ ((decide (size ≠ size) || decide (off + size > cs.toArray.size)) = true) := by simp; omega
        rw [if_neg hno, ← h4]
        congr 1
        apply Array.toList_inj.1
        have := foldl_zip (vcells v) off 0 cs.toArray (by simp; omega)
        rw [foldl_cells]
        simpa using this
      · exact h.elim
    · exact h.elim
theorem nBuild_sound (hT : ∀ t i, TT t = some i → tiOf P t = some i) (hf : Fits σ ρ ρv) (hs : Sat σ.I σ.res w) {t : TypeId} {ps : Array (Nat × Operand)} (h : nBuild TT ρ σ k t ps) :
    VOk σ w k ((Instr.build t (ps.map fun (i, x) => (i, ρv x))).run P w) := by
  unfold nBuild at h
  split at h
  · rename_i i hi
    split at h
    · rename_i fs hd
      obtain ⟨pl, h1, h2⟩ := places_sound (w := w) hT (partVals_sound hf h)
      obtain ⟨r, h3, h4⟩ := fillAt_sound (place := (pl.toArray[·]?)) (fun i x e => by simpa using e) h1
      have hm : (fs.mapM fun f => (do pure (f.offset, ← sizeOf f.type) : Sem (Nat × Nat))).run P w = .ok pl.toArray w := by
        rw [Array.mapM_eq_mapM_toList]
        simp only [Sem.run_map, h2, Result.andThen_ok]
      simp only [Instr.build, Sem.run_bind, run_zero (hT _ _ hi), run_und (hT _ _ hi), Result.andThen_ok, hd, hm]
      have h5 : i.zero.cells = (vcells i.zero).toArray := by rw [← vcells_eq]
      have h6 : (ps.map fun (i, x) => (i, ρv x)).toList = ps.toList.map fun (i, x) => (i, ρv x) := by simp
      simp only [h5, h6, h4]
      exact .pure hs h3
    · exact h.elim
  · exact h.elim
theorem rowOf_sound {size : Nat} : ∀ {ps : List (Nat × Value)} {n : Nat} {c : List Value → Prop}, rowOf size n ps c → ∃ cs, c cs ∧ cs.length = ps.length * size ∧
    ∀ (pre : List Value) (rest : Array Value), pre.length = n * size → rest.toList.take (n * size) = pre → rest.size = (n + ps.length) * size →
      Instr.fill (fun i => some (i * size, size)) rest ps = some (pre ++ cs).toArray
  | [], n, c, h => ⟨[], h, by simp, fun pre rest h1 h2 h3 => by
    simp only [Instr.fill, List.append_nil, Option.some.injEq]
    apply Array.toList_inj.1
    rw [← h2, List.take_of_length_le (by simp [h3])]⟩
  | (i, v) :: ps, n, c, h => by
    simp only [rowOf] at h
    split at h
    · rename_i h1 h2
      have h1 : i = n := beq_iff.1 h1
      have h2 : (vcells v).length = size := beq_iff.1 h2
      subst h1
      obtain ⟨cs, h3, h4, h5⟩ := rowOf_sound h
      refine ⟨vcells v ++ cs, h3, by simp [h2, h4, Nat.add_mul]; omega, fun pre rest g1 g2 g3 => ?_⟩
      simp only [List.length_cons] at g3
      have hle : i * size + size ≤ rest.size := by
        rw [g3, show i * size + size = (i + 1) * size by rw [Nat.add_mul]; simp]
        exact Nat.mul_le_mul_right _ (by omega)
      simp only [Instr.fill, vcells_size, h2]
      rw [if_neg (by simp; omega)]
      have hfold := foldl_zip (vcells v) (i * size) 0 rest (by rw [h2]; simpa using hle)
      have hsp : (v.cells.zipIdx.foldl (fun cs (c, j) => cs.setIfInBounds (i * size + j) c) rest).toList = splice rest.toList (i * size) (vcells v) := by
        rw [foldl_cells]
        simpa using hfold
      rw [h5 (pre ++ vcells v) _ (by simp [g1, h2, Nat.add_mul]) ?_ ?_]
      · simp
      · rw [hsp, splice, ← g2, h2, show (i + 1) * size = i * size + size by rw [Nat.add_mul]; simp]
        rw [List.take_append_of_le_length (by simp; omega)]
        rw [List.take_of_length_le (by simp; omega)]
      · have hlen := congrArg List.length hsp
        rw [splice_length (by rw [h2]; simpa using hle)] at hlen
        simp only [Array.length_toList] at hlen
        rw [hlen, g3, show i + 1 + ps.length = i + (ps.length + 1) by omega]
    · exact h.elim
theorem nBuildSlice_sound (hT : ∀ t i, TT t = some i → tiOf P t = some i) (hf : Fits σ ρ ρv) (hs : Sat σ.I σ.res w) {d : Option Nat} {t : TypeId} {len : Nat} {ps : Array (Nat × Operand)}
    (h : nBuildSlice TT ρ σ k d t len ps) : VOk σ w k ((Instr.buildSlice t len (ps.map fun (i, x) => (i, ρv x))).run P w) := by
  unfold nBuildSlice at h
  split at h
  · rename_i i hi
    split at h
    · rename_i e hd
      split at h
      · rename_i ie hie
        split at h
        · rename_i hle hlen
          have hle : len * ie.size ≤ 16777216 := by simpa [Nat.ble_eq] using hle
          have hlen : ps.toList.length = len := beq_iff.1 hlen
          obtain ⟨cs, h3, h4, h5⟩ := rowOf_sound (partVals_sound hf h)
          have hrun : (Instr.buildSlice t len (ps.map fun (i, x) => (i, ρv x))).run P w = .ok (.slice (some ⟨w.heap.size, 0, none⟩) len len) (w.alloc (.cells cs.toArray e)) := by
            have h6 : (ps.map fun (i, x) => (i, ρv x)).toList = ps.toList.map fun (i, x) => (i, ρv x) := by simp
            have hfill : ∀ z : Array Value, Instr.fill (fun i => some (i * ie.size, ie.size)) ((Array.range (len * ie.size)).map (fun j => z[j % z.size]!)) (ps.map fun (i, x) => (i, ρv x)).toList = some cs.toArray := fun z => by
              rw [h6, h5 [] _ (by simp) (by simp) (by simp [hlen])]; simp
            simp only [Instr.buildSlice, Sem.run_bind, run_und (hT _ _ hi), run_size (hT _ _ hie), Result.andThen_ok, hd]
            rw [if_neg (by omega)]
            split
            · simp only [Sem.run_pure, Result.andThen_ok, Sem.run_bind, hfill, newRow, run_newObj, World.alloc_eq]
            · simp only [Sem.run_pure, Result.andThen_ok, Sem.run_bind, run_zero (hT _ _ hie), hfill, newRow, run_newObj, World.alloc_eq]
          rw [hrun]
          rcases h3 with h3 | ⟨d', rfl, h3⟩
          · have hst := step_allocC hs cs e (0, 0) (fun o _ h => by simp at h)
            exact ⟨_, _, hst, _, { σ with I := σ.I.addC w.heap.size cs }, h3 _ _ hst.le (cells_addC _ _ _), rfl, .refl _, rfl, rfl⟩
          · have hst := step_alloc hs (.cells cs.toArray e) (.vec (.slice (some ⟨w.heap.size, 0, none⟩) len len) ie.size cs) rfl
              ⟨by simp [h4, hlen], Nat.le_refl _, cs.toArray, e, (0, 0), by rw [heap_alloc, if_pos rfl], by simp [h4, hlen], fun j _ => by simp, fun o _ h => by simp at h⟩
            exact ⟨_, _, step_newR d' hst, _, _, h3 w.heap.size, rfl, .refl _, rfl, rfl⟩
        · exact h.elim
      · exact h.elim
    · exact h.elim
  · exact h.elim
theorem decK_sound {p : Prop} {d : Decidable p} {c : Bool → Prop} (h : decK d c) : c (@decide p d) := by
  unfold decK at h
  split at h <;> exact h
theorem kindNo_inj {a b : IntKind} (h : Nat.beq (kindNo a) (kindNo b) = true) : a = b := by
  have h := beq_iff.1 h
  cases a <;> cases b <;> simp [kindNo] at h ⊢
theorem intOp_sound {op : BinOp} {kd : IntKind} {a b : Int} {c : Value → Prop} (h : intOp op kd a b c) (hop : op ≠ .shl ∧ op ≠ .shr) (t : TypeId) :
    ∃ v, (binOp op t (.int kd a) (.int kd b)).run P w = .ok v w ∧ c v := by
  cases op <;> simp only [intOp] at h <;> try exact h.elim
  case add => obtain ⟨m, rfl, h⟩ := h; exact ⟨_, by simp [binOp, Op.intArith], h⟩
  case sub => obtain ⟨m, rfl, h⟩ := h; exact ⟨_, by simp [binOp, Op.intArith], h⟩
  case mul => obtain ⟨m, rfl, h⟩ := h; exact ⟨_, by simp [binOp, Op.intArith], h⟩
  case quo => obtain ⟨h0, m, rfl, h⟩ := h; exact ⟨_, by simp [binOp, Op.intDiv, h0], h⟩
  case rem => obtain ⟨h0, m, rfl, h⟩ := h; exact ⟨_, by simp [binOp, Op.intDiv, h0], h⟩
  case and => obtain ⟨m, rfl, h⟩ := h; exact ⟨_, by simp [binOp, Op.intBits], h⟩
  case or => obtain ⟨m, rfl, h⟩ := h; exact ⟨_, by simp [binOp, Op.intBits], h⟩
  case eql => exact ⟨.bool (decide (a = b)), by simp [binOp, Op.intCmp]; rfl, decK_sound h⟩
  case neq => exact ⟨.bool (!decide (a = b)), by simp [binOp, Op.intCmp]; rfl, decK_sound h⟩
  case lss => exact ⟨_, by simp [binOp, Op.intCmp], decK_sound h⟩
  case gtr => exact ⟨_, by simp [binOp, Op.intCmp], decK_sound h⟩
  case leq => exact ⟨_, by simp [binOp, Op.intCmp], decK_sound h⟩
  case geq => exact ⟨_, by simp [binOp, Op.intCmp], decK_sound h⟩
end sound
end Go.Proofs.YtcfglgelckjpmaaGreatDoor
