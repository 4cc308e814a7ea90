/- Own machinery, and laws of the functions that the statement reaches (part 9). -/
import Derived.Test.YtcfglgelckjpmaaGreatDoorB8
import Derived.Laws.Strings
set_option linter.all false
namespace Go.Proofs.YtcfglgelckjpmaaGreatDoor
section sound
variable {P : Program} {TT : Nat → Option TI} {ρ : Operand → Option SV} {ρv : Operand → Value} {σ : Mem} {k : SV → Mem → Prop} {w : World}
theorem run_eqGuard_skip (op : BinOp) (t : TypeId) (x y : Operand) (a b : Value) (h : (∀ h : a = .nilIface, b ≠ .nilIface) ∧ (∀ cs ds, a = .agg cs → b ≠ .agg ds)) : (eqGuard op t x y a b).run P w = .ok () w := by
  unfold eqGuard
  cases a <;> cases b <;> first | (cases op <;> rfl) | (exact absurd rfl (h.1 rfl)) | (exact absurd rfl (h.2 _ _ rfl))
theorem equal_once {t : TypeId} {x y : Value} {r : Bool} (h : ∀ d, (Op.equalIn (d + 1) t x y).run P w = .ok r w) : (Op.equal t x y).run P w = .ok r w := h 9999
theorem nilEq_sound {i : TI} {t : TypeId} (hi : tiOf P t = some i) {op : BinOp} {x y : Operand} {a b : Value} {c : Bool → Prop} (h : nilEq i.d (isConst y) a b c) :
    ∃ r, (eqGuard op t x y a b).run P w = .ok () w ∧ (Op.equal t a b).run P w = .ok r w ∧ c r := by
  have hu := fun w => run_und (P := P) (w := w) hi
  unfold nilEq at h
  split at h
  · rename_i hd
    exact ⟨false, run_eqGuard_skip _ _ _ _ _ _ ⟨fun h => by simp at h, fun _ _ h => by simp at h⟩, equal_once fun d => by simp only [Op.equalIn, Sem.run_bind, hu, hd, Result.andThen_ok]; rfl, h⟩
  · rename_i hd
    exact ⟨true, run_eqGuard_skip _ _ _ _ _ _ ⟨fun h => by simp at h, fun _ _ h => by simp at h⟩, equal_once fun d => by simp only [Op.equalIn, Sem.run_bind, hu, hd, Result.andThen_ok]; rfl, h⟩
  · rename_i hd
    exact ⟨false, run_eqGuard_skip _ _ _ _ _ _ ⟨fun h => by simp at h, fun _ _ h => by simp at h⟩, equal_once fun d => by simp only [Op.equalIn, Sem.run_bind, hu, hd, Result.andThen_ok]; rfl, h⟩
  · rename_i hd
    split at h
    · rename_i hc
      refine ⟨true, ?_, equal_once fun d => by simp only [Op.equalIn, Sem.run_bind, hu, hd, Result.andThen_ok]; rfl, h⟩
      unfold eqGuard
      cases y <;> simp [isConst] at hc
      cases op <;> simp
    · exact h.elim
  · rename_i hd
    exact ⟨false, run_eqGuard_skip _ _ _ _ _ _ ⟨fun h => by simp at h, fun _ _ h => by simp at h⟩, equal_once fun d => by simp only [Op.equalIn, Sem.run_bind, hu, hd, Result.andThen_ok]; rfl, h⟩
  · rename_i hd
    exact ⟨true, run_eqGuard_skip _ _ _ _ _ _ ⟨fun h => by simp at h, fun _ _ h => by simp at h⟩, equal_once fun d => by simp only [Op.equalIn, Sem.run_bind, hu, hd, Result.andThen_ok]; rfl, h⟩
  · exact h.elim
theorem nBin_sound (hT : ∀ t i, TT t = some i → tiOf P t = some i) (hf : Fits σ ρ ρv) (hs : Sat σ.I σ.res w) {op : BinOp} {t : TypeId} {x y : Operand} (h : nBin TT ρ σ k op t x y) :
    VOk σ w k ((do eqGuard op t x y (ρv x) (ρv y); binOp op t (ρv x) (ρv y) : Sem Value).run P w) := by
  unfold nBin at h
  replace h := val_sound hf (val_sound hf h)
  split at h
  · rename_i ka a kb b ea eb
    have hg := run_eqGuard_skip (P := P) (w := w) op t x y (.int ka a) (.int kb b) ⟨fun h => by simp at h, fun _ _ h => by simp at h⟩
    simp only [ea, eb, Sem.run_bind, hg, Result.andThen_ok]
    split at h
    · obtain ⟨h0, m, rfl, h⟩ := h
      rw [show (binOp .shl t (.int ka a) (.int kb b)).run P w = .ok (.int ka (ka.wrap (a * 2 ^ min b.toNat ka.bits))) w by simp [binOp, Op.shift, Int.not_lt.2 h0]]
      exact .pure hs h
    · obtain ⟨h0, m, rfl, h⟩ := h
      rw [show (binOp .shr t (.int ka a) (.int kb b)).run P w = .ok (.int ka (a.fdiv (2 ^ min b.toNat ka.bits))) w by simp [binOp, Op.shift, Int.not_lt.2 h0]]
      exact .pure hs h
    · rename_i h1 h2
      split at h
      · rename_i hk
        obtain rfl := kindNo_inj hk
        obtain ⟨v, hv, h⟩ := intOp_sound (P := P) (w := w) h ⟨h1, h2⟩ t
        rw [hv]; exact .pure hs h
      · exact h.elim
  · rename_i a b ea eb
    have hg := run_eqGuard_skip (P := P) (w := w) op t x y (.string a) (.string b) ⟨fun h => by simp at h, fun _ _ h => by simp at h⟩
    simp only [ea, eb, Sem.run_bind, hg, Result.andThen_ok]
    split at h
    · rw [show (binOp .eql t (.string a) (.string b)).run P w = .ok (.bool (decide (a.data.toList = b.data.toList))) w by rw [← ByteArray.toList_eq, ← ByteArray.toList_eq]; simp [binOp, Op.stringOp]; rw [Bool.eq_iff_iff]; simp]
      exact .pure hs (decK_sound h)
    · rw [show (binOp .neq t (.string a) (.string b)).run P w = .ok (.bool (!decide (a.data.toList = b.data.toList))) w by rw [← ByteArray.toList_eq, ← ByteArray.toList_eq]; simp [binOp, Op.stringOp]; rw [Bool.eq_iff_iff]; simp]
      exact .pure hs (decK_sound h)
    · obtain ⟨r, rfl, h⟩ := h
      rw [show (binOp .lss t (.string a) (.string b)).run P w = .ok (.bool (Op.bytesLess a.data.toList b.data.toList)) w by rw [← ByteArray.toList_eq, ← ByteArray.toList_eq]; simp [binOp, Op.stringOp]]
      exact .pure hs h
    · exact h.elim
  · rename_i h1 h2
    split at h
    · rename_i i hi
      obtain ⟨r, hg, he, h'⟩ := nilEq_sound (P := P) (w := w) (hT _ _ hi) (op := .eql) (x := x) h
      simp only [Sem.run_bind, hg, Result.andThen_ok]
      rw [show (binOp .eql t (ρv x) (ρv y)).run P w = .ok (.bool r) w by
        unfold nilEq at h
        split at h <;> first | exact h.elim | (rename_i ea eb; simp only [ea, eb] at he ⊢; simp [binOp, he])]
      exact .pure hs h'
    · rename_i i hi
      obtain ⟨r, hg, he, h'⟩ := nilEq_sound (P := P) (w := w) (hT _ _ hi) (op := .neq) (x := x) h
      simp only [Sem.run_bind, hg, Result.andThen_ok]
      rw [show (binOp .neq t (ρv x) (ρv y)).run P w = .ok (.bool (!r)) w by
        unfold nilEq at h
        split at h <;> first | exact h.elim | (rename_i ea eb; simp only [ea, eb] at he ⊢; simp [binOp, he])]
      exact .pure hs h'
    · exact h.elim
theorem nUn_sound (hf : Fits σ ρ ρv) (hs : Sat σ.I σ.res w) {op : UnOp} {x : Operand} (h : nUn ρ σ k op x) : VOk σ w k ((Op.unary op (ρv x)).run P w) := by
  unfold nUn at h
  replace h := val_sound hf h
  split at h
  · rename_i e; rw [e]; exact .pure hs h
  · rename_i e; rw [e]; obtain ⟨m, rfl, h⟩ := h; exact .pure hs h
  · exact h.elim
theorem bytesV_fold (bs : List UInt8) : ∀ s : ByteArray, ((bs.map fun b => (b.toNat : Int)).foldl (fun r n => r.push (UInt8.ofNat n.toNat)) s) = ⟨s.data ++ bs.toArray⟩ := by
  induction bs with
  | nil => intro s; simp
  | cons b bs ih =>
    intro s
    simp only [List.map_cons, List.foldl_cons, ih]
    simp [ByteArray.push]
theorem slAt_loads (hs : Sat σ.I σ.res w) {sz n : Nat} {cs : List Value} {v : Value} (h : SlAt σ.I sz n cs v) :
    (∃ b off cap, v = .slice (some ⟨b, off, none⟩) n cap ∧ n ≤ cap ∧ cs.length = n * sz ∧ (∀ j x, cs[j]? = some x → w.cell? ⟨b, off + j, none⟩ = some x)) ∨ (∃ a, v = .slice a 0 0 ∧ n = 0 ∧ cs = []) := by
  unfold SlAt at h
  split at h
  · obtain ⟨rfl, h1, h2, h3⟩ := h
    exact .inl ⟨_, _, _, rfl, h1, h2, fun j x e => hs.ok.c (h3 j x e)⟩
  · obtain ⟨rfl, rfl, rfl, rfl⟩ := h
    exact .inr ⟨_, rfl, rfl, rfl⟩
  · obtain ⟨rfl, rfl, rfl, rfl⟩ := h
    exact .inr ⟨_, rfl, rfl, rfl⟩
  · exact h.elim
theorem run_loadCells0 {a : Addr} : (loadCells a 0).run P w = .ok #[] w := rfl
theorem freeze_alloc (w : World) (c : Array Value) (e : TypeId) (n : Nat) : (w.alloc (.cells c e)).freeze ⟨w.heap.size, n, none⟩ 1 = w.alloc (.cells c e (n, n + 1)) := by
  have hh : (w.alloc (.cells c e)).heap.modify w.heap.size (fun
      | .cells c elem (lo, hi) => .cells c elem (if lo == hi then (n, n + 1) else (min lo n, max hi (n + 1)))
      | o => o) = (w.alloc (.cells c e (n, n + 1))).heap := by
    apply Array.ext_getElem?
    intro i
    rw [Array.getElem?_modify, heap_alloc, heap_alloc]
    by_cases hi : w.heap.size = i
    · subst hi; simp
    · simp [hi, Ne.symm hi]
  unfold World.freeze
  rw [if_neg (by decide)]
  exact congrArg (fun h => { w.alloc (.cells c e) with heap := h }) hh
theorem nConv_sound (hT : ∀ t i, TT t = some i → tiOf P t = some i) (hf : Fits σ ρ ρv) (hs : Sat σ.I σ.res w) {dst : Option Nat} {s d : TypeId} {x : Operand} (h : nConv TT ρ σ k dst s d x) :
    VOk σ w k ((convert s d (ρv x)).run P w) := by
  unfold nConv at h
  split at h
  · rename_i i j hi hj
    have hi := hT _ _ hi
    have hj := hT _ _ hj
    replace h := val_sound hf h
    have hu1 := fun w => run_und (P := P) (w := w) hi
    have hu2 := fun w => run_und (P := P) (w := w) hj
    split at h
    · rename_i e1 e2
      obtain ⟨m, rfl, h⟩ := h
      simp only [convert, Sem.run_bind, hu1, hu2, Result.andThen_ok, e1, e2, Conv.intToInt, Sem.run_pure]
      exact .pure hs h
    · rename_i e1 e2
      simp only [convert, Sem.run_bind, hu1, hu2, Result.andThen_ok, e1, e2, Sem.run_pure]
      exact .pure hs h
    · rename_i e _ e1 e2 hno
      split at h
      · rename_i ie hie
        split at h
        · rename_i he
          have hu3 := fun w => run_und (P := P) (w := w) (hT _ _ hie)
          obtain ⟨bs, h1, h2⟩ := h
          have h1' : (∃ b off cap, ρv x = .slice (some ⟨b, off, none⟩) bs.length cap ∧ (∀ j y, (bs.map byteV)[j]? = some y → w.cell? ⟨b, off + j, none⟩ = some y)) ∨ (∃ a, ρv x = .slice a 0 0 ∧ bs.map byteV = []) := by
            generalize ρv x = v at h1
            cases h1 with
            | imm h1 =>
              rcases slAt_loads hs h1 with ⟨b, off, cap, hv, _, hl, hc⟩ | ⟨a, hv, hn, hcs⟩
              · exact .inl ⟨b, off, cap, hv, hc⟩
              · exact .inr ⟨a, hv, hcs⟩
            | own hc h => exact .inl ⟨_, _, _, rfl, reads_cell hs h⟩
          rcases h1' with ⟨b, off, cap, hv, hc⟩ | ⟨a0, hv, hcs⟩
          · have hload : (loadCells ⟨b, off, none⟩ bs.length).run P w = .ok ((bs.map fun b => (b.toNat : Int)).map (Value.int .u8)).toArray w := by
              rw [run_loadCells (xs := bs.map byteV) (by simp) hc]
              simp [byteV, Function.comp_def]
            have hrun := run_bytesToString (P := P) w ⟨b, off, none⟩ bs.length cap _ hload
            simp only [hv, convert, Sem.run_bind, hu1, hu2, hu3, Result.andThen_ok, e1, e2, he]
            rw [hrun, bytesV_fold]
            refine .pure hs ?_
            simpa using h2
          · have hb : bs = [] := by simpa using hcs
            subst hb
            cases a0 with
            | none =>
              simp only [hv, convert, Sem.run_bind, hu1, hu2, hu3, Result.andThen_ok, e1, e2, he, Conv.bytesToString, Sem.run_pure]
              exact .pure hs h2
            | some a0 =>
              have hrun := run_bytesToString (P := P) w a0 0 0 [] (run_loadCells0 (P := P))
              simp only [hv, convert, Sem.run_bind, hu1, hu2, hu3, Result.andThen_ok, e1, e2, he]
              rw [hrun]
              exact .pure hs h2
        · exact h.elim
      · exact h.elim
    · rename_i e s' e1 e2 e3
      split at h
      · rename_i ie hie
        split at h
        · rename_i he
          have hu3 := fun w => run_und (P := P) (w := w) (hT _ _ hie)
          simp only [convert, Sem.run_bind, hu1, hu2, hu3, Result.andThen_ok, e1, e2, e3, he]
          have hcap : ∃ cap, s'.size ≤ cap ∧ (choose (.appendCap s'.size 0 e)).run P w = .ok cap w.drew := by
            refine ⟨_, ?_, by simp [Question.forced]; rfl⟩
            simp [Question.cut]
          obtain ⟨cap, hle, hch⟩ := hcap
          have hcells : (s'.data.map fun b => Value.int .u8 b.toNat) ++ Array.replicate (cap - s'.size) (Value.int .u8 0) = ((s'.data.toList.map byteV) ++ List.replicate (cap - s'.size) (Value.int .u8 0)).toArray := by
            apply Array.toList_inj.1
            simp [byteV]
          have hlen : ((s'.data.toList.map byteV) ++ List.replicate (cap - s'.size) (Value.int .u8 0)).length = cap := by
            simp only [List.length_append, List.length_map, List.length_replicate, Array.length_toList]
            have : s'.data.size = s'.size := rfl
            omega
          generalize hxs : (s'.data.toList.map byteV) ++ List.replicate (cap - s'.size) (Value.int .u8 0) = xs at hcells hlen
          have hst := step_same hs (w' := w.drew) rfl rfl rfl rfl
          have hpre : ∀ j, j < (s'.data.toList.map byteV).length → xs.toArray[j]? = (s'.data.toList.map byteV)[j]? := fun j hj => by
            rw [List.getElem?_toArray, ← hxs, List.getElem?_append_left hj]
          simp only [Conv.stringToBytes, Sem.run_bind, hch, Result.andThen_ok, hcells, newRow, run_newObj, World.alloc_eq, Sem.run_pure, markStringish, run_shape]
          have hshape : (w.drew.alloc (.cells xs.toArray e)).shape? w.heap.size = some (e, cap) := by
            have hh : (w.drew.alloc (.cells xs.toArray e)).heap[w.heap.size]? = some (.cells xs.toArray e) := by rw [heap_alloc]; exact if_pos rfl
            simp only [World.shape?, hh]; simp [hlen]
          have hfr : (w.drew.alloc (.cells xs.toArray e)).freeze ⟨w.heap.size, cap, none⟩ 1 = w.drew.alloc (.cells xs.toArray e (cap, cap + 1)) := by
            exact freeze_alloc w.drew xs.toArray e cap
          have hsz : w.drew.heap.size = w.heap.size := rfl
          simp only [hsz, hshape, run_freeze, hfr, Sem.run_bind, Result.andThen_ok, Sem.run_pure]
          rcases h with h | ⟨d', _, h⟩
          rotate_left
          · have hst3 := hst.trans (step_alloc hst.sat (.cells xs.toArray e (cap, cap + 1)) (.vec (.slice (some ⟨w.heap.size, 0, none⟩) s'.size cap) 1 (s'.data.toList.map byteV)) rfl
              ⟨by rw [List.length_map, Array.length_toList, Nat.mul_one]; rfl, hle, xs.toArray, e, (cap, cap + 1), by rw [heap_alloc]; exact if_pos rfl, by rw [List.size_toArray, hlen, Nat.mul_one]; exact Nat.le_refl _, hpre, fun o h => by simp only [loose]; omega⟩)
            exact ⟨_, _, step_newR d' hst3, _, _, h (w.heap.size, cap), rfl, .refl _, rfl, rfl⟩
          have hst2 := hst.trans (step_allocC hst.sat xs e (cap, cap + 1) (fun o h => by simp only [loose]; omega))
          refine ⟨_, _, hst2, _, { σ with I := σ.I.addC w.drew.heap.size xs }, h w.heap.size cap _ hst2.le hle (fun j y e => ?_), rfl, .refl _, rfl, rfl⟩
          refine cells_addC σ.I w.drew.heap.size xs j y ?_
          rw [← hxs, List.getElem?_append_left (by
            rcases Nat.lt_or_ge j (s'.data.toList.map byteV).length with h' | h'
            · exact h'
            · rw [List.getElem?_eq_none h'] at e; cases e)]
          exact e
        · exact h.elim
      · exact h.elim
    · exact h.elim
  · exact h.elim
theorem nIface_sound (hT : ∀ t i, TT t = some i → tiOf P t = some i) (hf : Fits σ ρ ρv) (hs : Sat σ.I σ.res w) {t : TypeId} {x : Operand} (h : nIface TT ρ σ k t x) :
    VOk σ w k ((Instr.makeInterface t (ρv x)).run P w) := by
  unfold nIface at h
  split at h
  · rename_i i hi
    split at h
    · exact h.elim
    · rename_i hno
      cases hd : i.d <;> first | exact (hno _ hd).elim | (simp only [Instr.makeInterface, Sem.run_bind, run_und (hT _ _ hi), Result.andThen_ok, hd]; exact .pure hs (val_sound hf h))
  · exact h.elim
theorem nFunc_sound (hf : Fits σ ρ ρv) (hs : Sat σ.I σ.res w) {fn : Fn} {a b : Array Operand} (h : nFunc ρ σ k fn a b) : VOk σ w k ((Instr.makeFunc fn (a.map ρv) (b.map ρv)).run P w) := by
  unfold nFunc at h
  replace h := vals_sound hf (vals_sound hf h)
  have e1 : a.map ρv = (a.toList.map ρv).toArray := by apply Array.toList_inj.1; simp
  have e2 : b.map ρv = (b.toList.map ρv).toArray := by apply Array.toList_inj.1; simp
  rw [e1, e2]
  exact .pure hs h
theorem plus0_sound {a b : Nat} {c : Nat → Prop} (h : plus0 a b c) : c (a + b) := by
  unfold plus0 at h
  split at h
  · exact h
  · simpa using h
  · exact h
theorem nFieldAddr_sound (hT : ∀ t i, TT t = some i → tiOf P t = some i) (hf : Fits σ ρ ρv) (hs : Sat σ.I σ.res w) {s : TypeId} {x : Operand} {f : Nat} (h : nFieldAddr TT ρ σ k s x f) :
    VOk σ w k ((Instr.fieldAt s (ρv x) f).run P w) := by
  unfold nFieldAddr at h
  split at h
  · rename_i i hi
    split at h
    · rename_i fs hd
      split at h
      · rename_i n ft fo e t pk bo hfl
        split at h
        · rename_i fi hfi
          have hget : fs[f]? = some ⟨n, ft, fo, e, t, pk, bo⟩ := by simpa using hfl
          have hrun : ∀ b off, Nat.beq fi.size 0 = false → (Instr.fieldAt s (.pointer (some ⟨b, off, none⟩)) f).run P w = .ok (.pointer (some ⟨b, off + fo, none⟩)) w := fun b off hz => by
            have hz : ¬ fi.size = 0 := fun e => by rw [beq_iff.2 e] at hz; cases hz
            simp only [Instr.fieldAt, Sem.run_bind, run_und (hT _ _ hi), Result.andThen_ok, hd, hget, Instr.sureAddr, Sem.run_pure, fieldPlace, run_size (hT _ _ hfi), hz, if_false, add_none]
          split at h
          · rename_i id off hz hr
            obtain ⟨lb, h1, h2⟩ := hf _ _ hr
            rw [h2, hrun _ _ hz]
            exact .same hs (plus0_sound h) ⟨lb, h1, rfl⟩
          · rename_i b off hz hr
            have h2 : ρv x = _ := hf _ _ hr
            rw [h2, hrun _ _ hz]
            exact .pure hs (plus0_sound h)
          · exact h.elim
        · exact h.elim
      · exact h.elim
    · exact h.elim
  · exact h.elim
theorem partK_sound (hT : ∀ t i, TT t = some i → tiOf P t = some i) {t : TypeId} {cs : List Value} {off : Nat} {c : Value → Prop} (h : partK TT t cs off c) :
    ∃ v, c v ∧ ∀ w, (part t cs.toArray off).run P w = .ok v w := by
  unfold partK at h
  split at h
  · rename_i i hi
    have hi := hT _ _ hi
    split at h
    · rename_i ha
      obtain ⟨xs, h1, h2, h3, h4⟩ := takeAt_sound h
      refine ⟨_, h1, fun w => ?_⟩
      simp only [part, Sem.run_bind, run_agg hi, ha, Result.andThen_ok, if_true, run_size hi, Sem.run_pure]
      congr 2
      apply Array.toList_inj.1
      rw [h3]
      simp [List.extract_eq_take_drop]
    · rename_i ha
      obtain ⟨x, h1, h2⟩ := cellAt_sound h
      refine ⟨_, h1, fun w => ?_⟩
      simp only [part, Sem.run_bind, run_agg hi, ha, Result.andThen_ok, Bool.false_eq_true, if_false, List.getElem?_toArray, h2, Sem.run_pure]
  · exact h.elim
theorem nField_sound (hT : ∀ t i, TT t = some i → tiOf P t = some i) (hf : Fits σ ρ ρv) (hs : Sat σ.I σ.res w) {t : TypeId} {x : Operand} {f : Nat} (h : nField TT ρ σ k t x f) :
    VOk σ w k ((Instr.field t (ρv x) f).run P w) := by
  unfold nField at h
  split at h
  · rename_i i hi
    split at h
    · rename_i fs hd
      split at h
      · rename_i fl hfl
        replace h := val_sound hf h
        split at h
        · rename_i cs e
          obtain ⟨v, h1, h2⟩ := partK_sound hT h
          have hget : fs[f]? = some fl := by simpa using hfl
          simp only [Instr.field, Sem.run_bind, run_und (hT _ _ hi), Result.andThen_ok, hd, hget, e, asAgg, Sem.run_pure]
          have := h2 w
          simp only [Array.toArray_toList] at this
          rw [this]
          exact .pure hs h1
        · exact h.elim
      · exact h.elim
    · exact h.elim
  · exact h.elim
theorem nIndexAddr_sound (hT : ∀ t i, TT t = some i → tiOf P t = some i) (hf : Fits σ ρ ρv) (hs : Sat σ.I σ.res w) {t : TypeId} {x ix : Operand} (h : nIndexAddr TT ρ σ k t x ix) :
    VOk σ w k ((Instr.indexAt t (ρv x) (ρv ix)).run P w) := by
  unfold nIndexAddr at h
  split at h
  · rename_i i hi
    split at h
    · rename_i e hd
      split at h
      · rename_i ie hie
        replace h := val_sound hf (val_sound hf h)
        split at h
        · rename_i kd n ei
          obtain ⟨b, off, len, cap, j, hx, rfl, hj, h⟩ := h
          have hlt : (0 : Int) ≤ (j : Int) ∧ (j : Int) < (len : Int) := ⟨by omega, by omega⟩
          simp only [Instr.indexAt, ei, hx, asIntOf, Sem.run_bind, Sem.run_pure, Result.andThen_ok, run_und (hT _ _ hi), hd, run_size (hT _ _ hie), if_pos hlt, add_none, Int.toNat_natCast]
          exact .pure hs h
        · exact h.elim
      · exact h.elim
    · exact h.elim
  · exact h.elim
theorem nIndex_sound (hT : ∀ t i, TT t = some i → tiOf P t = some i) (hf : Fits σ ρ ρv) (hs : Sat σ.I σ.res w) {t : TypeId} {x ix : Operand} (h : nIndex TT ρ σ k t x ix) :
    VOk σ w k ((Instr.index t (ρv x) (ρv ix)).run P w) := by
  unfold nIndex at h
  split at h
  · rename_i i hi
    split at h
    · rename_i hd
      replace h := val_sound hf (val_sound hf h)
      split at h
      · rename_i s kd n ex ei
        obtain ⟨j, b, rfl, hj, h⟩ := h
        have hj' : s[j]? = some b := by
          have : j < s.size := by
            rcases Nat.lt_or_ge j s.size with h' | h'
            · exact h'
            · rw [List.getElem?_eq_none (by simpa using h')] at hj; cases hj
          rw [getElem?_pos s j this]
          rw [List.getElem?_eq_getElem (by simpa using this)] at hj
          have h2 : s.data[j] = b := by simpa using hj
          exact congrArg some h2
        simp only [Instr.index, ei, ex, asIntOf, Sem.run_bind, Sem.run_pure, Result.andThen_ok, run_und (hT _ _ hi), hd, Int.natCast_nonneg, if_true, Int.toNat_natCast, hj']
        exact .pure hs h
      · exact h.elim
    · exact h.elim
  · exact h.elim
theorem nExtract_sound (hf : Fits σ ρ ρv) (hs : Sat σ.I σ.res w) {x : Operand} {ix : Nat} (h : nExtract ρ σ k x ix) : VOk σ w k ((Instr.extract (ρv x) ix).run P w) := by
  unfold nExtract at h
  replace h := val_sound hf h
  split at h
  · rename_i vs e
    obtain ⟨v, h1, h2⟩ := cellAt_sound h
    have : vs[ix]? = some v := by simpa using h2
    simp only [e, Instr.extract, this]
    exact .pure hs h1
  · exact h.elim
theorem nTypeAssert_sound (hT : ∀ t i, TT t = some i → tiOf P t = some i) (hf : Fits σ ρ ρv) (hs : Sat σ.I σ.res w) {x : Operand} {xt a : TypeId} {ok : Bool} (h : nTypeAssert P TT ρ σ k x a ok) :
    VOk σ w k ((Instr.typeAssert (ρv x) xt a ok).run P w) := by
  unfold nTypeAssert at h
  split at h
  · rename_i i hi
    have hi := hT _ _ hi
    replace h := val_sound hf h
    have hu := fun w => run_und (P := P) (w := w) hi
    have hz := fun w => run_zero (P := P) (w := w) hi
    have hmiss : ∀ {t r}, Missing P a t r → ∃ want inf, i.d = .interface want ∧ P.info? t = some inf ∧ (Instr.missingMethod want inf.methods).isNone = r := fun {t r} ⟨want, inf, h1, h2, h3⟩ => by
      refine ⟨want, inf, ?_, h2, h3⟩
      have := hu w
      simp only [underlying, Sem.run_bind, run_program, Result.andThen_ok, h1] at this
      exact ((Result.ok.inj this).1).symm
    split at h
    · rename_i hd e
      simp only [Instr.typeAssert, e, Sem.run_bind, hu, Result.andThen_ok, hd, if_true, hz, Sem.run_pure]
      exact .pure hs h
    · rename_i hd e
      obtain ⟨r, hm, h⟩ := h
      obtain ⟨want, inf, h1, h2, h3⟩ := hmiss hm
      simp only [Instr.typeAssert, e, Sem.run_bind, hu, Result.andThen_ok, h1, run_info h2]
      cases hmm : Instr.missingMethod want inf.methods with
      | none =>
        rw [hmm] at h3; subst h3
        exact .pure hs h
      | some m =>
        rw [hmm] at h3; subst h3
        simp only [if_true, Sem.run_bind, hz, Result.andThen_ok, Sem.run_pure]
        exact .pure hs h
    · rename_i hd e
      obtain ⟨hm, h⟩ := h
      obtain ⟨want, inf, h1, h2, h3⟩ := hmiss hm
      simp only [Instr.typeAssert, e, Sem.run_bind, hu, Result.andThen_ok, h1, run_info h2]
      have hmm : Instr.missingMethod want inf.methods = none := Option.isNone_iff_eq_none.1 h3
      simp only [hmm]
      exact .pure hs h
    · rename_i e hno
      cases hd : i.d <;> first
        | exact (hno _ hd).elim
        | (simp only [Instr.typeAssert, e, Sem.run_bind, hu, hd, Result.andThen_ok, if_true, hz, Sem.run_pure]; exact .pure hs h)
    · rename_i t v e hno
      split at h
      · rename_i ht
        have ht := beq_iff.1 ht
        cases hd : i.d <;> first
          | exact (hno _ hd).elim
          | (simp only [Instr.typeAssert, e, Sem.run_bind, hu, hd, Result.andThen_ok, ht, if_true, Sem.run_pure]; exact .pure hs h)
      · rename_i ht
        have ht : ¬ t = a := fun e => by rw [beq_iff.2 e] at ht; cases ht
        cases hd : i.d <;> first
          | exact (hno _ hd).elim
          | (simp only [Instr.typeAssert, e, Sem.run_bind, hu, hd, Result.andThen_ok, ht, if_false, if_true, hz, Sem.run_pure]; exact .pure hs h)
    · rename_i t v e hno
      split at h
      · rename_i ht
        have ht := beq_iff.1 ht
        cases hd : i.d <;> first
          | exact (hno _ hd).elim
          | (simp only [Instr.typeAssert, e, Sem.run_bind, hu, hd, Result.andThen_ok, ht, if_true, Bool.false_eq_true, if_false, Sem.run_pure]; exact .pure hs h)
      · exact h.elim
    · exact h.elim
  · exact h.elim
end sound
end Go.Proofs.YtcfglgelckjpmaaGreatDoor
