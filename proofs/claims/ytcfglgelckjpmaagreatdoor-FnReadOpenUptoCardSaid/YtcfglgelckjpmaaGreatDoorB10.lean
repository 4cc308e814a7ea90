/- Own machinery, and laws of the functions that the statement reaches (part 10). -/
import Derived.Test.YtcfglgelckjpmaaGreatDoorB9
set_option linter.all false
namespace Go.Proofs.YtcfglgelckjpmaaGreatDoor
section sound
variable {P : Program} {TT : Nat → Option TI} {ρ : Operand → Option SV} {ρv : Operand → Value} {σ : Mem} {k : SV → Mem → Prop} {w : World}
theorem natIs_bound {v : Value} {dflt n y : Nat} (h : natIs (some v) dflt n) (hn : n ≤ y) (code : BoundsCode) : (Instr.sliceBound v y code).run P w = .ok n w := by
  unfold natIs at h
  split at h
  · rename_i e
    cases e
    subst h
    simp only [Instr.sliceBound, asIntOf, Sem.run_bind, Sem.run_pure, Result.andThen_ok]
    rw [if_pos ⟨by omega, by omega⟩]
    simp
  · rename_i e; cases e
  · exact h.elim
theorem nSlice_sound (hT : ∀ t i, TT t = some i → tiOf P t = some i) (hf : Fits σ ρ ρv) (hs : Sat σ.I σ.res w) {t : TypeId} {x : Operand} {lo hi mx : Option Operand} (h : nSlice TT ρ σ k t x lo hi mx) :
    VOk σ w k ((Instr.sliceAt t (ρv x) (lo.map ρv) (hi.map ρv) (mx.map ρv)).run P w) := by
  unfold nSlice at h
  split at h
  · rename_i i hi'
    have hu := fun w => run_und (P := P) (w := w) (hT _ _ hi')
    split at h
    · rename_i e hd
      split at h
      · rename_i ie hie
        replace h := optVal_sound hf (optVal_sound hf (val_sound hf h))
        split at h
        · rename_i base len cap ex
          obtain ⟨l, hh, h1, h2, h3, h4, h5⟩ := h
          have hrun : (Instr.sliceAt t (.slice base len cap) (lo.map ρv) (hi.map ρv) none).run P w = .ok (sliceV base l hh cap ie.size) w := by
            simp only [Instr.sliceAt, Sem.run_bind, hu, Result.andThen_ok, hd, Instr.slice, Instr.sliceBounds, Sem.run_pure, Option.isSome_none]
            clear h5
            generalize lo.map ρv = lo' at h1 ⊢
            generalize hi.map ρv = hi' at h2 ⊢
            cases lo' with
            | none =>
              have h1 : l = 0 := h1
              subst h1
              cases hi' with
              | none =>
                have h2 : hh = len := h2
                subst h2
                simp only [Sem.run_bind, Sem.run_pure, Result.andThen_ok, run_size (hT _ _ hie)]; rfl
              | some v2 =>
                have g2 := natIs_bound (P := P) (w := w) h2 h4 .sliceAcap
                simp only [if_true, Sem.run_bind, g2, Sem.run_pure, Result.andThen_ok, run_size (hT _ _ hie)]; rfl
            | some v1 =>
              have g1 := natIs_bound (P := P) (w := w) h1 h3 .sliceB
              cases hi' with
              | none =>
                have h2 : hh = len := h2
                subst h2
                simp only [Bool.false_eq_true, if_false, Sem.run_bind, g1, Sem.run_pure, Result.andThen_ok, run_size (hT _ _ hie)]; rfl
              | some v2 =>
                have g2 := natIs_bound (P := P) (w := w) h2 h4 .sliceAcap
                simp only [if_true, Bool.false_eq_true, if_false, Sem.run_bind, g1, g2, Sem.run_pure, Result.andThen_ok, run_size (hT _ _ hie)]; rfl
          rw [ex]
          simp only [Option.map_none]
          rw [hrun]
          exact .pure hs (h5 _ rfl)
        · exact h.elim
      · exact h.elim
    · rename_i n e hd
      split at h
      · rename_i ie hie
        replace h := val_sound hf h
        split at h
        · rename_i b off ex
          simp only [Instr.sliceAt, Sem.run_bind, hu, Result.andThen_ok, hd, ex, Instr.sureAddr, Sem.run_pure, Instr.sliceBounds, Option.map_none, run_size (hT _ _ hie), Nat.zero_mul, Nat.sub_zero, add_none, Nat.add_zero, ite_self]
          exact .pure hs h
        · exact h.elim
      · exact h.elim
    · exact h.elim
  · exact h.elim
theorem nLen_sound (hT : ∀ t i, TT t = some i → tiOf P t = some i) (hf : Fits σ ρ ρv) (hs : Sat σ.I σ.res w) {t ty : TypeId} {x : Operand} (h : nLen TT ρ σ k t x) :
    VOk σ w k ((Builtin.len_ #[t] ty #[ρv x]).run P w) := by
  unfold nLen at h
  split at h
  · rename_i i hi
    have hu := fun w => run_und (P := P) (w := w) (hT _ _ hi)
    replace h := val_sound hf h
    split at h
    · rename_i hd e
      simp only [Builtin.len_, List.getElem?_toArray, List.getElem?_cons_zero, e, Sem.run_bind, hu, Result.andThen_ok, hd, Sem.run_pure, goInt]
      exact .pure hs h
    · rename_i r hd e
      obtain ⟨es, cl, hm, h⟩ := h
      have hh : w.heap[r]? = some (.map es cl) := by
        rcases hm with hm | ⟨key, hm⟩
        · exact hs.ok.m hm
        · exact mem_blk hs (r := .map r es cl) ((res_getR hm).mem_iff.2 (by simp))
      have hg : (getObj r).run P w = .ok (.map es cl) w := by simp only [getObj, Sem.run, hh]
      simp only [Builtin.len_, List.getElem?_toArray, List.getElem?_cons_zero, e, Sem.run_bind, hu, Result.andThen_ok, hd, hg, Sem.run_pure, goInt]
      exact .pure hs h
    · obtain ⟨n, hn, h⟩ := h
      unfold LenIs at hn
      split at hn
      · rename_i hd e
        subst hn
        simp only [Builtin.len_, List.getElem?_toArray, List.getElem?_cons_zero, e, Sem.run_bind, hu, Result.andThen_ok, hd, Sem.run_pure, goInt]
        exact .pure hs h
      · rename_i hd e
        subst hn
        simp only [Builtin.len_, List.getElem?_toArray, List.getElem?_cons_zero, e, Sem.run_bind, hu, Result.andThen_ok, hd, Sem.run_pure, goInt]
        exact .pure hs h
      · exact hn.elim
  · exact h.elim
theorem nCap_sound (hT : ∀ t i, TT t = some i → tiOf P t = some i) (hf : Fits σ ρ ρv) (hs : Sat σ.I σ.res w) {t ty : TypeId} {x : Operand} (h : nCap TT ρ σ k t x) :
    VOk σ w k ((Builtin.cap_ #[t] ty #[ρv x]).run P w) := by
  unfold nCap at h
  split at h
  · rename_i i hi
    have hu := fun w => run_und (P := P) (w := w) (hT _ _ hi)
    replace h := val_sound hf h
    split at h
    · rename_i hd e
      simp only [Builtin.cap_, List.getElem?_toArray, List.getElem?_cons_zero, e, Sem.run_bind, hu, Result.andThen_ok, hd, Sem.run_pure, goInt]
      exact .pure hs h
    · exact h.elim
  · exact h.elim
theorem byteV_list (s : ByteArray) : (((s.extract 0 s.size).data.map fun b => Value.int .u8 b.toNat)) = (s.data.toList.map byteV).toArray := by
  apply Array.toList_inj.1
  have : s.extract 0 s.size = s := by simp
  rw [this]
  simp [byteV]
theorem src_run (hs : Sat σ.I σ.res w) {sz m : Nat} {xs : List Value} {x : Value} (h : Src σ.I sz m xs x) :
    (Builtin.lenOf x).run P w = .ok m w ∧ (Builtin.firstCells sz m x).run P w = .ok xs.toArray w ∧ xs.length = m * sz := by
  unfold Src at h
  split at h
  · rename_i s
    obtain ⟨rfl, rfl, rfl⟩ := h
    refine ⟨rfl, ?_, by simp⟩
    simp only [Builtin.firstCells, Sem.run_pure, byteV_list]
  · rcases slAt_loads hs h with ⟨b, off, cap, rfl, h1, h2, h3⟩ | ⟨a, rfl, rfl, rfl⟩
    · refine ⟨rfl, ?_, h2⟩
      simp only [Builtin.firstCells]
      exact run_loadCells h2 h3
    · refine ⟨rfl, ?_, by simp⟩
      cases a with
      | none => rfl
      | some a => simp only [Builtin.firstCells, Nat.zero_mul]; exact run_loadCells0
theorem run_append_fits {st xt ty e : TypeId} {ie : TI} {sd xd : TI} (hsd : tiOf P st = some sd) (hsd' : sd.d = .slice e) (hxd : tiOf P xt = some xd) (hxd' : ∀ kd, xd.d ≠ .int kd) (hie : tiOf P e = some ie)
    {base : Option Addr} {n m cap : Nat} {x : Value} {xs : List Value} (hl : (Builtin.lenOf x).run P w = .ok m w) (hx : (Builtin.firstCells ie.size m x).run P w = .ok xs.toArray w) (hfit : n + m ≤ cap)
    {w' : World} (hst : ∀ a, base = some a → (storeCells (a.add (n * ie.size)) xs).run P w = .ok () w') (hno : base = none → w' = w) :
    (Builtin.append_ #[st, xt] ty #[.slice base n cap, x]).run P w = .ok (.slice base (n + m) cap) w' := by
  have hz : ((do pure ((← underlying xt) matches .int _)) : Sem Bool).run P w = .ok false w := by
    simp only [Sem.run_bind, run_und hxd, Result.andThen_ok]
    cases hd : xd.d <;> first | exact absurd hd (hxd' _) | rfl
  simp only [Builtin.append_, List.getElem?_toArray, List.getElem?_cons_zero, List.getElem?_cons_succ, Sem.run_bind, run_und hsd, hsd', Result.andThen_ok, run_size hie]
  simp only [Sem.run_bind, run_und hxd, Result.andThen_ok] at hz ⊢
  rw [hz]
  simp only [Result.andThen_ok, Bool.false_eq_true, if_false, hl, Bool.not_false, if_true, if_pos hfit, Sem.run_bind, hx]
  cases base with
  | none => simp [hno rfl]
  | some a => simp only [Sem.run_bind, hst a rfl, Result.andThen_ok, Sem.run_pure]
theorem run_append_grows {st xt ty e : TypeId} {ie : TI} {sd xd : TI} (hsd : tiOf P st = some sd) (hsd' : sd.d = .slice e) (hxd : tiOf P xt = some xd) (hxd' : ∀ kd, xd.d ≠ .int kd) (hie : tiOf P e = some ie)
    {base : Option Addr} {n m cap : Nat} {x : Value} {os xs : List Value} (hl : (Builtin.lenOf x).run P w = .ok m w) (hx : (Builtin.firstCells ie.size m x).run P w.drew = .ok xs.toArray w.drew)
    (ho : (Builtin.firstCells ie.size n (.slice base n cap)).run P w.drew = .ok os.toArray w.drew) (hfit : cap < n + m) (hb : (n + m) * ie.bytes ≤ 140737488355328) (hb0 : ie.bytes ≠ 0) :
    ∃ c rest, n + m ≤ c ∧ rest.length = (c - (n + m)) * (vcells ie.zero).length ∧ (Builtin.append_ #[st, xt] ty #[.slice base n cap, x]).run P w = .ok (.slice (some ⟨w.heap.size, 0, none⟩) (n + m) c) (w.drew.alloc (.cells (os ++ xs ++ rest).toArray e)) := by
  have hz : ((do pure ((← underlying xt) matches .int _)) : Sem Bool).run P w = .ok false w := by
    simp only [Sem.run_bind, run_und hxd, Result.andThen_ok]
    cases hd : xd.d <;> first | exact absurd hd (hxd' _) | rfl
  obtain ⟨inf, i1, i2, i3, i4⟩ := ti_info hie
  have hg := growslice_fits hfit hb
  have h63 : ¬ (((n + m : Nat) : Int) > IntKind.i64.max ∧ (false = true ∨ inf.bytes = 0)) := by
    rintro ⟨_, h | h⟩
    · cases h
    · exact hb0 (by rw [← i3]; exact h)
  refine ⟨grownCap w (n + m) cap e, (Builtin.zeroCells ie.zero.cells (grownCap w (n + m) cap e - (n + m))).toList, ?_, ?_, ?_⟩
  · simp [grownCap, Question.cut]
  · rw [← vcells_size]; simp [Builtin.zeroCells]
  · simp only [Builtin.append_, List.getElem?_toArray, List.getElem?_cons_zero, List.getElem?_cons_succ, Sem.run_bind, run_und hsd, hsd', Result.andThen_ok, run_size hie]
    simp only [Sem.run_bind, run_und hxd, Result.andThen_ok] at hz ⊢
    rw [hz]
    simp only [Result.andThen_ok, Bool.false_eq_true, if_false, hl, Bool.not_false, if_true, if_neg (Nat.not_le.2 hfit), Sem.run_bind, run_info i1]
    have h64 : ¬ (Builtin.nextslicecap (n + m) cap * inf.bytes > 2 ^ 48) := by rw [i3]; omega
    have hch : (choose (.appendCap (n + m) cap e)).run P w = .ok (grownCap w (n + m) cap e) w.drew := by simp [Question.forced, grownCap]
    have h63' : ¬ (((n + m : Nat) : Int) > IntKind.i64.max ∧ (False ∨ inf.bytes = 0)) := fun h => h63 ⟨h.1, h.2.imp (fun h => h.elim) id⟩
    rw [if_neg h63']
    simp only [Sem.run_bind, run_info i1, Result.andThen_ok, if_neg h64, hch, run_askRoom, ho, hx, run_zero hie, newRow, run_newObj, World.alloc_eq, Sem.run_pure]
    congr 2
    congr 1
    apply Array.toList_inj.1
    simp
theorem vec_first (hs : Sat σ.I σ.res w) {key sz n cap : Nat} {base : Option Addr} {cs : List Value} (hk : get σ.R key = some (.vec (.slice base n cap) sz cs)) :
    (Builtin.firstCells sz n (.slice base n cap)).run P w = .ok cs.toArray w ∧ cs.length = n * sz := by
  have h0 : vecHolds w sz cs (.slice base n cap) := mem_blk hs (r := .vec (.slice base n cap) sz cs) ((res_getR hk).mem_iff.2 (by simp))
  cases base with
  | none =>
    obtain ⟨rfl, rfl, rfl⟩ := h0
    exact ⟨rfl, by simp⟩
  | some a =>
    obtain ⟨b, off, spot⟩ := a
    cases spot <;> cases off <;> simp only [vecHolds] at h0
    obtain ⟨h1, h2, c, ty, fz, h3, h4, h5, h6⟩ := h0
    refine ⟨?_, h1⟩
    simp only [Builtin.firstCells]
    refine run_loadCells h1 fun j x e => ?_
    have hj : j < cs.length := by
      rcases Nat.lt_or_ge j cs.length with h' | h'
      · exact h'
      · rw [List.getElem?_eq_none h'] at e; cases e
    rw [World.cell_of_heap h3, Nat.zero_add, h5 j hj, e]
theorem grown_step {e : TypeId} {sz n m c : Nat} {cs xs rest : List Value} (d : Nat) (hs : Sat σ.I σ.res w) (hc : n + m ≤ c) (hlen : (cs ++ xs).length = (n + m) * sz) (hr : rest.length = (c - (n + m)) * sz) :
    Step σ.I σ.res w σ.I (Mem.res { σ with R := ins d (.vec (.slice (some ⟨w.heap.size, 0, none⟩) (n + m) c) sz (cs ++ xs)) σ.R }) (w.drew.alloc (.cells (cs ++ xs ++ rest).toArray e)) := by
  have hst := step_same hs (w' := w.drew) rfl rfl rfl rfl
  refine step_newR d (hst.trans (step_alloc hst.sat (.cells (cs ++ xs ++ rest).toArray e) (.vec (.slice (some ⟨w.heap.size, 0, none⟩) (n + m) c) sz (cs ++ xs)) rfl ?_))
  refine ⟨hlen, hc, _, e, (0, 0), by rw [heap_alloc]; exact if_pos rfl, ?_, fun j hj => ?_, fun o _ h => by simp at h⟩
  · rw [List.size_toArray, List.length_append, hlen, hr, ← Nat.add_mul]
    exact Nat.le_of_eq (by congr 1; omega)
  · rw [List.getElem?_toArray, List.getElem?_append_left hj]
theorem nAppend_sound (hT : ∀ t i, TT t = some i → tiOf P t = some i) (hf : Fits σ ρ ρv) (hs : Sat σ.I σ.res w) {d : Option Nat} {st xt ty : TypeId} {s x : Operand} {xd : TI} (hxd : tiOf P xt = some xd) (hxd' : ∀ kd, xd.d ≠ .int kd)
    (h : nAppend TT ρ σ k d st s x) : VOk σ w k ((Builtin.append_ #[st, xt] ty #[ρv s, ρv x]).run P w) := by
  unfold nAppend at h
  split at h
  · rename_i sd d hsd
    split at h
    · rename_i e hd
      split at h
      · rename_i ie hie
        have hie := hT _ _ hie
        have hsd := hT _ _ hsd
        split at h
        · rename_i hz hb0
          have hz : (vcells ie.zero).length = ie.size := beq_iff.1 hz
          have hb0 : ie.bytes ≠ 0 := fun e => by rw [beq_iff.2 e] at hb0; cases hb0
          replace h := val_sound hf (val_sound hf h)
          generalize ρv s = s' at h ⊢
          generalize ρv x = x' at h ⊢
          have hdrew := step_same hs (w' := w.drew) rfl rfl rfl rfl
          have ownc : ∀ (key n m : Nat) (cs xs : List Value), get σ.R key = some (.vec s' ie.size cs) → LenIs (.slice 0) s' n → ((Builtin.lenOf x').run P w = .ok m w ∧ (Builtin.firstCells ie.size m x').run P w = .ok xs.toArray w ∧ xs.length = m * ie.size) →
              (Builtin.firstCells ie.size m x').run P w.drew = .ok xs.toArray w.drew → oneAll xs = true → (n + m) * ie.bytes ≤ 140737488355328 →
              (∀ base cap, k (.v (.slice base (n + m) cap)) (σ.setR (ins key (.vec (.slice base (n + m) cap) ie.size (cs ++ xs)) σ.R))) → VOk σ w k ((Builtin.append_ #[st, xt] ty #[s', x']).run P w) := by
            clear h
            intro key n m cs xs hk hn ⟨hl, hxs, hxl⟩ hxs' ho hb h
            cases s' <;> simp only [LenIs] at hn
            rename_i base n' cap
            subst hn
            obtain ⟨hfo, hcl⟩ := vec_first (P := P) hs hk
            by_cases hfit : n' + m ≤ cap
            · cases base with
              | none =>
                have h0 : vecHolds w ie.size cs (.slice none n' cap) := mem_blk hs (r := .vec (.slice none n' cap) ie.size cs) ((res_getR hk).mem_iff.2 (by simp))
                obtain ⟨rfl, rfl, rfl⟩ := h0
                obtain rfl : m = 0 := by omega
                have hx0 : xs = [] := by simpa using hxl
                subst hx0
                rw [run_append_fits (w' := w) hsd hd hxd hxd' hie hl hxs hfit (fun a e => by cases e) (fun _ => rfl)]
                exact ⟨_, _, (Step.refl hs).perm_right ((res_getR hk).trans (res_setR hk (.vec (.slice none (0 + 0) 0) ie.size ([] ++ []))).symm), _, _, h none 0, rfl, .refl _, rfl, rfl⟩
              | some a =>
                obtain ⟨b, off, spot⟩ := a
                have h0 : vecHolds w ie.size cs (.slice (some ⟨b, off, spot⟩) n' cap) := mem_blk hs (r := .vec (.slice (some ⟨b, off, spot⟩) n' cap) ie.size cs) ((res_getR hk).mem_iff.2 (by simp))
                cases spot <;> cases off <;> simp only [vecHolds] at h0
                obtain ⟨h1, h2, c, ty', fz, h3, h4, h5, h6⟩ := h0
                have hle : (n' + m) * ie.size ≤ cap * ie.size := Nat.mul_le_mul_right _ hfit
                rw [Nat.add_mul] at hle
                obtain ⟨w', g1, g2, g3, g4, g5, g6, g7⟩ := run_storeCells (P := P) xs (n' * ie.size) 0 w c h3 (by rw [hxl]; omega) (fun o _ h' => h6 o (by rw [hxl] at h'; omega)) ho
                rw [run_append_fits (w' := w') hsd hd hxd hxd' hie hl hxs hfit (fun a e => by
                  cases e; rw [add_none, Nat.zero_add]; exact g1) (fun e => by cases e)]
                refine ⟨_, _, (((step_write (hs.perm (res_getR hk)) (b := b) (r' := .vec (.slice (some ⟨b, 0, none⟩) (n' + m) cap) ie.size (cs ++ xs)) rfl rfl ?_ g3 g4 g5 g6 g7).perm_left (res_getR hk).symm).perm_right (res_setR hk _).symm), _, _, h (some ⟨b, 0, none⟩) cap, rfl, .refl _, rfl, rfl⟩
                have hs1 : (n' * ie.size + 0) + xs.length ≤ c.toList.length := by simp; omega
                refine ⟨by rw [List.length_append, h1, hxl, Nat.add_mul], hfit, _, ty', fz, g2, ?_, fun j hj => ?_, h6⟩
                · rw [List.size_toArray, splice_length hs1]; simpa using h4
                · rw [List.getElem?_toArray, splice]
                  rw [List.getElem?_append_left (by simp only [List.length_append, List.length_take, Array.length_toList] at hj ⊢; omega)]
                  rw [List.getElem?_append, List.getElem?_append]
                  have hmin : (c.toList.take (n' * ie.size + 0)).length = cs.length := by simp; omega
                  rw [hmin]
                  split
                  · rename_i hj'
                    rw [List.getElem?_take_of_lt (by omega)]
                    simpa using h5 j hj'
                  · rfl
            · obtain ⟨hfo', _⟩ := vec_first (P := P) hdrew.sat hk
              obtain ⟨c, rest, hc, hr, hrun⟩ := run_append_grows (ty := ty) hsd hd hxd hxd' hie hl hxs' hfo' (by omega) hb hb0
              rw [hrun]
              refine ⟨_, _, ?_, _, _, h (some ⟨w.heap.size, 0, none⟩) c, rfl, .refl _, rfl, rfl⟩
              exact grown_step (e := e) key hs hc (by rw [List.length_append, hcl, hxl, Nat.add_mul]) (by rw [hr, hz])
          cases h with
          | own key n m cs xs hk hn hx ho hb h => exact ownc key n m cs xs hk hn (src_run (P := P) hs hx) (src_run (P := P) hdrew.sat hx).2.1 ho hb h
          | ownR key n m bx ox cx cs xs hk hn hx hl hr ho hb h =>
            subst hx
            exact ownc key n m cs xs hk hn ⟨rfl, by simp only [Builtin.firstCells]; exact run_loadCells hl (reads_cell hs hr), hl⟩ (by simp only [Builtin.firstCells]; exact run_loadCells hl (reads_cell hdrew.sat hr)) ho hb h
          | nil m xs hn hx hb h =>
            subst hn
            obtain ⟨hl, hxs, hxl⟩ := src_run (P := P) hs hx
            by_cases hm : m = 0
            · subst hm
              rw [run_append_fits (w' := w) hsd hd hxd hxd' hie hl hxs (Nat.le_refl _) (fun a e => by cases e) (fun _ => rfl)]
              have hx0 : xs = [] := by simpa using hxl
              subst hx0
              refine ⟨_, _, step_newR d (step_none hs (.vec (.slice none 0 0) ie.size []) rfl ⟨rfl, rfl, rfl⟩), _, _, h none 0, rfl, .refl _, rfl, rfl⟩
            · obtain ⟨_, hxs', _⟩ := src_run (P := P) hdrew.sat hx
              obtain ⟨c, rest, hc, hr, hrun⟩ := run_append_grows (ty := ty) (base := none) (n := 0) (cap := 0) (os := []) hsd hd hxd hxd' hie hl hxs' rfl (by omega) (by simpa using hb) hb0
              rw [hrun]
              simp only [Nat.zero_add] at hc hr ⊢
              refine ⟨_, _, ?_, _, _, h (some ⟨w.heap.size, 0, none⟩) c, rfl, .refl _, rfl, rfl⟩
              have := grown_step (e := e) (cs := []) (n := 0) (m := m) (c := c) (rest := rest) d hs (by omega) (xs := xs) (sz := ie.size) (by simp [hxl]) (by rw [hr, hz]; simp)
              rw [Mem.setR_eq]
              simpa using this
          | new n m cs xs hsl ht hm hx ho hb h =>
            obtain ⟨hl, hxs, hxl⟩ := src_run (P := P) hs hx
            obtain ⟨_, hxs', _⟩ := src_run (P := P) hdrew.sat hx
            have hfo' : (Builtin.firstCells ie.size n s').run P w.drew = .ok cs.toArray w.drew ∧ cs.length = n * ie.size ∧ ∃ base, s' = .slice base n n := by
              rcases slAt_loads hdrew.sat hsl with ⟨b, off, cap, rfl, h1, h2, h3⟩ | ⟨a, rfl, rfl, rfl⟩
              · have ht : cap = n := ht
                subst ht
                exact ⟨run_loadCells h2 h3, h2, _, rfl⟩
              · refine ⟨?_, by simp, _, rfl⟩
                cases a with
                | none => rfl
                | some a => simp only [Builtin.firstCells, Nat.zero_mul]; exact run_loadCells0
            obtain ⟨hfo, hcl, base, rfl⟩ := hfo'
            obtain ⟨c, rest, hc, hr, hrun⟩ := run_append_grows (ty := ty) hsd hd hxd hxd' hie hl hxs' hfo (by omega) hb hb0
            rw [hrun]
            refine ⟨_, _, ?_, _, _, h (some ⟨w.heap.size, 0, none⟩) c, rfl, .refl _, rfl, rfl⟩
            exact grown_step (e := e) d hs hc (by rw [List.length_append, hcl, hxl, Nat.add_mul]) (by rw [hr, hz])
        · exact h.elim
      · exact h.elim
    · exact h.elim
  · exact h.elim
theorem nCopy_sound (hT : ∀ t i, TT t = some i → tiOf P t = some i) (hf : Fits σ ρ ρv) (hs : Sat σ.I σ.res w) {st xt ty : TypeId} {s x : Operand} (h : nCopy TT ρ σ k st s x) :
    VOk σ w k ((Builtin.copy_ #[st, xt] ty #[ρv s, ρv x]).run P w) := by
  unfold nCopy at h
  split at h
  · rename_i sd hsd
    split at h
    · rename_i e hd
      split at h
      · rename_i ie hie
        have hie := hT _ _ hie
        have hsd := hT _ _ hsd
        replace h := val_sound hf (val_sound hf h)
        split at h
        · rename_i b off dl dc es
          obtain ⟨m, xs, hx, ho, h⟩ := h
          obtain ⟨hl, hxs, hxl⟩ := src_run (P := P) hs hx
          have hfirst : (Builtin.firstCells ie.size (min m dl) (ρv x)).run P w = .ok (xs.take (min m dl * ie.size)).toArray w := by
            unfold Src at hx
            split at hx
            · rename_i s' es'
              obtain ⟨rfl, h1, rfl⟩ := hx
              rw [es']
              simp only [Builtin.firstCells, Sem.run_pure, h1, Nat.mul_one]
              congr 1
              apply Array.toList_inj.1
              simp only [byteV, ByteArray.data_extract, Array.toList_map, Array.toList_extract, List.extract_eq_take_drop, List.drop_zero, Nat.sub_zero, List.map_take]
              rfl
            · rcases slAt_loads hs hx with ⟨b', off', cap, e', h1, h2, h3⟩ | ⟨a', e', rfl, rfl⟩
              · rw [e']
                simp only [Builtin.firstCells]
                refine run_loadCells ?_ fun j y ej => ?_
                · rw [List.length_take, h2]
                  exact Nat.min_eq_left (Nat.mul_le_mul_right _ (Nat.min_le_left _ _))
                · rw [List.getElem?_take] at ej
                  split at ej
                  · exact h3 j y ej
                  · cases ej
              · rw [e']
                cases a' with
                | none => simp [Builtin.firstCells]
                | some a' => simp only [Builtin.firstCells, Nat.zero_min, Nat.zero_mul, List.take_zero]; exact run_loadCells0
          obtain ⟨σ', c, ty', fz, h1, h2, h3, h4, h5, h6, h7⟩ := writes_step hs h
          have hot : oneAll (xs.take (min m dl * ie.size)) = true := by
            clear hfirst h h1 h2 h3 h4 h5 h6 h7 hx hxs hxl
            generalize min m dl * ie.size = q
            induction xs generalizing q with
            | nil => simp [oneAll]
            | cons x xs ih =>
              cases q with
              | zero => simp [oneAll]
              | succ q =>
                simp only [List.take_succ_cons]
                have := (oneAll_cons ho).2
                cases x <;> simp only [oneAll] at ho ⊢ <;> first | exact ih ho q | cases ho
          obtain ⟨w', g1, g2, g3, g4, g5, g6, g7⟩ := run_storeCells (P := P) _ off 0 w c h3 (by simpa using h4) (by simpa using h5) hot
          have hrun : (Builtin.copy_ #[st, xt] ty #[ρv s, ρv x]).run P w = .ok (.int .i64 (min m dl : Nat)) w' := by
            have hmin : Nat.min m dl = min m dl := rfl
            simp only [Builtin.copy_, List.getElem?_toArray, List.getElem?_cons_zero, List.getElem?_cons_succ, Sem.run_bind, run_und hsd, hd, Result.andThen_ok, es, hl, run_size hie, hmin, hfirst, Sem.run_pure, goInt]
            rw [show (storeCells (⟨b, off, none⟩ : Addr) (List.take (min m dl * ie.size) xs).toArray.toList).run P w = .ok () w' by simpa using g1]
            rfl
          rw [hrun]
          exact ⟨_, _, h7 w' (by simpa using g2) g3 g4 g5 g6 g7, _, σ', h1, rfl, h2, h6, rfl⟩
        · exact h.elim
      · exact h.elim
    · exact h.elim
  · exact h.elim
theorem flat_rep {α : Type} (l : List α) : ∀ (n j : Nat), j < n * l.length → 0 < l.length → (List.replicate n l).flatten[j]? = l[j % l.length]?
  | 0, j, h, _ => by simp at h
  | n + 1, j, h, h0 => by
    simp only [List.replicate_succ, List.flatten_cons]
    by_cases hj : j < l.length
    · rw [List.getElem?_append_left hj, Nat.mod_eq_of_lt hj]
    · rw [List.getElem?_append_right (by omega), flat_rep l n _ (by rw [Nat.add_mul] at h; omega) h0]
      congr 1
      rw [Nat.mod_eq_sub_mod (by omega : j ≥ l.length)]
theorem wrap_small {n : Nat} (h : n < 9223372036854775808) : IntKind.i64.wrap (n : Int) = n := by
  simp only [IntKind.wrap, IntKind.bits, IntKind.signed]
  have h1 : ((n : Int) % (2 ^ 64 : Int)) = n := by omega
  simp only [h1, Bool.true_and]
  rw [if_neg (by simp; omega)]
theorem nMakeSlice_sound (hT : ∀ t i, TT t = some i → tiOf P t = some i) (hf : Fits σ ρ ρv) (hs : Sat σ.I σ.res w) {d : Option Nat} {t : TypeId} {l c : Operand} (h : nMakeSlice TT ρ σ k d t l c) :
    VOk σ w k ((Instr.makeSlice t (ρv l) (ρv c)).run P w) := by
  unfold nMakeSlice at h
  split at h
  · rename_i sd d hsd
    split at h
    · rename_i e hd
      split at h
      · rename_i ie hie
        have hie := hT _ _ hie
        have hsd := hT _ _ hsd
        replace h := val_sound hf (val_sound hf h)
        split at h
        · rename_i k1 l' k2 c' el ec
          obtain ⟨hz, n, rfl, rfl, h63, h48, h⟩ := h
          have hz : (vcells ie.zero).length = ie.size := beq_iff.1 hz
          obtain ⟨inf, i1, i2, i3, i4⟩ := ti_info hie
          have hcells : ∀ z : Array Value, z = ie.zero.cells → (Array.range (n * ie.size)).map (fun j => z[j % z.size]!) = (List.replicate n (vcells ie.zero)).flatten.toArray := fun z hzz => by
            subst hzz
            apply Array.toList_inj.1
            simp only [vcells_size, hz, Array.toList_map, Array.toList_range]
            apply List.ext_getElem?
            intro j
            simp only [List.getElem?_map, List.getElem?_range]
            by_cases hj : j < n * ie.size
            · have h0 : 0 < ie.size := by
                rcases Nat.eq_zero_or_pos ie.size with h0 | h0
                · rw [h0] at hj; simp at hj
                · exact h0
              have hmod : j % ie.size < (vcells ie.zero).length := by rw [hz]; exact Nat.mod_lt _ h0
              rw [List.getElem?_range hj]
              simp only [Option.map_some]
              rw [flat_rep (vcells ie.zero) n j (by rw [hz]; exact hj) (by rw [hz]; exact h0), hz]
              have : ie.zero.cells.toList = vcells ie.zero := vcells_eq _
              have hsz : j % ie.size < ie.zero.cells.size := by rw [vcells_size]; exact hmod
              rw [getElem!_pos ie.zero.cells _ hsz, ← this]
              simp [hsz]
            · rw [List.getElem?_eq_none (by simpa using hj)]
              rw [List.getElem?_eq_none (by simp [hz]; omega)]
              rfl
          have hrun : (Instr.makeSlice t (ρv l) (ρv c)).run P w = .ok (.slice (some ⟨w.heap.size, 0, none⟩) n n) (w.alloc (.cells (List.replicate n (vcells ie.zero)).flatten.toArray e)) := by
            have hlt : ¬ ((n : Int) < 0) := by omega
            have hbig : ¬ ((inf.bytes : Int) * (n : Int) > 2 ^ 48) := by
              have h9 : (inf.bytes : Int) * (n : Int) = ((n * ie.bytes : Nat) : Int) := by rw [i3, Int.natCast_mul, Int.mul_comm]
              rw [h9]
              omega
            simp only [Instr.makeSlice, el, ec, asInt, asIntOf, Sem.run_bind, run_und hsd, hd, Result.andThen_ok, Sem.run_pure, run_info i1, wrap_small h63]
            simp only [hlt, hbig, decide_false, Bool.or_false, Bool.false_eq_true, false_or, or_false, Int.lt_irrefl, gt_iff_lt, if_false, run_askRoom, Sem.run_bind, Result.andThen_ok, run_size hie, Int.toNat_natCast]
            split
            · rename_i h0
              simp only [Sem.run_pure, Result.andThen_ok, newRow, Sem.run_bind, run_newObj, World.alloc_eq]
              have : (Array.range (n * ie.size)).map (fun j => (#[] : Array Value)[j % (#[] : Array Value).size]!) = (List.replicate n (vcells ie.zero)).flatten.toArray := by
                rw [h0]
                apply Array.toList_inj.1
                have : (List.replicate n (vcells ie.zero)).flatten.length = 0 := by simp [hz, h0]
                simp [List.eq_nil_of_length_eq_zero this]
              rw [this]
            · simp only [Sem.run_bind, run_zero hie, Sem.run_pure, Result.andThen_ok, newRow, run_newObj, World.alloc_eq]
              rw [hcells _ rfl]
          rw [hrun]
          have hlen : (List.replicate n (vcells ie.zero)).flatten.length = n * ie.size := by simp [hz]
          have hst := step_alloc hs (.cells (List.replicate n (vcells ie.zero)).flatten.toArray e) (.vec (.slice (some ⟨w.heap.size, 0, none⟩) n n) ie.size (List.replicate n (vcells ie.zero)).flatten) rfl
              ⟨hlen, Nat.le_refl _, _, e, (0, 0), by rw [heap_alloc, if_pos rfl], by rw [List.size_toArray, hlen]; exact Nat.le_refl _, fun j _ => by simp, fun o _ h => by simp at h⟩
          exact ⟨_, _, step_newR d hst, _, _, h w.heap.size, rfl, .refl _, rfl, rfl⟩
        · exact h.elim
      · exact h.elim
    · exact h.elim
  · exact h.elim
end sound
end Go.Proofs.YtcfglgelckjpmaaGreatDoor
