/- Own machinery, and laws of the functions that the statement reaches (part 11). -/
import Derived.Test.YtcfglgelckjpmaaGreatDoorB10
import Derived.Maps.RangeRun
import Derived.MapKept
set_option linter.all false
namespace Go.Proofs.YtcfglgelckjpmaaGreatDoor
section sound
variable {P : Program} {TT : Nat → Option TI} {ρ : Operand → Option SV} {ρv : Operand → Value} {σ : Mem} {k : SV → Mem → Prop} {w : World}
theorem numT_sound (hT : ∀ t i, TT t = some i → tiOf P t = some i) {t : Nat} (h : numT TT t = true) : ∃ i, tiOf P t = some i ∧ i.d = .int .i64 := by
  unfold numT at h
  split at h
  · rename_i i hi
    split at h
    · exact ⟨i, hT _ _ hi, ‹_›⟩
    · cases h
  · cases h
theorem und_of {t : Nat} {i : TI} (h : tiOf P t = some i) : P.underlying t = some i.d := by
  unfold tiOf at h
  split at h
  · rename_i d inf hd hi
    split at h <;> cases h
    exact hd
  · cases h
theorem nMakeMap_sound (hT : ∀ t i, TT t = some i → tiOf P t = some i) (hf : Fits σ ρ ρv) (hs : Sat σ.I σ.res w) {d : Option Nat} {t : TypeId} {r : Option Operand} (h : nMakeMap TT ρ σ k d t r) :
    VOk σ w k ((Instr.makeMap t (r.map ρv)).run P w) := by
  unfold nMakeMap at h
  split at h
  · rename_i i d hi
    have hi := hT _ _ hi
    split at h
    · rename_i kt et hd
      replace h := optVal_sound hf h
      have key : (∃ r', r' = r.map ρv ∧ (r' = none ∨ ∃ kd n, r' = some (.int kd n))) → (Instr.makeMap t (r.map ρv)).run P w = .ok (.map (some w.heap.size)) (w.alloc (.map #[] 0)) := by
        rintro ⟨r', e, h | ⟨kd, n, h⟩⟩
        · rw [← e, h]
          simp only [Instr.makeMap, Sem.run_bind, Sem.run_pure, Result.andThen_ok, run_newObj, World.alloc_eq]
        · rw [← e, h]
          simp only [Instr.makeMap, Sem.run_bind, run_und hi, hd, asInt, asIntOf, Sem.run_pure, Result.andThen_ok, run_newObj, World.alloc_eq]
      have hmap : Res.holds (w.alloc (.map #[] 0)) (.map w.heap.size #[] 0) := by simp only [Res.holds]; rw [heap_alloc, if_pos rfl]
      have h1 : (∀ r, k (.v (.map (some r))) { σ with R := ins d (.map r #[] 0) σ.R }) → VOk σ w k (.ok (.map (some w.heap.size)) (w.alloc (.map #[] 0))) := fun h =>
        ⟨_, _, step_newR d (step_alloc hs (.map #[] 0) (.map w.heap.size #[] 0) rfl hmap), _, _, h w.heap.size, rfl, .refl _, rfl, rfl⟩
      split at h
      · rename_i kd n e
        rw [key ⟨_, rfl, .inr ⟨_, _, e⟩⟩]
        exact h1 h
      · rename_i e
        rw [key ⟨_, rfl, .inl e⟩]
        split at h
        · exact ⟨_, _, step_newR d (step_alloc hs (.map #[] 0) (.lmap w.heap.size []) rfl ⟨#[], 0, hmap, .refl _, by simp⟩), _, _, h w.heap.size, rfl, .refl _, rfl, rfl⟩
        · exact h1 h
      · exact h.elim
    · exact h.elim
  · exact h.elim
theorem mem_of_anyKey : ∀ {kvs : List (Nat × Nat)} {a : Nat}, anyKey a kvs = false → a ∉ kvs.map Prod.fst
  | [], a, _, h => by cases h
  | (b, c) :: r, a, h, hm => by
    simp only [anyKey, cond_eq_ite, beq_iff] at h
    split at h
    · cases h
    · rename_i hne
      simp only [List.map_cons, List.mem_cons] at hm
      rcases hm with rfl | hm
      · exact hne rfl
      · exact mem_of_anyKey h hm
theorem ins_perm_new {a c : Nat} : ∀ {kvs : List (Nat × Nat)}, a ∉ kvs.map Prod.fst → (ins a c kvs).Perm ((a, c) :: kvs)
  | [], _ => .refl _
  | (b, x) :: r, h => by
    simp only [List.map_cons, List.mem_cons, not_or] at h
    rw [ins_cons, if_neg h.1]
    split
    · exact .refl _
    · exact ((ins_perm_new h.2).cons _).trans (.swap _ _ _)
theorem lmap_keys {es : Array MapEntry} {kvs : List (Nat × Nat)} (hp : (es.toList.map fun e => (e.key, e.val)).Perm (kvs.map numKv)) {e : MapEntry} (he : e ∈ es.toList) : ∃ a c, (a, c) ∈ kvs ∧ e.key = .int .i64 (a : Nat) ∧ e.val = .int .i64 (c : Nat) := by
  have h1 : (e.key, e.val) ∈ kvs.map numKv := hp.mem_iff.1 (List.mem_map.2 ⟨e, he, rfl⟩)
  obtain ⟨⟨a, c⟩, h2, h3⟩ := List.mem_map.1 h1
  simp only [numKv, Prod.mk.injEq] at h3
  exact ⟨a, c, h2, h3.1.symm, h3.2.symm⟩
def notCells : Obj → Bool
  | .cells .. => false
  | _ => true
theorem run_get_obj {r : Nat} {o : Obj} (h : w.heap[r]? = some o) (hc : notCells o = true := by rfl) : (getObj r).run P w = .ok o w := by
  cases o <;> first | (simp only [getObj, Sem.run, h]; done) | cases hc
theorem run_set_obj {r : Nat} {o o' : Obj} (h : w.heap[r]? = some o) (hc : notCells o = true := by rfl) : (setObj r o').run P w = .ok () { w with heap := w.heap.setIfInBounds r o' } := by
  cases o <;> first | (simp only [setObj, Sem.run, h]; done) | cases hc
theorem step_set {I : Imm} {Rs : List Res} {r r' : Res} {b : Nat} {o o' : Obj} (hs : Sat I (r :: Rs) w) (hb : r.b = some b) (hb' : r'.b = some b) (ho : w.heap[b]? = some o)
    (hr : r'.holds { w with heap := w.heap.setIfInBounds b o' }) : Step I (r :: Rs) w I (r' :: Rs) { w with heap := w.heap.setIfInBounds b o' } :=
  step_write hs hb hb' hr (by simp) (fun b' hne => by simp [Ne.symm hne]) rfl rfl rfl
theorem set_get {b : Nat} {o o' : Obj} (ho : w.heap[b]? = some o) : ({ w with heap := w.heap.setIfInBounds b o' } : World).heap[b]? = some o' := by
  have := lt_of_heap ho
  simp [this]
theorem nInsert_sound (hT : ∀ t i, TT t = some i → tiOf P t = some i) (hf : Fits σ ρ ρv) (hs : Sat σ.I σ.res w) {t : TypeId} {m key x : Operand} (h : nInsert TT ρ σ k t m key x) :
    OpOk P σ.I σ.res w (NK σ k) ((do Instr.mapUpdate t (ρv m) (ρv key) (ρv x); pure Next.skip : Sem Next).run P w) := by
  unfold nInsert at h
  split at h
  · rename_i i tm hi
    have hi := hT _ _ hi
    split at h
    · rename_i kt et r kvs hd hk
      split at h
      · rename_i hn1 hn2
        obtain ⟨ki, hki, hkd⟩ := numT_sound hT hn1
        replace h := val_sound hf (val_sound hf (val_sound hf h))
        split at h
        · rename_i r' a c em ek ex
          split at h
          · rename_i hnew
            obtain ⟨rfl, h⟩ := h
            obtain ⟨es, cl, h1, h2, h3⟩ := mem_blk hs (r := .lmap r' kvs) ((res_getR hk).mem_iff.2 (by simp))
            have hnot := mem_of_anyKey hnew
            have hfn : Instr.findNow (.int .i64) (.int .i64 (.ofNat a)) es.toList 0 = some none := by
              rcases MapKept.findNow_spec (d := .int .i64) (k := .int .i64 (.ofNat a)) rfl es.toList 0 (fun e he => by
                obtain ⟨a', c', _, e1, _⟩ := lmap_keys h2 he
                rw [e1]; rfl) with ⟨g, _⟩ | ⟨j, e, _, g2, g3⟩
              · exact g
              · exfalso
                obtain ⟨a', c', g4, g5, _⟩ := lmap_keys h2 (List.mem_of_getElem? g2)
                rw [g3] at g5
                have : a = a' := by
                  have := (Value.int.inj g5).2
                  exact Int.ofNat.inj this
                subst this
                exact hnot (List.mem_map.2 ⟨_, g4, rfl⟩)
            have hchk : (Instr.checkKey false 10000 kt (.int .i64 (.ofNat a))).run P w = .ok () w := MapKept.run_checkKey (d := .int .i64) (by rw [und_of hki, hkd]) (by exact rfl) false 9999
            have hfind : (Instr.findKey kt (.int .i64 (.ofNat a)) es.toList).run P w = .ok none w := MapKept.run_findKey (by rw [und_of hki, hkd]) hfn
            have hrun : (Instr.mapUpdate t (ρv (.tmp tm)) (ρv key) (ρv x)).run P w = .ok () { w with heap := w.heap.setIfInBounds r' (.map (es.push ⟨.int .i64 (.ofNat a), .int .i64 (.ofNat c), cl⟩) (cl + 1)) } := by
              rw [em, ek, ex]
              simp only [Instr.mapUpdate, Sem.run_bind, run_und hi, hd, Result.andThen_ok, run_get_obj h1, hchk, hfind, run_set_obj h1]
            refine ok_of_u hrun (((step_set (hs.perm (res_getR hk)) rfl (r' := .lmap r' (ins a c kvs)) rfl h1 ?_).perm_left (res_getR hk).symm).perm_right (res_setR hk _).symm) ⟨_, _, h, rfl, .refl _, rfl, rfl⟩
            refine ⟨_, _, set_get h1, ?_, ?_⟩
            · have hp := (ins_perm_new (c := c) hnot).map numKv
              refine List.Perm.trans ?_ hp.symm
              simp only [Array.toList_push, List.map_append, List.map_cons, List.map_nil]
              exact (List.perm_append_comm).trans ((h2.cons _))
            · refine ((ins_perm_new (c := c) hnot).map Prod.fst).nodup_iff.2 ?_
              exact List.nodup_cons.2 ⟨hnot, h3⟩
          · exact h.elim
        · exact h.elim
      · exact h.elim
    · exact h.elim
  · exact h.elim
theorem nMapUpdate_sound (hT : ∀ t i, TT t = some i → tiOf P t = some i) (hf : Fits σ ρ ρv) (hs : Sat σ.I σ.res w) {t : TypeId} {m key x : Operand} (h : nMapUpdate P TT ρ σ k t m key x) :
    OpOk P σ.I σ.res w (NK σ k) ((do Instr.mapUpdate t (ρv m) (ρv key) (ρv x); pure Next.skip : Sem Next).run P w) := by
  unfold nMapUpdate at h
  split at h
  · rename_i i hi
    have hi := hT _ _ hi
    split at h
    · rename_i kt et hd
      replace h := val_sound hf (val_sound hf (val_sound hf h))
      split at h
      · rename_i r em
        obtain ⟨rk, es, cl, hk, hn, h⟩ := h
        have h1 : w.heap[r]? = some (.map es cl) := mem_blk hs (r := .map r es cl) ((res_getR hk).mem_iff.2 (by simp))
        have hrun : (Instr.mapUpdate t (ρv m) (ρv key) (ρv x)).run P w = .ok () { w with heap := w.heap.setIfInBounds r (.map (es.push ⟨ρv key, ρv x, cl⟩) (cl + 1)) } := by
          rw [em]
          simp only [Instr.mapUpdate, Sem.run_bind, run_und hi, hd, Result.andThen_ok, run_get_obj h1, (hn w).1, (hn w).2, run_set_obj h1]
        exact ok_of_u hrun (((step_set (hs.perm (res_getR hk)) rfl (r' := .map r (es.push ⟨ρv key, ρv x, cl⟩) (cl + 1)) rfl h1 (set_get h1)).perm_left (res_getR hk).symm).perm_right (res_setR hk _).symm) ⟨_, _, h, rfl, .refl _, rfl, rfl⟩
      · exact h.elim
    · exact h.elim
  · exact h.elim
theorem lookN_mem : ∀ {kvs : List (Nat × Nat)} {a c : Nat}, (kvs.map Prod.fst).Nodup → (a, c) ∈ kvs → lookN kvs a = c
  | (b, x) :: r, a, c, hn, hm => by
    simp only [List.map_cons, List.nodup_cons] at hn
    simp only [lookN]
    rcases List.mem_cons.1 hm with e | hm'
    · cases e; simp
    · have : a ≠ b := by rintro rfl; exact hn.1 (List.mem_map.2 ⟨(a, c), hm', rfl⟩)
      rw [if_neg (by omega)]
      exact lookN_mem hn.2 hm'
theorem lookN_none : ∀ {kvs : List (Nat × Nat)} {n : Int}, (∀ a c, (a, c) ∈ kvs → n ≠ (a : Int)) → lookN kvs n = 0
  | [], _, _ => rfl
  | (b, x) :: r, n, h => by
    simp only [lookN]
    rw [if_neg (h b x (by simp))]
    exact lookN_none fun a c hm => h a c (by simp [hm])
theorem numT_zero (hT : ∀ t i, TT t = some i → tiOf P t = some i) {t : Nat} (h : numT TT t = true) (hz : ∀ i, tiOf P t = some i → i.d = .int .i64 → i.zero = .int .i64 0) : (zeroValue t).run P w = .ok (.int .i64 0) w := by
  obtain ⟨i, h1, h2⟩ := numT_sound hT h
  rw [run_zero h1, hz i h1 h2]
theorem nLookup_sound (hT : ∀ t i, TT t = some i → tiOf P t = some i) (hZ : ∀ t i, TT t = some i → i.d = .int .i64 → i.zero = .int .i64 0) (hf : Fits σ ρ ρv) (hs : Sat σ.I σ.res w) {t : TypeId} {x ix : Operand} {ok : Bool}
    (h : nLookup P TT ρ σ k t x ix ok) : VOk σ w k ((Instr.lookup t (ρv x) (ρv ix) ok).run P w) := by
  unfold nLookup at h
  split at h
  · rename_i i hi
    have hi := hT _ _ hi
    split at h
    · rename_i kt et hd
      split at h
      · rename_i hn1 hn2
        obtain ⟨ki, hki, hkd⟩ := numT_sound hT hn1
        have hzero : (zeroValue et).run P w = .ok (.int .i64 0) w := by
          unfold numT at hn2
          split at hn2
          · rename_i ei hei
            split at hn2
            · rw [run_zero (hT _ _ hei), hZ _ _ hei ‹_›]
            · cases hn2
          · cases hn2
        replace h := val_sound hf (val_sound hf h)
        split at h
        · rename_i r n ex ei
          obtain ⟨rk, kvs, m, hk, hm, h⟩ := h
          obtain ⟨es, cl, h1, h2, h3⟩ := mem_blk hs (r := .lmap r kvs) ((res_getR hk).mem_iff.2 (by simp))
          have hchk : (Instr.checkKey es.isEmpty 10000 kt (.int .i64 n)).run P w = .ok () w := MapKept.run_checkKey (d := .int .i64) (by rw [und_of hki, hkd]) (by exact rfl) _ 9999
          rw [ex, ei]
          rcases MapKept.findNow_spec (d := .int .i64) (k := .int .i64 n) rfl es.toList 0 (fun e he => by
                obtain ⟨a', c', _, e1, _⟩ := lmap_keys h2 he
                rw [e1]; rfl) with ⟨g, g'⟩ | ⟨j, e, g1, g2, g3⟩
          · have hfind := MapKept.run_findKey (P := P) (w := w) (kt := kt) (by rw [und_of hki, hkd]) g
            have h0 : m = 0 := by
              rw [← hm]
              refine lookN_none fun a c hac e => ?_
              subst e
              have : numKv (a, c) ∈ es.toList.map fun e => (e.key, e.val) := h2.mem_iff.2 (List.mem_map.2 ⟨_, hac, rfl⟩)
              obtain ⟨e, he, he'⟩ := List.mem_map.1 this
              simp only [numKv, Prod.mk.injEq] at he'
              exact g' e he he'.1
            subst h0
            simp only [Instr.lookup, Sem.run_bind, run_und hi, hd, Result.andThen_ok, run_get_obj h1, Sem.run_pure, hchk, hfind, hzero, Bool.false_eq_true, if_false]
            exact .pure hs h
          · have hfind := MapKept.run_findKey (P := P) (w := w) (kt := kt) (by rw [und_of hki, hkd]) g1
            obtain ⟨a, c, g4, g5, g6⟩ := lmap_keys h2 (List.mem_of_getElem? g2)
            rw [g3] at g5
            have hn : n = (a : Int) := by simpa using g5
            have hc : m = (c : Int) := by rw [← hm, hn]; exact lookN_mem h3 g4
            simp only [Instr.lookup, Sem.run_bind, run_und hi, hd, Result.andThen_ok, run_get_obj h1, Sem.run_pure, hchk, hfind, Bool.false_eq_true, if_false, g6, ← hc]
            exact .pure hs h
        · exact h.elim
      · replace h := val_sound hf (val_sound hf h)
        split at h
        · rename_i r ie ex hie
          obtain ⟨es, cl, f, hm, hfi, h⟩ := h
          have h1 := hs.ok.m hm
          rw [ex]
          simp only [Instr.lookup, Sem.run_bind, run_und hi, hd, Result.andThen_ok, run_get_obj h1, Sem.run_pure, (hfi w).1, (hfi w).2]
          cases f with
          | none =>
            simp only [Sem.run_bind, run_zero (hT _ _ hie), Result.andThen_ok, Sem.run_pure]
            exact .pure hs (by simpa only [cond_eq_ite] using h)
          | some f =>
            obtain ⟨j, v⟩ := f
            simp only [Sem.run_bind, Sem.run_pure, Result.andThen_ok]
            exact .pure hs (by simpa only [cond_eq_ite] using h)
        · exact h.elim
    · exact h.elim
  · exact h.elim
theorem nRange_sound (hT : ∀ t i, TT t = some i → tiOf P t = some i) (hf : Fits σ ρ ρv) (hs : Sat σ.I σ.res w) {d : Option Nat} {t : TypeId} {x : Operand} (h : nRange TT ρ σ k d t x) :
    VOk σ w k ((Instr.range t (ρv x)).run P w) := by
  unfold nRange at h
  split at h
  · rename_i i d hi
    have hi := hT _ _ hi
    split at h
    · rename_i kt et hd
      replace h := val_sound hf h
      split at h
      · rename_i ex
        rw [ex]
        simp only [Instr.range, Sem.run_bind, run_und hi, hd, Result.andThen_ok, Sem.run_pure, run_newObj, World.alloc_eq]
        exact ⟨_, _, step_newR d (step_alloc hs (.mapIter none 0 #[] 0) (.iter w.heap.size none 0 #[] 0) rfl (by simp only [Res.holds]; rw [heap_alloc, if_pos rfl])), _, _, h w.heap.size, rfl, .refl _, rfl, rfl⟩
      · rename_i m ex
        obtain ⟨es, cl, hm, h⟩ := h
        have h1 := hs.ok.m hm
        rw [ex]
        simp only [Instr.range, Sem.run_bind, run_und hi, hd, Result.andThen_ok, Sem.run_pure, run_get_obj h1, run_newObj, World.alloc_eq]
        exact ⟨_, _, step_newR d (step_alloc hs (.mapIter (some m) cl #[] cl) (.iter w.heap.size (some m) cl #[] cl) rfl (by simp only [Res.holds]; rw [heap_alloc, if_pos rfl])), _, _, h w.heap.size, rfl, .refl _, rfl, rfl⟩
      · exact h.elim
    · exact h.elim
  · exact h.elim
theorem nNext_sound (hf : Fits σ ρ ρv) (hs : Sat σ.I σ.res w) {it : Operand} {s : Bool} {ty : TypeId} (h : nNext ρ σ k it s) : VOk σ w k ((Instr.next (ρv it) s ty).run P w) := by
  unfold nNext at h
  split at h
  · exact h.elim
  · replace h := val_sound hf h
    split at h
    · rename_i b ei
      obtain ⟨rk, m, since, seen, last, hk, h⟩ := h
      have h1 : w.heap[b]? = some (.mapIter m since seen last) := mem_blk hs (r := .iter b m since seen last) ((res_getR hk).mem_iff.2 (by simp))
      rw [ei]
      split at h
      · simp only [Instr.next, Sem.run_bind, run_get_obj h1, Result.andThen_ok, Sem.run_pure]
        exact .pure hs h
      · rename_i m
        obtain ⟨es, hm, rfl, hborn, hno, hyes⟩ := h
        have h2 := hs.ok.m hm
        rcases run_next_at (P := P) w ty b m last last seen es last h1 h2 hborn (Nat.le_refl _) with ⟨g1, g2⟩ | ⟨e, g1, w1, g2, g3⟩
        · rw [g2]
          refine .pure hs (hno fun e he => ?_)
          unfold leftOf at g1
          rcases Decidable.em (e.born ∈ seen) with h' | h'
          · exact h'
          · have : e ∈ es.filter fun e => !seen.contains e.born := by
              rw [Array.mem_filter]
              exact ⟨by simpa using he, by simpa using h'⟩
            rw [Array.eq_empty_of_size_eq_zero g1] at this
            simp at this
        · rw [g3]
          unfold leftOf at g1
          have he : e ∈ es.filter fun e => !seen.contains e.born := by simpa using g1
          rw [Array.mem_filter] at he
          have hst : Step σ.I σ.res w σ.I σ.res w1 := by
            rcases g2 with rfl | rfl
            · exact .refl hs
            · exact step_same hs rfl rfl rfl rfl
          have h1' : w1.heap[b]? = some (.mapIter (some m) last seen last) := by rcases g2 with rfl | rfl <;> exact h1
          refine ⟨_, _, hst.trans (((step_set (hst.sat.perm (res_getR hk)) rfl (r' := .iter b (some m) last (seen.push e.born) last) rfl h1' (set_get h1')).perm_left (res_getR hk).symm).perm_right (res_setR hk _).symm),
            _, _, hyes e (by simpa using he.1) (by simpa using he.2), rfl, .refl _, rfl, rfl⟩
    · exact h.elim
theorem nEntry_sound (hf : Fits σ ρ ρv) (hs : Sat σ.I σ.res w) {it : Operand} (h : nEntry ρ σ k it) : VOk σ w k ((Instr.entry (ρv it)).run P w) := by
  unfold nEntry at h
  replace h := val_sound hf h
  split at h
  · rename_i b ei
    obtain ⟨rk, m, since, seen, e, es, hk, hm, hb, hfi, h⟩ := h
    have h1 : w.heap[b]? = some (.mapIter (some m) since seen since) := mem_blk hs (r := .iter b (some m) since seen since) ((res_getR hk).mem_iff.2 (by simp))
    have h2 := hs.ok.m hm
    rw [ei]
    simp only [Instr.entry, Sem.run_bind, run_get_obj h1, Result.andThen_ok, hb, run_get_obj h2, bne_self_eq_false, Bool.false_eq_true, if_false, hfi, Sem.run_pure]
    exact .pure hs h
  · exact h.elim
end sound
end Go.Proofs.YtcfglgelckjpmaaGreatDoor
