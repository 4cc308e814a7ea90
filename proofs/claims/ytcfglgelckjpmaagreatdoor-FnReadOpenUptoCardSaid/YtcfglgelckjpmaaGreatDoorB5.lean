/- Own machinery, and laws of the functions that the statement reaches (part 5). -/
import Derived.Test.YtcfglgelckjpmaaGreatDoorB4
import Derived.Laws.World
import Derived.Laws.Sem
set_option linter.all false
namespace Go.Proofs.YtcfglgelckjpmaaGreatDoor
theorem lt_of_heap {w : World} {b : Nat} {o : Obj} (h : w.heap[b]? = some o) : b < w.heap.size := by
  rcases Nat.lt_or_ge b w.heap.size with h' | h'
  · exact h'
  · simp [Array.getElem?_eq_none h'] at h
theorem heap_alloc (w : World) (o : Obj) (b : Nat) : (w.alloc o).heap[b]? = if b = w.heap.size then some o else w.heap[b]? := by
  unfold World.alloc
  simp only [Array.getElem?_push]
theorem cell_of_heap_eq {w w' : World} {b : Nat} (h : w'.heap[b]? = w.heap[b]?) (o : Nat) : w'.cell? ⟨b, o, none⟩ = w.cell? ⟨b, o, none⟩ := by
  simp [World.cell?, h]
theorem ok_mono {I : Imm} {w w' : World} (h : I.ok w) (hb : ∀ b, b < w.heap.size → ((∃ o, I.c b o ≠ none) ∨ I.m b ≠ none) → w'.heap[b]? = w.heap[b]?) : I.ok w' := {
  c := fun {b o v} e => by
    have h1 := h.c e
    obtain ⟨c, ty, fz, h2, h3⟩ := World.heap_of_cell h1
    rw [cell_of_heap_eq (hb b (lt_of_heap h2) (.inl ⟨o, by rw [e]; simp⟩))]
    exact h1
  m := fun {r es cl} e => by
    have h1 := h.m e
    rw [hb r (lt_of_heap h1) (.inr (by rw [e]; simp))]
    exact h1 }
theorem noneAt {I : Imm} {w : World} (h : I.ok w) {b : Nat} (hb : w.heap.size ≤ b) : (∀ o, I.c b o = none) ∧ I.m b = none := by
  constructor
  · intro o
    cases e : I.c b o with
    | none => rfl
    | some v =>
      obtain ⟨c, ty, fz, h2, h3⟩ := World.heap_of_cell (h.c e)
      have := lt_of_heap h2
      omega
  · cases e : I.m b with
    | none => rfl
    | some v =>
      obtain ⟨es, cl⟩ := v
      have := lt_of_heap (h.m e)
      omega
theorem step_alloc {I : Imm} {Rs : List Res} {w : World} (hs : Sat I Rs w) (o : Obj) (r : Res) (hb : r.b = some w.heap.size) (hr : r.holds (w.alloc o)) :
    Step I Rs w I (r :: Rs) (w.alloc o) := by
  have hold : ∀ b, b < w.heap.size → (w.alloc o).heap[b]? = w.heap[b]? := fun b h => by rw [heap_alloc, if_neg (by omega)]
  refine ⟨.refl I, ⟨ok_mono hs.ok fun b h _ => hold b h, ?_, ?_⟩, by simp, rfl, rfl, rfl, fun b h _ => ⟨hold b h, fun _ => rfl, rfl⟩, ?_⟩
  · intro r' h'
    rcases List.mem_cons.1 h' with rfl | h'
    · refine ⟨hr, fun b e => ?_⟩
      rw [hb] at e; cases e
      exact noneAt hs.ok (Nat.le_refl _)
    · have h0 := hs.res r' h'
      exact ⟨Res.holds_of_block h0.1 fun b e => hold b (Res.lt_of_holds h0.1 e), h0.2⟩
  · rw [List.filterMap_cons, hb]
    refine List.nodup_cons.2 ⟨fun hm => ?_, hs.nodup⟩
    obtain ⟨r', h', e⟩ := List.mem_filterMap.1 hm
    have := Res.lt_of_holds (hs.res r' h').1 e
    omega
  · intro r' h' b e
    rcases List.mem_cons.1 h' with rfl | h'
    · rw [hb] at e; cases e; exact .inr (Nat.le_refl _)
    · exact .inl ⟨r', h', e⟩
theorem step_same {I : Imm} {Rs : List Res} {w w' : World} (hs : Sat I Rs w) (hh : w'.heap = w.heap) (h1 : w'.os = w.os) (h2 : w'.tape = w.tape) (h3 : w'.output = w.output) : Step I Rs w I Rs w' := by
  refine ⟨.refl I, ⟨ok_mono hs.ok fun b _ _ => by rw [hh], fun r hr => ?_, hs.nodup⟩, by rw [hh]; exact Nat.le_refl _, h1, h2, h3, fun b _ _ => ⟨by rw [hh], fun _ => rfl, rfl⟩, fun r hr b e => .inl ⟨r, hr, e⟩⟩
  have h0 := hs.res r hr
  exact ⟨Res.holds_of_block h0.1 fun b _ => by rw [hh], h0.2⟩
def Imm.addC (I : Imm) (b : Nat) (cs : List Value) : Imm := ⟨fun b' o => if b' = b then cs[o]? else I.c b' o, I.m, by
  obtain ⟨n, h⟩ := I.room
  refine ⟨max n (b + 1), fun b' hb' => ⟨fun o => ?_, (h b' (by omega)).2⟩⟩
  rw [if_neg (by omega)]
  exact (h b' (by omega)).1 o⟩
def Imm.addM (I : Imm) (r : Nat) (es : Array MapEntry) (cl : Nat) : Imm := ⟨I.c, fun r' => if r' = r then some (es, cl) else I.m r', by
  obtain ⟨n, h⟩ := I.room
  refine ⟨max n (r + 1), fun b' hb' => ⟨(h b' (by omega)).1, ?_⟩⟩
  rw [if_neg (by omega)]
  exact (h b' (by omega)).2⟩
theorem le_addC {I : Imm} {b : Nat} (cs : List Value) (h : ∀ o, I.c b o = none) : I.le (I.addC b cs) := {
  c := fun {b' o v} e => by
    simp only [Imm.addC]
    split
    · subst_vars; rw [h] at e; cases e
    · exact e
  m := id }
theorem le_addM {I : Imm} {r : Nat} (es : Array MapEntry) (cl : Nat) (h : I.m r = none) : I.le (I.addM r es cl) := {
  c := id
  m := fun {r' x} e => by
    simp only [Imm.addM]
    split
    · subst_vars; rw [h] at e; cases e
    · exact e }
theorem cells_addC (I : Imm) (b : Nat) (cs : List Value) : CellsAt (I.addC b cs) b 0 cs := fun j x h => by
  simp [Imm.addC, h]
theorem step_giveC {I : Imm} {Rs : List Res} {w : World} {r : Res} {b : Nat} {cs : List Value} (hs : Sat I (r :: Rs) w) (hb : r.b = some b)
    (hc : ∀ o x, cs[o]? = some x → w.cell? ⟨b, o, none⟩ = some x) : Step I (r :: Rs) w (I.addC b cs) Rs w := by
  have hap := (hs.res r (by simp)).2 b hb
  have hn := hs.nodup
  rw [List.filterMap_cons, hb] at hn
  obtain ⟨hn1, hn2⟩ := List.nodup_cons.1 hn
  have hne : ∀ r' ∈ Rs, r'.b ≠ some b := fun r' h' e => hn1 (List.mem_filterMap.2 ⟨r', h', e⟩)
  refine ⟨le_addC _ hap.1, ⟨⟨fun {b' o v} e => ?_, fun e => hs.ok.m e⟩, fun r' h' => ?_, hn2⟩, Nat.le_refl _, rfl, rfl, rfl, fun b' h' hr => ⟨rfl, fun o => ?_, rfl⟩, fun r' h' b' e => .inl ⟨r', by simp [h'], e⟩⟩
  · simp only [Imm.addC] at e
    split at e
    · subst_vars; exact hc _ _ e
    · exact hs.ok.c e
  · have h0 := hs.res r' (by simp [h'])
    refine ⟨h0.1, fun b' e => ⟨fun o => ?_, (h0.2 b' e).2⟩⟩
    simp only [Imm.addC]
    rw [if_neg (by rintro rfl; exact hne r' h' e)]
    exact (h0.2 b' e).1 o
  · simp only [Imm.addC]
    rw [if_neg (by rintro rfl; exact hr r (by simp) hb)]
theorem step_giveM {I : Imm} {Rs : List Res} {w : World} {r : Nat} {es : Array MapEntry} {cl : Nat} (hs : Sat I (.map r es cl :: Rs) w) : Step I (.map r es cl :: Rs) w (I.addM r es cl) Rs w := by
  have h0 := hs.res (.map r es cl) (by simp)
  have hap := h0.2 r rfl
  have hn := hs.nodup
  rw [List.filterMap_cons] at hn
  simp only [Res.b] at hn
  obtain ⟨hn1, hn2⟩ := List.nodup_cons.1 hn
  have hne : ∀ r' ∈ Rs, r'.b ≠ some r := fun r' h' e => hn1 (List.mem_filterMap.2 ⟨r', h', e⟩)
  refine ⟨le_addM _ _ hap.2, ⟨⟨fun e => hs.ok.c e, fun {r' es' cl'} e => ?_⟩, fun r' h' => ?_, hn2⟩, Nat.le_refl _, rfl, rfl, rfl, fun b' h' hr => ⟨rfl, fun _ => rfl, ?_⟩, fun r' h' b' e => .inl ⟨r', by simp [h'], e⟩⟩
  · simp only [Imm.addM] at e
    split at e
    · subst_vars; cases e; exact h0.1
    · exact hs.ok.m e
  · have h1 := hs.res r' (by simp [h'])
    refine ⟨h1.1, fun b' e => ⟨(h1.2 b' e).1, ?_⟩⟩
    simp only [Imm.addM]
    rw [if_neg (by rintro rfl; exact hne r' h' e)]
    exact (h1.2 b' e).2
  · simp only [Imm.addM]
    rw [if_neg (by rintro rfl; exact hr _ (List.mem_cons_self) rfl)]
theorem step_allocC {I : Imm} {Rs : List Res} {w : World} (hs : Sat I Rs w) (cs : List Value) (ty : TypeId) (fz : Nat × Nat) (hf : ∀ o, o < cs.length → loose fz o) :
    Step I Rs w (I.addC w.heap.size cs) Rs (w.alloc (.cells cs.toArray ty fz)) := by
  have h1 := step_alloc hs (.cells cs.toArray ty fz) (.blk w.heap.size cs) rfl ⟨ty, fz, by rw [heap_alloc, if_pos rfl], hf⟩
  exact h1.trans (step_giveC h1.sat rfl fun o x e => by
    rw [World.cell_of_heap (by rw [heap_alloc, if_pos rfl])]; simpa using e)
theorem step_write {I : Imm} {Rs : List Res} {w w' : World} {r r' : Res} {b : Nat} (hs : Sat I (r :: Rs) w) (hb : r.b = some b) (hb' : r'.b = some b) (hr : r'.holds w')
    (hsz : w'.heap.size = w.heap.size) (hh : ∀ b', b' ≠ b → w'.heap[b']? = w.heap[b']?) (h1 : w'.os = w.os) (h2 : w'.tape = w.tape) (h3 : w'.output = w.output) :
    Step I (r :: Rs) w I (r' :: Rs) w' := by
  have hap := (hs.res r (by simp)).2 b hb
  have hn := hs.nodup
  rw [List.filterMap_cons, hb] at hn
  obtain ⟨hn1, hn2⟩ := List.nodup_cons.1 hn
  have hne : ∀ r' ∈ Rs, r'.b ≠ some b := fun r' h' e => hn1 (List.mem_filterMap.2 ⟨r', h', e⟩)
  refine ⟨.refl I, ⟨ok_mono hs.ok fun b' _ he => hh b' ?_, fun r₂ h' => ?_, ?_⟩, by rw [hsz]; exact Nat.le_refl _, h1, h2, h3, fun b' _ hr' => ⟨hh b' ?_, fun _ => rfl, rfl⟩, fun r₂ h' b' e => ?_⟩
  · rintro rfl
    rcases he with ⟨o, he⟩ | he
    · exact he (hap.1 o)
    · exact he hap.2
  · rcases List.mem_cons.1 h' with rfl | h'
    · refine ⟨hr, fun b' e => ?_⟩
      rw [hb'] at e; cases e; exact hap
    · have h0 := hs.res r₂ (by simp [h'])
      exact ⟨Res.holds_of_block h0.1 fun b' e => hh b' (by rintro rfl; exact hne r₂ h' e), h0.2⟩
  · rw [List.filterMap_cons, hb']; exact List.nodup_cons.2 ⟨hn1, hn2⟩
  · rintro rfl; exact hr' r (by simp) hb
  · rcases List.mem_cons.1 h' with rfl | h'
    · rw [hb'] at e; cases e; exact .inl ⟨r, by simp, hb⟩
    · exact .inl ⟨r₂, by simp [h'], e⟩
theorem step_none {I : Imm} {Rs : List Res} {w : World} (hs : Sat I Rs w) (r : Res) (hb : r.b = none) (hr : r.holds w) : Step I Rs w I (r :: Rs) w := by
  refine ⟨.refl I, ⟨hs.ok, fun r' h' => ?_, by rw [List.filterMap_cons, hb]; exact hs.nodup⟩, Nat.le_refl _, rfl, rfl, rfl, fun _ _ _ => ⟨rfl, fun _ => rfl, rfl⟩, fun r' h' b e => ?_⟩
  · rcases List.mem_cons.1 h' with rfl | h'
    · exact ⟨hr, fun b e => by rw [hb] at e; cases e⟩
    · exact hs.res r' h'
  · rcases List.mem_cons.1 h' with rfl | h'
    · rw [hb] at e; cases e
    · exact .inl ⟨r', h', e⟩
theorem mem_blk {I : Imm} {Rs : List Res} {w : World} (hs : Sat I Rs w) {r : Res} (h : r ∈ Rs) : r.holds w := (hs.res r h).1
section run
variable {P : Program} {w : World}
theorem add_none (b off i : Nat) : (⟨b, off, none⟩ : Addr).add i = ⟨b, off + i, none⟩ := by
  simp only [Addr.add]; split
  · subst_vars; rfl
  · rfl
theorem run_load_cell {b o : Nat} {v : Value} (h : w.cell? ⟨b, o, none⟩ = some v) : (load ⟨b, o, none⟩).run P w = .ok v w := by
  rw [run_load, h]
theorem run_loadCellsFrom {b off : Nat} : ∀ (xs : List Value) (i : Nat) (acc : Array Value), (∀ j x, xs[j]? = some x → w.cell? ⟨b, off + i + j, none⟩ = some x) →
    (loadCellsFrom ⟨b, off, none⟩ i xs.length acc).run P w = .ok (acc ++ xs.toArray) w
  | [], i, acc, _ => by simp [loadCellsFrom]
  | x :: xs, i, acc, h => by
    have h0 := h 0 x rfl
    simp only [loadCellsFrom, List.length_cons, Sem.run_bind, add_none]
    rw [run_load_cell (by simpa using h0), Result.andThen_ok, run_loadCellsFrom xs (i + 1) (acc.push x) (fun j y e => by
      have := h (j + 1) y (by simpa using e)
      rw [show off + (i + 1) + j = off + i + (j + 1) by omega]; exact this)]
    simp
theorem run_loadCells {b off : Nat} {xs : List Value} {n : Nat} (hn : xs.length = n) (h : ∀ j x, xs[j]? = some x → w.cell? ⟨b, off + j, none⟩ = some x) :
    (loadCells ⟨b, off, none⟩ n).run P w = .ok xs.toArray w := by
  subst hn
  have := run_loadCellsFrom (P := P) (b := b) (off := off) xs 0 #[] (by simpa using h)
  simpa [loadCells] using this
theorem oneAll_cons {v : Value} {vs : List Value} (h : oneAll (v :: vs) = true) : v.oneCell' = true ∧ oneAll vs = true := by
  cases v <;> simp [oneAll, Value.oneCell'] at h ⊢ <;> exact h
theorem splice_length {cs xs : List Value} {off : Nat} (h : off + xs.length ≤ cs.length) : (splice cs off xs).length = cs.length := by
  simp [splice]; omega
theorem splice_cons {cs xs : List Value} {off : Nat} {x : Value} (h : off + (xs.length + 1) ≤ cs.length) : splice (cs.set off x) (off + 1) xs = splice cs off (x :: xs) := by
  simp only [splice, List.length_cons]
  have hl : off < cs.length := by omega
  rw [show off + 1 + xs.length = off + (xs.length + 1) by omega]
  rw [List.drop_set_of_lt (by omega), List.take_add_one, List.take_set_of_le (by omega)]
  simp [hl]
theorem run_storeCells {b : Nat} {ty : TypeId} {fz : Nat × Nat} : ∀ (vs : List Value) (off i : Nat) (w : World) (c : Array Value), w.heap[b]? = some (.cells c ty fz) → off + i + vs.length ≤ c.size →
    (∀ o, off + i ≤ o → o < off + i + vs.length → loose fz o) → oneAll vs = true →
    ∃ w', (storeCells ⟨b, off, none⟩ vs i).run P w = .ok () w' ∧ w'.heap[b]? = some (.cells (splice c.toList (off + i) vs).toArray ty fz) ∧ w'.heap.size = w.heap.size ∧
      (∀ b', b' ≠ b → w'.heap[b']? = w.heap[b']?) ∧ w'.os = w.os ∧ w'.tape = w.tape ∧ w'.output = w.output
  | [], off, i, w, c, hc, _, _, _ => ⟨w, by simp [storeCells], by simp [splice, hc], rfl, fun _ _ => rfl, rfl, rfl, rfl⟩
  | v :: vs, off, i, w, c, hc, hl, hf, ho => by
    obtain ⟨ho1, ho2⟩ := oneAll_cons ho
    simp only [List.length_cons] at hl hf
    have hcell : w.cell? ⟨b, off + i, none⟩ = some c[off + i] := by
      simp [World.cell?, hc, Array.getElem?_eq_getElem (show off + i < c.size by omega)]
    have hfr : w.frozen? ⟨b, off + i, none⟩ = false := by
      have := hf (off + i) (Nat.le_refl _) (by omega)
      simp only [World.frozen?, hc]
      simp only [loose] at this
      simpa using this
    have hset : (w.setCell ⟨b, off + i, none⟩ v).heap[b]? = some (.cells (c.setIfInBounds (off + i) v) ty fz) := by
      simp [World.setCell, Array.getElem?_modify, hc]
    obtain ⟨w', h1, h2, h3, h4, h5, h6, h7⟩ := run_storeCells vs off (i + 1) (w.setCell ⟨b, off + i, none⟩ v) (c.setIfInBounds (off + i) v) hset (by simp; omega)
      (fun o h h' => hf o (by omega) (by omega)) ho2
    refine ⟨w', ?_, ?_, by rw [h3]; simp, fun b' hb' => ?_, h5, h6, h7⟩
    · simp only [storeCells, Sem.run_bind, add_none]
      rw [run_store _ _ _ _ _ ho1, hcell]
      simp only [hfr, Bool.false_eq_true, if_false, Result.andThen_ok]
      exact h1
    · rw [h2]
      have : (c.setIfInBounds (off + i) v).toList = c.toList.set (off + i) v := by simp
      rw [this, show off + (i + 1) = off + i + 1 by omega, splice_cons (by simp; omega)]
    · rw [h4 b' hb']
      exact RowKit.Below.heap_setCell w ⟨b, off + i, none⟩ v b' hb'
theorem run_und {t : Nat} {i : TI} (h : tiOf P t = some i) : (underlying t).run P w = .ok i.d w := by
  unfold tiOf at h
  simp only [underlying, Sem.run_bind, run_program, Result.andThen_ok]
  split at h
  · rename_i d inf hd hi
    split at h <;> cases h
    rw [hd]; rfl
  · cases h
theorem ti_info {t : Nat} {i : TI} (h : tiOf P t = some i) : ∃ inf, P.info? t = some inf ∧ inf.size = i.size ∧ inf.bytes = i.bytes ∧ inf.zero = some i.zero := by
  unfold tiOf at h
  split at h
  · rename_i d inf hd hi
    split at h <;> cases h
    exact ⟨inf, hi, rfl, rfl, ‹_›⟩
  · cases h
theorem run_info {t : Nat} {inf : TypeInfo} (h : P.info? t = some inf) : (typeInfo t).run P w = .ok inf w := by
  simp only [typeInfo, Sem.run_bind, run_program, Result.andThen_ok, h]; rfl
theorem run_size {t : Nat} {i : TI} (h : tiOf P t = some i) : (sizeOf t).run P w = .ok i.size w := by
  obtain ⟨inf, h1, h2, h3, h4⟩ := ti_info h
  simp only [sizeOf, Sem.run_bind, run_info h1, Result.andThen_ok, h2]; rfl
theorem run_zero {t : Nat} {i : TI} (h : tiOf P t = some i) : (zeroValue t).run P w = .ok i.zero w := by
  obtain ⟨inf, h1, h2, h3, h4⟩ := ti_info h
  simp only [zeroValue, Sem.run_bind, run_info h1, Result.andThen_ok, h4]; rfl
theorem run_agg {t : Nat} {i : TI} (h : tiOf P t = some i) : (isAgg t).run P w = .ok (aggT i.d) w := by
  simp only [isAgg, Sem.run_bind, run_und h, Result.andThen_ok]
  cases i.d <;> rfl
end run
end Go.Proofs.YtcfglgelckjpmaaGreatDoor
