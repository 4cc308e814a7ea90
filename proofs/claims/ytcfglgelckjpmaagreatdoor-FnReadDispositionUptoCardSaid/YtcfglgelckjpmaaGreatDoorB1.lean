/- Own machinery, and laws of the functions that the statement reaches (part 1). -/
import Derived.Calls
import Derived.Orders
import Derived.Below
set_option linter.all false
namespace Go.Proofs.YtcfglgelckjpmaaGreatDoor
structure Imm where
  c : Nat → Nat → Option Value
  m : Nat → Option (Array MapEntry × Nat)
  /-- there is room for more -/
  room : ∃ n, ∀ b, n ≤ b → (∀ o, c b o = none) ∧ m b = none
structure Imm.le (I J : Imm) : Prop where
  c : ∀ {b o v}, I.c b o = some v → J.c b o = some v
  m : ∀ {r x}, I.m r = some x → J.m r = some x
theorem Imm.le.refl (I : Imm) : I.le I := ⟨id, id⟩
theorem Imm.le.trans {I J K : Imm} (h : I.le J) (k : J.le K) : I.le K := ⟨fun x => k.c (h.c x), fun x => k.m (h.m x)⟩
structure Imm.ok (I : Imm) (w : World) : Prop where
  c : ∀ {b o v}, I.c b o = some v → w.cell? ⟨b, o, none⟩ = some v
  m : ∀ {r es cl}, I.m r = some (es, cl) → w.heap[r]? = some (.map es cl)
def CellsAt (I : Imm) (b off : Nat) (xs : List Value) : Prop := ∀ (j : Nat) (x : Value), xs[j]? = some x → I.c b (off + j) = some x
inductive Res where
  | blk (b : Nat) (cs : List Value)
  | vec (v : Value) (sz : Nat) (cs : List Value)
  | map (r : Nat) (es : Array MapEntry) (cl : Nat)
  | lmap (r : Nat) (kvs : List (Nat × Nat))
  | iter (r : Nat) (m : Option Nat) (since : Nat) (seen : Array Nat) (stepped : Nat)
def Res.b : Res → Option Nat
  | .blk b _ => some b
  | .vec (.slice (some a) _ _) _ _ => some a.block
  | .vec _ _ _ => none
  | .map r _ _ => some r
  | .lmap r _ => some r
  | .iter r _ _ _ _ => some r
def loose (fz : Nat × Nat) (o : Nat) : Prop := ¬ (fz.1 ≤ o ∧ o < fz.2)
def vecHolds (w : World) (sz : Nat) (cs : List Value) : Value → Prop
  | .slice (some ⟨b, 0, none⟩) len cap => cs.length = len * sz ∧ len ≤ cap ∧
      ∃ c ty fz, w.heap[b]? = some (.cells c ty fz) ∧ cap * sz ≤ c.size ∧ (∀ j, j < cs.length → c[j]? = cs[j]?) ∧ ∀ o, o < cap * sz → loose fz o
  | .slice none len cap => len = 0 ∧ cap = 0 ∧ cs = []
  | _ => False
def numKv (kv : Nat × Nat) : Value × Value := (.int .i64 kv.1, .int .i64 kv.2)
def Res.holds (w : World) : Res → Prop
  | .blk b cs => ∃ ty fz, w.heap[b]? = some (.cells cs.toArray ty fz) ∧ ∀ o, o < cs.length → loose fz o
  | .vec v sz cs => vecHolds w sz cs v
  | .map r es cl => w.heap[r]? = some (.map es cl)
  | .lmap r kvs => ∃ es cl, w.heap[r]? = some (.map es cl) ∧ (es.toList.map fun e => (e.key, e.val)).Perm (kvs.map numKv) ∧ (kvs.map Prod.fst).Nodup
  | .iter r m since seen stepped => w.heap[r]? = some (.mapIter m since seen stepped)
def Res.apart (I : Imm) (r : Res) : Prop := ∀ b, r.b = some b → (∀ o, I.c b o = none) ∧ I.m b = none
theorem World.heap_of_cell {w : World} {b o : Nat} {v : Value} (h : w.cell? ⟨b, o, none⟩ = some v) : ∃ c ty fz, w.heap[b]? = some (.cells c ty fz) ∧ c[o]? = some v := by
  simp only [World.cell?] at h
  split at h
  · rename_i c ty fz he
    exact ⟨c, ty, fz, he, by simpa using h⟩
  · simp at h
theorem World.cell_of_heap {w : World} {b o : Nat} {c : Array Value} {ty : TypeId} {fz : Nat × Nat} (h : w.heap[b]? = some (.cells c ty fz)) : w.cell? ⟨b, o, none⟩ = c[o]? := by
  simp [World.cell?, h]
structure Sat (I : Imm) (Rs : List Res) (w : World) : Prop where
  ok : I.ok w
  res : ∀ r ∈ Rs, r.holds w ∧ r.apart I
  nodup : (Rs.filterMap Res.b).Nodup
theorem Res.lt_of_holds {r : Res} {w : World} {b : Nat} (h : r.holds w) (hb : r.b = some b) : b < w.heap.size := by
  have aux : ∀ {o}, w.heap[b]? = some o → b < w.heap.size := fun h => by
    rcases Nat.lt_or_ge b w.heap.size with h' | h'
    · exact h'
    · simp [Array.getElem?_eq_none h'] at h
  cases r with
  | blk b' cs => obtain ⟨ty, fz, h, _⟩ := h; cases hb; exact aux h
  | vec v sz cs =>
    simp only [Res.holds] at h
    cases v <;> try (simp [Res.b] at hb; done)
    rename_i a len cap
    cases a with
    | none => simp [Res.b] at hb
    | some a =>
      obtain ⟨b', off, spot⟩ := a
      simp only [Res.b, Option.some.injEq] at hb
      subst hb
      cases spot <;> cases off <;> simp only [vecHolds] at h
      obtain ⟨_, _, c, ty, fz, h, _⟩ := h
      exact aux h
  | map r es cl => cases hb; exact aux h
  | lmap r kvs => obtain ⟨es, cl, h, _⟩ := h; cases hb; exact aux h
  | iter r m s se st => cases hb; exact aux h
theorem Res.holds_of_block {r : Res} {w w' : World} (h : r.holds w) (hb : ∀ b, r.b = some b → w'.heap[b]? = w.heap[b]?) : r.holds w' := by
  cases r with
  | blk b cs => obtain ⟨ty, fz, h, hf⟩ := h; exact ⟨ty, fz, by rw [hb b rfl]; exact h, hf⟩
  | vec v sz cs =>
    simp only [Res.holds] at *
    cases v <;> try (simp only [vecHolds] at h; done)
    rename_i a len cap
    cases a with
    | none => simpa only [vecHolds] using h
    | some a =>
      obtain ⟨b', off, spot⟩ := a
      cases spot <;> cases off <;> simp only [vecHolds] at h ⊢
      obtain ⟨h1, h2, c, ty, fz, h3, h4⟩ := h
      exact ⟨h1, h2, c, ty, fz, by rw [hb b' rfl]; exact h3, h4⟩
  | map r es cl => simp only [Res.holds] at *; rw [hb r rfl]; exact h
  | lmap r kvs => obtain ⟨es, cl, h, hr⟩ := h; exact ⟨es, cl, by rw [hb r rfl]; exact h, hr⟩
  | iter r m s se st => simp only [Res.holds] at *; rw [hb r rfl]; exact h
structure Step (I : Imm) (Rs : List Res) (w : World) (I' : Imm) (Rs' : List Res) (w' : World) : Prop where
  le : I.le I'
  sat : Sat I' Rs' w'
  size : w.heap.size ≤ w'.heap.size
  os : w'.os = w.os
  tape : w'.tape = w.tape
  output : w'.output = w.output
  frame : ∀ b, b < w.heap.size → (∀ r ∈ Rs, r.b ≠ some b) → w'.heap[b]? = w.heap[b]? ∧ (∀ o, I'.c b o = I.c b o) ∧ I'.m b = I.m b
  own : ∀ r ∈ Rs', ∀ b, r.b = some b → (∃ r₀ ∈ Rs, r₀.b = some b) ∨ w.heap.size ≤ b
theorem Step.refl {I : Imm} {Rs : List Res} {w : World} (h : Sat I Rs w) : Step I Rs w I Rs w :=
  ⟨.refl I, h, Nat.le_refl _, rfl, rfl, rfl, fun _ _ _ => ⟨rfl, fun _ => rfl, rfl⟩, fun r hr _ hb => .inl ⟨r, hr, hb⟩⟩
theorem Step.trans {I I₁ I₂ : Imm} {Rs R₁ R₂ : List Res} {w w₁ w₂ : World} (h : Step I Rs w I₁ R₁ w₁) (k : Step I₁ R₁ w₁ I₂ R₂ w₂) : Step I Rs w I₂ R₂ w₂ := {
  le := h.le.trans k.le
  sat := k.sat
  size := Nat.le_trans h.size k.size
  os := k.os.trans h.os
  tape := k.tape.trans h.tape
  output := k.output.trans h.output
  frame := fun b hb hr => by
    have h1 := h.frame b hb hr
    have h2 := k.frame b (Nat.lt_of_lt_of_le hb h.size) (fun r hr' e => by
      rcases h.own r hr' b e with ⟨r₀, h0, e0⟩ | hge
      · exact hr r₀ h0 e0
      · omega)
    exact ⟨h2.1.trans h1.1, fun o => (h2.2.1 o).trans (h1.2.1 o), h2.2.2.trans h1.2.2⟩
  own := fun r hr b e => by
    rcases k.own r hr b e with ⟨r₁, h1, e1⟩ | hge
    · exact h.own r₁ h1 b e1
    · exact .inr (Nat.le_trans h.size hge) }
theorem Sat.perm {I : Imm} {Rs Rs' : List Res} {w : World} (h : Sat I Rs w) (p : List.Perm Rs Rs') : Sat I Rs' w :=
  ⟨h.ok, fun r hr => h.res r (p.mem_iff.2 hr), (p.filterMap _).nodup_iff.1 h.nodup⟩
theorem Sat.sub {I : Imm} {Rs Rs' : List Res} {w : World} (h : Sat I Rs w) (p : List.Sublist Rs' Rs) : Sat I Rs' w :=
  ⟨h.ok, fun r hr => h.res r (p.subset hr), (p.filterMap _).nodup h.nodup⟩
theorem Step.perm_right {I I' : Imm} {Rs R₁ R₂ : List Res} {w w' : World} (h : Step I Rs w I' R₁ w') (p : List.Perm R₁ R₂) : Step I Rs w I' R₂ w' :=
  { h with sat := h.sat.perm p, own := fun r hr => h.own r (p.mem_iff.2 hr) }
theorem Step.sub_right {I I' : Imm} {Rs R₁ R₂ : List Res} {w w' : World} (h : Step I Rs w I' R₁ w') (p : List.Sublist R₂ R₁) : Step I Rs w I' R₂ w' :=
  { h with sat := h.sat.sub p, own := fun r hr => h.own r (p.subset hr) }
theorem Step.perm_left {I I' : Imm} {Rs R₁ R₂ : List Res} {w w' : World} (h : Step I R₁ w I' Rs w') (p : List.Perm R₁ R₂) : Step I R₂ w I' Rs w' :=
  { h with frame := fun b hb hr => h.frame b hb (fun r h' => hr r (p.mem_iff.1 h')),
           own := fun r hr b e => (h.own r hr b e).imp (fun ⟨r₀, h0, e0⟩ => ⟨r₀, p.mem_iff.1 h0, e0⟩) id }
theorem Step.sub_left {I I' : Imm} {Rs R₁ R₂ : List Res} {w w' : World} (h : Step I R₁ w I' Rs w') (p : List.Sublist R₁ R₂) : Step I R₂ w I' Rs w' :=
  { h with frame := fun b hb hr => h.frame b hb (fun r h' => hr r (p.subset h')),
           own := fun r hr b e => (h.own r hr b e).imp (fun ⟨r₀, h0, e0⟩ => ⟨r₀, p.subset h0, e0⟩) id }
theorem Step.framed {I I' : Imm} {Rs Rs' F : List Res} {w w' : World} (hs : Sat I (Rs ++ F) w) (h : Step I Rs w I' Rs' w') : Step I (Rs ++ F) w I' (Rs' ++ F) w' := by
  have hF : ∀ r ∈ F, ∀ b, r.b = some b → b < w.heap.size ∧ ∀ r₀ ∈ Rs, r₀.b ≠ some b := fun r hr b e => by
    refine ⟨Res.lt_of_holds (hs.res r (List.mem_append_right _ hr)).1 e, fun r₀ h0 e0 => ?_⟩
    have hn := hs.nodup
    rw [List.filterMap_append, List.nodup_append] at hn
    exact hn.2.2 b (List.mem_filterMap.2 ⟨r₀, h0, e0⟩) b (List.mem_filterMap.2 ⟨r, hr, e⟩) rfl
  refine { h with sat := ⟨h.sat.ok, fun r hr => ?_, ?_⟩, frame := fun b hb hr => h.frame b hb (fun r h' => hr r (List.mem_append_left _ h')), own := fun r hr b e => ?_ }
  · rcases List.mem_append.1 hr with hr | hr
    · exact h.sat.res r hr
    · have h0 := hs.res r (List.mem_append_right _ hr)
      refine ⟨Res.holds_of_block h0.1 fun b e => (h.frame b (hF r hr b e).1 (hF r hr b e).2).1, fun b e => ?_⟩
      have hf := h.frame b (hF r hr b e).1 (hF r hr b e).2
      exact ⟨fun o => (hf.2.1 o).trans ((h0.2 b e).1 o), hf.2.2.trans (h0.2 b e).2⟩
  · rw [List.filterMap_append, List.nodup_append]
    refine ⟨h.sat.nodup, ?_, ?_⟩
    · have hn := hs.nodup
      rw [List.filterMap_append, List.nodup_append] at hn
      exact hn.2.1
    · intro b hb b' hb' e
      subst e
      obtain ⟨r, hr, e⟩ := List.mem_filterMap.1 hb
      obtain ⟨r', hr', e'⟩ := List.mem_filterMap.1 hb'
      rcases h.own r hr b e with ⟨r₀, h0, e0⟩ | hge
      · exact (hF r' hr' b e').2 r₀ h0 e0
      · have := (hF r' hr' b e').1
        omega
  · rcases List.mem_append.1 hr with hr | hr
    · exact (h.own r hr b e).imp (fun ⟨r₀, h0, e0⟩ => ⟨r₀, List.mem_append_left _ h0, e0⟩) id
    · exact .inl ⟨r, List.mem_append_right _ hr, e⟩
theorem Step.below {I I' : Imm} {Rs' : List Res} {w w' : World} (h : Step I [] w I' Rs' w') : RowKit.Below w.heap.size w w' :=
  ⟨h.os, h.tape, h.output, h.size, fun k hk => (h.frame k hk (fun _ hr => by cases hr)).1⟩
end Go.Proofs.YtcfglgelckjpmaaGreatDoor
