/- Own machinery, and laws of the functions that the statement reaches (part 16). -/
import Derived.Test.YtcfglgelckjpmaaGreatDoorB15
set_option linter.all false
namespace Go.Proofs.YtcfglgelckjpmaaGreatDoor
section order
variable {ms : List Nat} {all : List Oper}
inductive Anc (all : List Oper) : Nat → Nat → Prop where
  | base {i j : Nat} {x : Oper} (h : all[i]? = some x) (hj : j ∈ predsOf x) : Anc all i j
  | step {i l j : Nat} {x : Oper} (h : all[i]? = some x) (hl : l ∈ predsOf x) (ha : Anc all l j) : Anc all i j
def CrossOk (ms : List Nat) (all : List Oper) (y x : Nat) : Prop :=
  ∃ oy ox, all[y]? = some oy ∧ all[x]? = some ox ∧ mayCross ms oy ox = true ∧ Oper.apart all.toArray oy ox = true
def Topo (all : List Oper) : List Nat → List Nat → Prop
  | [], _ => True
  | i :: r, done => (∃ x, all[i]? = some x ∧ ∀ j ∈ predsOf x, j ∈ done) ∧ i ∉ done ∧ Topo all r (i :: done)
theorem maskOf_sound {done : List (Nat × Nat)} : ∀ {js : List Nat} {m : Nat}, maskOf done js = some m → (∀ j ∈ js, ∃ mj, get done j = some mj) ∧ ∀ b, m.testBit b = true → ∃ j ∈ js, b = j ∨ ∃ mj, get done j = some mj ∧ mj.testBit b = true
  | [], m, h => by
    simp only [maskOf, Option.some.injEq] at h
    subst h
    exact ⟨by simp, fun b hb => by simp at hb⟩
  | j :: js, m, h => by
    simp only [maskOf] at h
    split at h
    · rename_i mj r h1 h2
      simp only [Option.some.injEq] at h
      subst h
      obtain ⟨g1, g2⟩ := maskOf_sound h2
      refine ⟨fun i hi => ?_, fun b hb => ?_⟩
      · rcases List.mem_cons.1 hi with rfl | hi
        · exact ⟨mj, h1⟩
        · exact g1 i hi
      · simp only [Nat.testBit_or, Bool.or_eq_true] at hb
        rcases hb with (hb | hb) | hb
        · exact ⟨j, by simp, .inr ⟨mj, h1, hb⟩⟩
        · refine ⟨j, by simp, .inl ?_⟩
          rw [Nat.testBit_two_pow] at hb
          exact (by simpa using hb : j = b).symm
        · obtain ⟨l, hl, h3⟩ := g2 b hb
          exact ⟨l, by simp [hl], h3⟩
    · cases h
theorem get_none_of_srt {α : Type} {l : List (Nat × α)} (hs : Srt l) {t : Nat} (h : get l t = none) : t ∉ l.map Prod.fst := by
  induction l with
  | nil => simp
  | cons x r ih =>
    obtain ⟨s, u⟩ := x
    obtain ⟨h1, h2⟩ := List.pairwise_cons.1 hs
    rw [get_cons] at h
    split at h
    · cases h
    · rename_i hne
      simp only [List.map_cons, List.mem_cons, not_or]
      refine ⟨hne, ?_⟩
      split at h
      · rename_i hlt
        intro hm
        obtain ⟨y, hy, e⟩ := List.mem_map.1 hm
        have := h1 y hy
        simp only at this
        omega
      · exact ih h2 h
theorem mem_keys_ins {α : Type} {t i : Nat} {v : α} {l : List (Nat × α)} : i ∈ (ins t v l).map Prod.fst ↔ i = t ∨ i ∈ l.map Prod.fst := by
  induction l with
  | nil => simp [ins]
  | cons x r ih =>
    obtain ⟨s, u⟩ := x
    rw [ins_cons]
    split
    · subst_vars; simp
    · split
      · simp
      · simp only [List.map_cons, List.mem_cons, ih]
        constructor
        · rintro (h | h | h) <;> simp [h]
        · rintro (h | h | h) <;> simp [h]
theorem get_of_mem {α : Type} {l : List (Nat × α)} (hs : Srt l) {t : Nat} {v : α} (h : (t, v) ∈ l) : get l t = some v := by
  induction l with
  | nil => simp at h
  | cons x r ih =>
    obtain ⟨s, u⟩ := x
    obtain ⟨h1, h2⟩ := List.pairwise_cons.1 hs
    rw [get_cons]
    rcases List.mem_cons.1 h with e | hm
    · cases e; simp
    · have := h1 _ hm
      simp only at this
      rw [if_neg (by omega), if_neg (by omega)]
      exact ih h2 hm
def Masked (all : List Oper) (done : List (Nat × Nat)) : Prop := ∀ i m, get done i = some m → ∀ j, m.testBit j = true → Anc all i j
theorem crossAll_sound {x : Oper} {i m : Nat} (hx : all[i]? = some x) (hm : ∀ j, m.testBit j = true → Anc all i j) : ∀ {done : List (Nat × Nat)}, crossAll ms all x m done = true → ∀ j ∈ done.map Prod.fst, Anc all i j ∨ CrossOk ms all j i
  | [], _, j, hj => by simp at hj
  | (k, u) :: r, h, j, hj => by
    simp only [crossAll, Bool.and_eq_true, Bool.or_eq_true] at h
    simp only [List.map_cons, List.mem_cons] at hj
    rcases hj with rfl | hj
    · rcases h.1 with h1 | h1
      · exact .inl (hm _ h1)
      · split at h1
        · rename_i y hy
          simp only [Bool.and_eq_true] at h1
          exact .inr ⟨y, x, hy, hx, h1.1, h1.2⟩
        · cases h1
    · exact crossAll_sound hx hm h.2 j hj
theorem hasAll_sound {done : List (Nat × Nat)} : ∀ {n : Nat}, hasAll n done = true → ∀ i, i < n → i ∈ done.map Prod.fst
  | 0, _, i, hi => by omega
  | n + 1, h, i, hi => by
    simp only [hasAll] at h
    split at h
    · rename_i m hm
      by_cases hin : i = n
      · subst hin; exact List.mem_map.2 ⟨_, get_mem hm, rfl⟩
      · exact hasAll_sound h i (by omega)
    · cases h
theorem topo_mono : ∀ {r d d' : List Nat}, Topo all r d → (∀ k, k ∈ d ↔ k ∈ d') → Topo all r d'
  | [], _, _, _, _ => trivial
  | i :: r, d, d', h, hd => ⟨by
      obtain ⟨x, hx, hp⟩ := h.1
      exact ⟨x, hx, fun j hj => (hd j).1 (hp j hj)⟩, fun hm => h.2.1 ((hd i).2 hm), topo_mono h.2.2 fun k => by simp [hd k]⟩
theorem okOrd_sound : ∀ {r : List Nat} {done : List (Nat × Nat)}, Srt done → Masked all done → okOrd ms all r done = true →
    (∀ y ∈ done.map Prod.fst, ∀ x ∈ r, Anc all x y ∨ CrossOk ms all y x) ∧ r.Pairwise (fun y x => Anc all x y ∨ CrossOk ms all y x) ∧ Topo all r (done.map Prod.fst) ∧ ∀ i, i < all.length → i ∈ r ∨ i ∈ done.map Prod.fst
  | [], done, _, _, h => ⟨by simp, .nil, trivial, fun i hi => .inr (hasAll_sound h i hi)⟩
  | i :: r, done, hs, hm, h => by
    simp only [okOrd] at h
    split at h
    · rename_i x hx
      split at h
      · rename_i m hg hmask
        simp only [Bool.and_eq_true] at h
        obtain ⟨hm1, hm2⟩ := maskOf_sound hmask
        have hanc : ∀ j, m.testBit j = true → Anc all i j := fun j hj => by
          obtain ⟨l, hl, h1⟩ := hm2 j hj
          rcases h1 with rfl | ⟨mj, h1, h2⟩
          · exact .base hx hl
          · exact .step hx hl (hm _ _ h1 _ h2)
        have hmask' : Masked all (ins i m done) := fun k u hk j hj => by
          rw [get_ins] at hk
          split at hk
          · subst_vars; cases hk; exact hanc j hj
          · exact hm _ _ hk _ hj
        obtain ⟨g1, g2, g3, g4⟩ := okOrd_sound hs.ins hmask' h.2
        have hno := get_none_of_srt hs hg
        refine ⟨fun y hy z hz => ?_, List.pairwise_cons.2 ⟨fun z hz => g1 i (mem_keys_ins.2 (.inl rfl)) z hz, g2⟩, ⟨⟨x, hx, fun j hj => ?_⟩, hno, ?_⟩, fun k hk => ?_⟩
        · rcases List.mem_cons.1 hz with rfl | hz
          · exact crossAll_sound hx hanc h.1 y hy
          · exact g1 y (mem_keys_ins.2 (.inr hy)) z hz
        · obtain ⟨mj, h1⟩ := hm1 j hj
          exact List.mem_map.2 ⟨_, get_mem h1, rfl⟩
        · exact topo_mono g3 (fun k => by rw [mem_keys_ins]; simp)
        · rcases g4 k hk with h1 | h1
          · exact .inl (by simp [h1])
          · rcases mem_keys_ins.1 h1 with rfl | h1
            · exact .inl (by simp)
            · exact .inr h1
      · cases h
    · cases h
theorem topo_not : ∀ {p done : List Nat} {i : Nat} {q : List Nat}, ¬ Topo all (p ++ i :: q) (i :: done)
  | [], done, i, q, h => h.2.1 (by simp)
  | y :: p, done, i, q, h => topo_not (p := p) (done := y :: done) (i := i) (q := q) (topo_mono h.2.2 fun k => by simp [or_left_comm])
theorem topo_front {i : Nat} {q : List Nat} : ∀ {p done : List Nat}, Topo all (p ++ i :: q) done → Topo all (p ++ q) (i :: done)
  | [], done, h => h.2.2
  | y :: p, done, h => by
    obtain ⟨⟨x, hx, hp⟩, hy, h3⟩ := h
    have hne : y ≠ i := fun e => by
      subst e
      exact topo_not h3
    refine ⟨⟨x, hx, fun j hj => by simp [hp j hj]⟩, by simp [hy, hne], topo_mono (topo_front h3) fun k => by simp [or_left_comm]⟩
theorem topo_nodup : ∀ {r done : List Nat}, Topo all r done → r.Nodup
  | [], _, _ => .nil
  | i :: r, done, h => List.nodup_cons.2 ⟨fun hm => by
      obtain ⟨p, q, rfl⟩ := List.append_of_mem hm
      exact topo_not h.2.2, topo_nodup h.2.2⟩
end order
end Go.Proofs.YtcfglgelckjpmaaGreatDoor
