/- Own machinery, and laws of the functions that the statement reaches (part 36). -/
import Derived.Test.YtcfglgelckjpmaaGreatDoorB25
import Derived.Shelf.SlSortFuncK.WholeK
import Derived.Shelf.Sort.Plain
import Derived.Shelf.Slices.In.SortNone2
import Derived.Shelf.GgSortFunc.Tiny
set_option linter.all false
namespace Go.Proofs.YtcfglgelckjpmaaGreatDoor
open Go.Sort
theorem loose_frozen {w : World} {b o : Nat} {c : Array Value} {ty : TypeId} {fz : Nat × Nat} (hc : w.heap[b]? = some (.cells c ty fz)) (h : loose fz o) : w.frozen? ⟨b, o, none⟩ = false := by
 simp only [World.frozen?, hc]
 simp only [loose] at h
 simpa using h
theorem holds_vec {I : Imm} {w : World} {b len cap sz : Nat} {cs : List Value} {R : List Res} (hs : Sat I R w) (hr : Res.vec (.slice (some ⟨b, 0, none⟩) len cap) sz cs ∈ R) : Holds id w b 0 cs.toArray ∧ b < w.heap.size := by
 obtain ⟨h1, h2, c, ty, fz, h3, h4, h5, h6⟩ := (hs.res _ hr).1
 refine ⟨fun j hj => ?_, Res.lt_of_holds (hs.res _ hr).1 rfl⟩
 have hj' : j < cs.length := by simpa using hj
 have hle : cs.length ≤ cap * sz := by rw [h1]; exact Nat.mul_le_mul_right _ h2
 refine ⟨?_, loose_frozen h3 (h6 _ (by omega))⟩
 rw [World.cell_of_heap h3, Nat.zero_add, h5 j hj']
 simp [hj']
theorem heap_put {w : World} {b n : Nat} {cs' : List Value} {os : Array Obj} {b' : Nat} (hb : b' < w.heap.size) (hne : b' ≠ b) : (grow (putRow id (Sort.ahead w n) b 0 cs'.toArray) os).heap[b']? = w.heap[b']? := by
 rw [heap_grow_old _ _ (by simpa using hb)]
 simp [putRow, mapBlock, Array.getElem?_modify, Ne.symm hne]
theorem step_sorted {I : Imm} {w : World} {b len cap sz n : Nat} {cs cs' : List Value} {os : Array Obj} (hs : Sat I [.vec (.slice (some ⟨b, 0, none⟩) len cap) sz cs] w) (hl : cs'.length = cs.length) :
  Step I [.vec (.slice (some ⟨b, 0, none⟩) len cap) sz cs] w I [.vec (.slice (some ⟨b, 0, none⟩) len cap) sz cs'] (grow (putRow id (Sort.ahead w n) b 0 cs'.toArray) os) := by
 have hr := (hs.res _ (List.mem_singleton.2 rfl))
 obtain ⟨h1, h2, c, ty, fz, h3, h4, h5, h6⟩ := hr.1
 have hb := Res.lt_of_holds hr.1 rfl
 have hap := hr.2 b rfl
 have hnew : (grow (putRow id (Sort.ahead w n) b 0 cs'.toArray) os).heap[b]? = some (.cells (putCells id 0 cs'.toArray c) ty fz) := by
  rw [heap_grow_old _ _ (by simpa using hb)]
  simp [putRow, mapBlock, Array.getElem?_modify, h3, onCells]
 have hne : ∀ {b' o : Nat} {x : Value}, I.c b' o = some x → b' ≠ b := fun h e => by subst e; rw [hap.1] at h; cases h
 refine ⟨.refl I, ⟨⟨fun {b' o x} h => ?_, fun {r es cl} h => ?_⟩, fun r hr' => ?_, by simp [Res.b]⟩, by simp, rfl, rfl, rfl, fun b' hb' hn => ⟨heap_put hb' fun e => ?_, fun _ => rfl, rfl⟩, fun r hr' b' e => .inl ⟨_, List.mem_singleton.2 rfl, ?_⟩⟩
 ·have hw := hs.ok.c h
  obtain ⟨c', ty', fz', he, _⟩ := World.heap_of_cell hw
  have hlt : b' < w.heap.size := by
   rcases Nat.lt_or_ge b' w.heap.size with h' | h'
   ·exact h'
   ·rw [Array.getElem?_eq_none h'] at he; cases he
  have := heap_put (n := n) (cs' := cs') (os := os) hlt (hne h)
  simp only [World.cell?, this]
  simpa [World.cell?] using hw
 ·have hw := hs.ok.m h
  have hlt : r < w.heap.size := by
   rcases Nat.lt_or_ge r w.heap.size with h' | h'
   ·exact h'
   ·rw [Array.getElem?_eq_none h'] at hw; cases hw
  rw [heap_put hlt fun e => by subst e; rw [hap.2] at h; cases h]
  exact hw
 ·obtain rfl := List.mem_singleton.1 hr'
  refine ⟨⟨by rw [hl]; exact h1, h2, _, ty, fz, hnew, by simpa [putCells] using h4, fun j hj => ?_, h6⟩, fun b' e => by cases e; exact hap⟩
  have hle : cs.length ≤ cap * sz := by rw [h1]; exact Nat.mul_le_mul_right _ h2
  simp only [putCells, Array.getElem?_mapIdx]
  rw [Array.getElem?_eq_getElem (by omega), Option.map_some, if_pos ⟨Nat.zero_le _, by simpa using hj⟩]
  simp [hj]
 ·exact hn _ (List.mem_singleton.2 rfl) (by rw [e]; rfl)
 ·obtain rfl := List.mem_singleton.1 hr'
  exact e
theorem mergeSort_map {ss : List (List UInt8)} : ∃ ss', ss'.Perm ss ∧ (ss.mergeSort fun x y => decide (x ≤ y)) = ss' := ⟨_, List.mergeSort_perm _ _, rfl⟩
theorem putRow_map {α : Type} [Inhabited α] (enc : α → Value) (w : World) (b off : Nat) (d : Array α) : putRow enc w b off d = putRow id w b off (d.map enc) := by
 unfold putRow
 refine mapBlock_congr _ _ _ _ fun c _ _ _ => ?_
 apply Array.ext_getElem?
 intro k
 simp only [putCells, Array.getElem?_mapIdx, Array.size_map]
 cases c[k]? with
 | none => rfl
 | some y =>
  simp only [Option.map_some, Option.some.injEq]
  by_cases hk : off ≤ k ∧ k < off + d.size
  ·rw [if_pos hk, if_pos hk, getElem!_pos (d.map enc) _ (by simp; omega), getElem!_pos d _ (by omega)]
   simp
  ·rw [if_neg hk, if_neg hk]
theorem holds_map {α : Type} [Inhabited α] {enc : α → Value} {w : World} {b off : Nat} {d : Array α} (h : Holds id w b off (d.map enc)) : Holds enc w b off d := fun j hj => by
 have := h j (by simpa using hj)
 rw [getElem!_pos (d.map enc) j (by simpa using hj)] at this
 rw [getElem!_pos d j hj]
 simpa using this
end Go.Proofs.YtcfglgelckjpmaaGreatDoor
