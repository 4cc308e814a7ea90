/- Own machinery, and laws of the functions that the statement reaches (part 49). -/
import Derived.Test.YtcfglgelckjpmaaGreatDoorB26
import Derived.Test.YtcfglgelckjpmaaGreatDoorB37
import Derived.Test.YtcfglgelckjpmaaGreatDoorB44
import Derived.Shelf.Unicode.ValidAny
import Derived.Lib.LaidIn
import Derived.Lib.LaidU8T
set_option linter.all false
namespace Go.Proofs.YtcfglgelckjpmaaGreatDoor
open Go.Shelf Go.Lib Go.RowKit
set_option maxRecDepth 100000
set_option maxHeartbeats 1000000
theorem step_of_below {I : Imm} {w w' : World} (hs : Sat I [] w) (h : Below w.heap.size w w') : Step I [] w I [] w' := by
 have old : ∀ {b : Nat} {o : Obj}, w.heap[b]? = some o → b < w.heap.size := fun h => by
  rcases Nat.lt_or_ge _ w.heap.size with h' | h'
  ·exact h'
  ·rw [Array.getElem?_eq_none h'] at h; cases h
 refine ⟨.refl I, ⟨⟨fun {b o v} hc => ?_, fun {r es cl} hm => ?_⟩, by simp, by simp⟩, h.size, h.os, h.tape, h.output, fun b hb _ => ⟨h.block b hb, fun _ => rfl, rfl⟩, by simp⟩
 ·have h1 := hs.ok.c hc
  obtain ⟨c, ty, fz, he, _⟩ := World.heap_of_cell h1
  rw [h.cell (p := ⟨b, o, none⟩) (old he)]
  exact h1
 ·have h1 := hs.ok.m hm
  rw [h.block _ (old h1)]
  exact h1
theorem utf_of {W : World} (hT : Lib.Utf8Tabs (Tryz.lays196_ren.g 3) (Tryz.lays196_ren.g 4) W) : Utf (imW W) := by
 intro J hJ t Q ht h
 refine ⟨fun w => enters_of Tryz.func180 (by kernel_rfl) rfl _ w, fun w hs => ?_⟩
 have hs' : Sat J [] w := hs
 have hTw : Lib.Utf8Tabs (Tryz.lays196_ren.g 3) (Tryz.lays196_ren.g 4) w := by
  obtain ⟨h1, h2⟩ := hT
  exact ⟨fun c hc => hs'.ok.c (hJ.c (h1 c hc)), fun i hi => ⟨hs'.ok.c (hJ.c (h2 i hi).1), hs'.ok.c (hJ.c (h2 i hi).2)⟩⟩
 have hsz : (⟨t.toArray⟩ : ByteArray).size = t.length := by simp [ByteArray.size]
 refine (Any.utf8_ValidString Tryz.lays196 ⟨t.toArray⟩ w (by rw [hsz]; omega) hTw).mono ?_
 rintro e w' ⟨rfl, hb⟩
 exact ⟨_, [], [], J, rfl, rfl, step_of_below hs' hb, h⟩
theorem firstEq : Go.Pinned.utf8First = Lib.firstData := by kernel_rfl
theorem accEq : (Rows.laid_unicode_utf8_acceptRanges : DataW Unit) = Lib.acceptData := by kernel_rfl
end Go.Proofs.YtcfglgelckjpmaaGreatDoor
