/- Own machinery, and laws of the functions that the statement reaches (part 50). -/
import Derived.Test.YtcfglgelckjpmaaGreatDoorB44
import Derived.Test.YtcfglgelckjpmaaGreatDoorB47
set_option linter.all false
namespace Go.Proofs.YtcfglgelckjpmaaGreatDoor
open Go.ChangeShapes Go.WideShapes Go.ChangeAt Go.RowKit
set_option maxRecDepth 100000
set_option maxHeartbeats 1000000
theorem c2 : Tryz.prog.cellsOf 43 = 1 ∧ Tryz.prog.cellsOf 44 = 1 ∧ Tryz.prog.cellsOf 2 = 1 ∧ Tryz.prog.cellsOf 45 = 1 ∧ Tryz.prog.cellsOf 47 = 10 ∧ Tryz.prog.cellsOf 4 = 1 ∧ Tryz.prog.cellsOf 53 = 1 ∧ Tryz.prog.cellsOf 54 = 1 ∧ Tryz.prog.cellsOf 56 = 6 ∧ Tryz.prog.cellsOf 177 = 7 ∧ Tryz.prog.cellsOf 22 = 1 :=
 ⟨by kernel_rfl, by kernel_rfl, by kernel_rfl, by kernel_rfl, by kernel_rfl, by kernel_rfl, by kernel_rfl, by kernel_rfl, by kernel_rfl, by kernel_rfl, by kernel_rfl⟩
theorem list10 {α : Type} {l : List α} (h : l.length = 10) : ∃ a b c d e f g h i j, l = [a, b, c, d, e, f, g, h, i, j] := by
 match l, h with
 | [a, b, c, d, e, f, g, h, i, j], _ => exact ⟨a, b, c, d, e, f, g, h, i, j, rfl⟩
section oq
variable {H : Type} {enc : TypeId × Value → H} {W : World} {base : Nat} {held : Bool} {fuel : Nat} {cs : List Value} {x : DataW H × List MemPlace}
theorem open_texts {B : Nat} (hB2 : B < 1099511627776) (h : DataW.trod enc Tryz.prog W base (fun _ => true) held fuel 45 cs = some x) (hB : Rows.uptoBulk x.1 ≤ B) : ∃ l v, cs = [v] ∧ Row 1 StrRep (imW W) l v := by
 obtain ⟨l, v, e, h1, _⟩ := open_row (α := List UInt8) (Rp := StrRep) Tryz.underlying45 c1.1 (by decide) (fun n' c z _ hz hb => by
  obtain ⟨t, rfl, ht⟩ := open_text hz hb
  exact ⟨t, rfl, by omega⟩) h hB hB2
 exact ⟨l, v, e, h1⟩
theorem open_open {B : Nat} (hB2 : B < 1099511627776) (h : DataW.trod enc Tryz.prog W base (fun _ => true) held fuel 47 cs = some x) (hB : Rows.uptoBulk x.1 ≤ B) : ∃ o z, OpenArg (imW W) o z cs ∧ (0 ≤ z → o.idle = z.toNat) := by
 obtain ⟨q9, _, _, q25, _⟩ := c1
 obtain ⟨q43, q44, q2, q45, q47, _⟩ := c2
 obtain ⟨xs, n, rfl, rfl, hcl, hxl, hf⟩ := DataW.trod_struct Tryz.underlying47 h
 rw [q47] at hcl
 obtain ⟨a0, a1, a2, a3, a4, a5, a6, a7, a8, a9, rfl⟩ := list10 hcl
 have hxl' : xs.length = 10 := hxl
 obtain ⟨z0, e0, b0⟩ := kidAt hxl' hB (i := 0) (by decide)
 obtain ⟨z1, e1, b1⟩ := kidAt hxl' hB (i := 1) (by decide)
 obtain ⟨z2, e2, b2⟩ := kidAt hxl' hB (i := 2) (by decide)
 obtain ⟨z3, e3, b3⟩ := kidAt hxl' hB (i := 3) (by decide)
 obtain ⟨z4, e4, b4⟩ := kidAt hxl' hB (i := 4) (by decide)
 obtain ⟨z5, e5, b5⟩ := kidAt hxl' hB (i := 5) (by decide)
 obtain ⟨z6, e6, b6⟩ := kidAt hxl' hB (i := 6) (by decide)
 obtain ⟨z7, e7, b7⟩ := kidAt hxl' hB (i := 7) (by decide)
 obtain ⟨z8, e8, b8⟩ := kidAt hxl' hB (i := 8) (by decide)
 obtain ⟨z9, e9, b9⟩ := kidAt hxl' hB (i := 9) (by decide)
 have f0 : DataW.trod enc Tryz.prog W base (fun _ => true) held n 9 ([a0, a1, a2, a3, a4, a5, a6, a7, a8, a9].take (Tryz.prog.cellsOf 9)) = xs[0]? := hf 0 _ rfl
 rw [q9, e0] at f0
 have f1 : DataW.trod enc Tryz.prog W base (fun _ => true) held n 9 ([a1, a2, a3, a4, a5, a6, a7, a8, a9].take (Tryz.prog.cellsOf 9)) = xs[1]? := hf 1 _ rfl
 rw [q9, e1] at f1
 have f2 : DataW.trod enc Tryz.prog W base (fun _ => true) held n 43 ([a2, a3, a4, a5, a6, a7, a8, a9].take (Tryz.prog.cellsOf 43)) = xs[2]? := hf 2 _ rfl
 rw [q43, e2] at f2
 have f3 : DataW.trod enc Tryz.prog W base (fun _ => true) held n 44 ([a3, a4, a5, a6, a7, a8, a9].take (Tryz.prog.cellsOf 44)) = xs[3]? := hf 3 _ rfl
 rw [q44, e3] at f3
 have f4 : DataW.trod enc Tryz.prog W base (fun _ => true) held n 2 ([a4, a5, a6, a7, a8, a9].take (Tryz.prog.cellsOf 2)) = xs[4]? := hf 4 _ rfl
 rw [q2, e4] at f4
 have f5 : DataW.trod enc Tryz.prog W base (fun _ => true) held n 45 ([a5, a6, a7, a8, a9].take (Tryz.prog.cellsOf 45)) = xs[5]? := hf 5 _ rfl
 rw [q45, e5] at f5
 have f6 : DataW.trod enc Tryz.prog W base (fun _ => true) held n 45 ([a6, a7, a8, a9].take (Tryz.prog.cellsOf 45)) = xs[6]? := hf 6 _ rfl
 rw [q45, e6] at f6
 have f7 : DataW.trod enc Tryz.prog W base (fun _ => true) held n 45 ([a7, a8, a9].take (Tryz.prog.cellsOf 45)) = xs[7]? := hf 7 _ rfl
 rw [q45, e7] at f7
 have f8 : DataW.trod enc Tryz.prog W base (fun _ => true) held n 45 ([a8, a9].take (Tryz.prog.cellsOf 45)) = xs[8]? := hf 8 _ rfl
 rw [q45, e8] at f8
 have f9 : DataW.trod enc Tryz.prog W base (fun _ => true) held n 25 ([a9].take (Tryz.prog.cellsOf 25)) = xs[9]? := hf 9 _ rfl
 rw [q25, e9] at f9
 obtain ⟨t0, g0, t0l⟩ := open_text f0 b0
 obtain ⟨t1, g1, t1l⟩ := open_text f1 b1
 obtain ⟨m2, g2, m2l⟩ := open_u 4294967295 ⟨rfl, rfl⟩ Tryz.underlying43 f2
 obtain ⟨m3, g3, m3l⟩ := open_u 65535 ⟨rfl, rfl⟩ Tryz.underlying44 f3
 obtain ⟨z, g4, z1, z2⟩ := open_i64 Tryz.underlying2 f4
 obtain ⟨l5, v5, g5, r5⟩ := open_texts hB2 f5 b5
 obtain ⟨l6, v6, g6, r6⟩ := open_texts hB2 f6 b6
 obtain ⟨l7, v7, g7, r7⟩ := open_texts hB2 f7 b7
 obtain ⟨l8, v8, g8, r8⟩ := open_texts hB2 f8 b8
 obtain ⟨l9, v9, g9, r9⟩ := open_values hB2 f9 b9
 simp only [List.take_succ_cons, List.take_zero, List.cons.injEq, and_true] at g0 g1 g2 g3 g4 g5 g6 g7 g8 g9
 subst g0 g1 g2 g3 g4 g5 g6 g7 g8 g9
 exact ⟨⟨t0, t1, m2, m3, z.toNat, l5, l6, l7, l8, l9⟩, z, ⟨_, _, _, _, _, rfl, by simp only; omega, by simp only; omega, by simp only; omega, by simp only; omega, ⟨z1, z2⟩, r5, r6, r7, r8, r9⟩, fun _ => rfl⟩
end oq
end Go.Proofs.YtcfglgelckjpmaaGreatDoor
