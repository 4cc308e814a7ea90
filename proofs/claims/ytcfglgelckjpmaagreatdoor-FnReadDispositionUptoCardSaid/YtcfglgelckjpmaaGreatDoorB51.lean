/- Own machinery, and laws of the functions that the statement reaches (part 51). -/
import Derived.Test.YtcfglgelckjpmaaGreatDoorB44
import Derived.Test.YtcfglgelckjpmaaGreatDoorB48
set_option linter.all false
namespace Go.Proofs.YtcfglgelckjpmaaGreatDoor
open Go.ChangeShapes Go.WideShapes Go.ChangeAt Go.RowKit
set_option maxRecDepth 100000
set_option maxHeartbeats 1000000
instance : Inhabited StateD := ⟨⟨0, 0, 0, [], false, false, []⟩⟩
theorem c2 : Tryz.prog.cellsOf 43 = 1 ∧ Tryz.prog.cellsOf 44 = 1 ∧ Tryz.prog.cellsOf 2 = 1 ∧ Tryz.prog.cellsOf 45 = 1 ∧ Tryz.prog.cellsOf 47 = 10 ∧ Tryz.prog.cellsOf 4 = 1 ∧ Tryz.prog.cellsOf 53 = 1 ∧ Tryz.prog.cellsOf 54 = 1 ∧ Tryz.prog.cellsOf 56 = 6 ∧ Tryz.prog.cellsOf 177 = 7 ∧ Tryz.prog.cellsOf 22 = 1 :=
 ⟨by kernel_rfl, by kernel_rfl, by kernel_rfl, by kernel_rfl, by kernel_rfl, by kernel_rfl, by kernel_rfl, by kernel_rfl, by kernel_rfl, by kernel_rfl, by kernel_rfl⟩
theorem list7 {α : Type} {l : List α} (h : l.length = 7) : ∃ a b c d e f g, l = [a, b, c, d, e, f, g] := by
 match l, h with
 | [a, b, c, d, e, f, g], _ => exact ⟨a, b, c, d, e, f, g, rfl⟩
section oq
variable {H : Type} {enc : TypeId × Value → H} {W : World} {base : Nat} {held : Bool} {fuel : Nat} {cs : List Value} {x : DataW H × List MemPlace}
theorem open_u32s {B : Nat} (hB2 : B < 1099511627776) (h : DataW.trod enc Tryz.prog W base (fun _ => true) held fuel 53 cs = some x) (hB : Rows.uptoBulk x.1 ≤ B) : ∃ l v, cs = [v] ∧ Row 1 U32Rep (imW W) l v := by
 obtain ⟨l, v, e, h1, _⟩ := open_row (α := Nat) (Rp := U32Rep) Tryz.underlying53 c2.1 (by decide) (fun n' c z _ hz hb => by
  obtain ⟨m, rfl, hm⟩ := open_u 4294967295 ⟨rfl, rfl⟩ Tryz.underlying43 hz
  exact ⟨m, rfl, hm⟩) h hB hB2
 exact ⟨l, v, e, h1⟩
theorem open_bool (h : DataW.trod enc Tryz.prog W base (fun _ => true) held fuel 4 cs = some x) : ∃ b, cs = [.bool b] := by
 obtain ⟨b, e, _⟩ := DataW.trod_bool Tryz.underlying4 h
 exact ⟨b, e⟩
theorem open_state {B : Nat} (hB2 : B < 1099511627776) (fuel : Nat) (cs : List Value) (x : DataW H × List MemPlace) (h : DataW.trod enc Tryz.prog W base (fun _ => true) held fuel 177 cs = some x) (hB : Rows.uptoBulk x.1 ≤ B) : ∃ p, StateArg (imW W) p cs := by
 obtain ⟨_, q3, q23, q25, _⟩ := c1
 obtain ⟨q43, _, _, _, _, q4, _, _, _, q177, q22⟩ := c2
 obtain ⟨xs, n, rfl, rfl, hcl, hxl, hf⟩ := DataW.trod_struct Tryz.underlying177 h
 rw [q177] at hcl
 obtain ⟨a0, a1, a2, a3, a4, a5, a6, rfl⟩ := list7 hcl
 have hxl' : xs.length = 7 := hxl
 obtain ⟨z0, e0, b0⟩ := kidAt hxl' hB (i := 0) (by decide)
 obtain ⟨z1, e1, b1⟩ := kidAt hxl' hB (i := 1) (by decide)
 obtain ⟨z2, e2, b2⟩ := kidAt hxl' hB (i := 2) (by decide)
 obtain ⟨z3, e3, b3⟩ := kidAt hxl' hB (i := 3) (by decide)
 obtain ⟨z4, e4, b4⟩ := kidAt hxl' hB (i := 4) (by decide)
 obtain ⟨z5, e5, b5⟩ := kidAt hxl' hB (i := 5) (by decide)
 obtain ⟨z6, e6, b6⟩ := kidAt hxl' hB (i := 6) (by decide)
 have f0 : DataW.trod enc Tryz.prog W base (fun _ => true) held n 3 ([a0, a1, a2, a3, a4, a5, a6].take (Tryz.prog.cellsOf 3)) = xs[0]? := hf 0 _ rfl
 rw [q3, e0] at f0
 have f1 : DataW.trod enc Tryz.prog W base (fun _ => true) held n 43 ([a1, a2, a3, a4, a5, a6].take (Tryz.prog.cellsOf 43)) = xs[1]? := hf 1 _ rfl
 rw [q43, e1] at f1
 have f2 : DataW.trod enc Tryz.prog W base (fun _ => true) held n 23 ([a2, a3, a4, a5, a6].take (Tryz.prog.cellsOf 23)) = xs[2]? := hf 2 _ rfl
 rw [q23, e2] at f2
 have f3 : DataW.trod enc Tryz.prog W base (fun _ => true) held n 22 ([a3, a4, a5, a6].take (Tryz.prog.cellsOf 22)) = xs[3]? := hf 3 _ rfl
 rw [q22, e3] at f3
 have f4 : DataW.trod enc Tryz.prog W base (fun _ => true) held n 4 ([a4, a5, a6].take (Tryz.prog.cellsOf 4)) = xs[4]? := hf 4 _ rfl
 rw [q4, e4] at f4
 have f5 : DataW.trod enc Tryz.prog W base (fun _ => true) held n 4 ([a5, a6].take (Tryz.prog.cellsOf 4)) = xs[5]? := hf 5 _ rfl
 rw [q4, e5] at f5
 have f6 : DataW.trod enc Tryz.prog W base (fun _ => true) held n 25 ([a6].take (Tryz.prog.cellsOf 25)) = xs[6]? := hf 6 _ rfl
 rw [q25, e6] at f6
 obtain ⟨z, g0, z1, z2⟩ := open_i64 Tryz.underlying3 f0
 obtain ⟨m1, g1, m1l⟩ := open_u 4294967295 ⟨rfl, rfl⟩ Tryz.underlying43 f1
 obtain ⟨m2, g2, m2l⟩ := open_u 18446744073709551615 ⟨rfl, rfl⟩ Tryz.underlying23 f2
 obtain ⟨l3, v3, g3, r3⟩ := open_faults hB2 f3 b3
 obtain ⟨t4, g4⟩ := open_bool f4
 obtain ⟨t5, g5⟩ := open_bool f5
 obtain ⟨l6, v6, g6, r6⟩ := open_values hB2 f6 b6
 simp only [List.take_succ_cons, List.take_zero, List.cons.injEq, and_true] at g0 g1 g2 g3 g4 g5 g6
 subst g0 g1 g2 g3 g4 g5 g6
 exact ⟨(z, ⟨0, m1, m2, l3, t4, t5, l6⟩), _, _, rfl, ⟨z1, z2⟩, by simp only; omega, by simp only; omega, r3, r6⟩
theorem open_disp {B : Nat} (hB2 : B < 1099511627776) (h : DataW.trod enc Tryz.prog W base (fun _ => true) held fuel 56 cs = some x) (hB : Rows.uptoBulk x.1 ≤ B) : ∃ d l, DispArg (imW W) d l cs ∧ d.state = l.map sOf := by
 obtain ⟨q43, _, _, _, _, q4, q53, q54, q56, q177, _⟩ := c2
 obtain ⟨xs, n, rfl, rfl, hcl, hxl, hf⟩ := DataW.trod_struct Tryz.underlying56 h
 rw [q56] at hcl
 obtain ⟨a0, a1, a2, a3, a4, a5, rfl⟩ := list6 hcl
 have hxl' : xs.length = 6 := hxl
 obtain ⟨z0, e0, b0⟩ := kidAt hxl' hB (i := 0) (by decide)
 obtain ⟨z1, e1, b1⟩ := kidAt hxl' hB (i := 1) (by decide)
 obtain ⟨z2, e2, b2⟩ := kidAt hxl' hB (i := 2) (by decide)
 obtain ⟨z3, e3, b3⟩ := kidAt hxl' hB (i := 3) (by decide)
 obtain ⟨z4, e4, b4⟩ := kidAt hxl' hB (i := 4) (by decide)
 obtain ⟨z5, e5, b5⟩ := kidAt hxl' hB (i := 5) (by decide)
 have f0 : DataW.trod enc Tryz.prog W base (fun _ => true) held n 4 ([a0, a1, a2, a3, a4, a5].take (Tryz.prog.cellsOf 4)) = xs[0]? := hf 0 _ rfl
 rw [q4, e0] at f0
 have f1 : DataW.trod enc Tryz.prog W base (fun _ => true) held n 43 ([a1, a2, a3, a4, a5].take (Tryz.prog.cellsOf 43)) = xs[1]? := hf 1 _ rfl
 rw [q43, e1] at f1
 have f2 : DataW.trod enc Tryz.prog W base (fun _ => true) held n 53 ([a2, a3, a4, a5].take (Tryz.prog.cellsOf 53)) = xs[2]? := hf 2 _ rfl
 rw [q53, e2] at f2
 have f3 : DataW.trod enc Tryz.prog W base (fun _ => true) held n 4 ([a3, a4, a5].take (Tryz.prog.cellsOf 4)) = xs[3]? := hf 3 _ rfl
 rw [q4, e3] at f3
 have f4 : DataW.trod enc Tryz.prog W base (fun _ => true) held n 4 ([a4, a5].take (Tryz.prog.cellsOf 4)) = xs[4]? := hf 4 _ rfl
 rw [q4, e4] at f4
 have f5 : DataW.trod enc Tryz.prog W base (fun _ => true) held n 54 ([a5].take (Tryz.prog.cellsOf 54)) = xs[5]? := hf 5 _ rfl
 rw [q54, e5] at f5
 obtain ⟨t0, g0⟩ := open_bool f0
 obtain ⟨m1, g1, m1l⟩ := open_u 4294967295 ⟨rfl, rfl⟩ Tryz.underlying43 f1
 obtain ⟨l2, v2, g2, r2⟩ := open_u32s hB2 f2 b2
 obtain ⟨t3, g3⟩ := open_bool f3
 obtain ⟨t4, g4⟩ := open_bool f4
 obtain ⟨l5, v5, g5, r5, _⟩ := open_row Tryz.underlying54 q177 (by decide) (fun n' c z _ hz hb => open_state hB2 n' c z hz hb) f5 b5 hB2
 simp only [List.take_succ_cons, List.take_zero, List.cons.injEq, and_true] at g0 g1 g2 g3 g4 g5
 subst g0 g1 g2 g3 g4 g5
 exact ⟨⟨t0, m1, l2, t3, t4, l5.map sOf⟩, l5, ⟨_, _, rfl, by simp only; omega, r2, r5⟩, rfl⟩
end oq
end Go.Proofs.YtcfglgelckjpmaaGreatDoor
