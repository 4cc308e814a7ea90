/- Own machinery, and laws of the functions that the statement reaches (part 39). -/
import Derived.Test.YtcfglgelckjpmaaGreatDoorB37
import Derived.Test.YtcfglgelckjpmaaGreatDoorChecked
import Derived.Deep.QuietTactic
import Derived.WalkKit
set_option linter.all false
namespace Go.Proofs.YtcfglgelckjpmaaGreatDoor
open Go.Sort Go.RowKit Go.Shelf Go.Lib
set_option maxRecDepth 100000
set_option maxHeartbeats 4000000
structure PE where
 t : List UInt8
 r : List Value
 hl : r.length = 12
 ho : ∀ v ∈ r, v.oneCell' = true
instance : Inhabited PE := ⟨⟨[], List.replicate 12 .nilIface, rfl, fun v h => by rw [(List.mem_replicate.1 h).2]; rfl⟩⟩
def encP (p : PE) : List Value := strV p.t :: p.r
def ltP (p q : PE) : Bool := ltStr p.t q.t
theorem swo_ltP : SWO ltP := ⟨fun x => swo_ltStr.irrefl x.t, fun x y z => swo_ltStr.trans x.t y.t z.t, fun x y z => swo_ltStr.ntrans x.t y.t z.t⟩
theorem less_walk (blk c Bs size : Nat) (W : World) (G : Nat → List UInt8) (hs : W.cell? ⟨Bs, 0, none⟩ = some (.slice (some ⟨blk, 0, none⟩) size c))
  (hc : ∀ t, t < size → W.cell? ⟨blk, t * 13, none⟩ = some (.string ⟨(G t).toArray⟩)) (i j : Nat) (hi : i < size) (hj : j < size) (_hsz : size < 4611686018427387904) :
  Calls Tryz.prog 215 #[.int .i64 i, .int .i64 j, .pointer (some ⟨Bs, 0, none⟩)] W fun e w' => e = .returned (.bool (ltStr (G i) (G j))) ∧ ∃ q, w' = W.drewN q := by
 have ci := hc i hi
 have cj := hc j hj
 go_enter Tryz.func215, Tryz.ntmps215
 go_wp2
 go_quiet (fail)
 go_wp2
 go_ret
 refine ⟨?_, nq, rfl⟩
 rw [ltStr, ← bytesLess_eq]
 simp
noncomputable def svT : TypeInfo := (Tryz.prog.info? 413).get (by kernel_rfl)
noncomputable def svE : TypeInfo := (Tryz.prog.info? 416).get (by kernel_rfl)
theorem svK (n : Nat) (h2 : 2 ≤ n) : Lib.swapperK n svE 25 = 9 := by
 have a : svE.hasPointers = true := by kernel_rfl
 have b : svE.bytes = 192 := by kernel_rfl
 have c : (n == 0) = false := by simp; omega
 have d : (n == 1) = false := by simp; omega
 simp [Lib.swapperK, a, b, c, d]
theorem encP_len (p : PE) : (encP p).length = 13 := by simp [encP, p.hl]
theorem flat13 (l : List PE) : (l.map encP).flatten.length = l.length * 13 := by
 induction l with
 | nil => simp
 | cons p l ih => rw [List.map_cons, List.flatten_cons, List.length_append, ih, encP_len, List.length_cons]; omega
theorem flatK_list (l : List PE) : flatK encP 13 l.toArray = (l.map encP).flatten.toArray := by
 have hw : ∀ c ∈ l.map encP, c.length = 13 := fun c hc => by
  obtain ⟨p, _, rfl⟩ := List.mem_map.1 hc
  exact encP_len p
 have hlen : (l.map encP).flatten.length = l.length * 13 := by
  rw [List.length_flatten]
  have : ∀ {l : List (List Value)}, (∀ c ∈ l, c.length = 13) → (l.map List.length).sum = l.length * 13 := by
   intro l hl
   induction l with
   | nil => simp
   | cons a l ih => rw [List.map_cons, List.sum_cons, ih fun c hc => hl c (by simp [hc]), hl a (by simp), List.length_cons, Nat.succ_mul, Nat.add_comm]
  rw [this hw, List.length_map]
 refine Array.ext (by simp [hlen]) fun i h1 h2 => ?_
 have hi : i < l.length * 13 := by simpa using h1
 have hd : i / 13 < l.length := Nat.div_lt_of_lt_mul (by omega)
 have hm : i % 13 < 13 := Nat.mod_lt _ (by decide)
 have hg : (l.map encP)[i / 13]? = some (encP l[i / 13]) := by rw [List.getElem?_map, List.getElem?_eq_getElem hd]; rfl
 have hx : (encP l[i / 13])[i % 13]? = some ((encP l[i / 13])[i % 13]'(by rw [encP_len]; exact hm)) := by simp
 have := flatten_get hw hg (i % 13) _ hx
 rw [Nat.div_add_mod'] at this
 have h3 := (List.getElem?_eq_some_iff.1 this).2
 simp only [flatK, Array.getElem_map, Array.getElem_range, List.getElem_toArray]
 rw [h3]
 have e1 : l.toArray[i / 13]! = l[i / 13] := by rw [getElem!_pos l.toArray _ (by simpa using hd)]; simp
 rw [e1, getElem!_pos _ _ (by rw [encP_len]; exact hm)]
theorem step_grow {I : Imm} {R : List Res} {w : World} {os : Array Obj} (hs : Sat I R w) : Step I R w I R (grow w os) := by
 have old : ∀ {b : Nat} {o : Obj}, w.heap[b]? = some o → b < w.heap.size := fun h => by
  rcases Nat.lt_or_ge _ w.heap.size with h' | h'
  ·exact h'
  ·rw [Array.getElem?_eq_none h'] at h; cases h
 refine ⟨.refl I, ⟨⟨fun {b o v} h => ?_, fun {r es cl} h => ?_⟩, fun r hr => ⟨Res.holds_of_block (hs.res r hr).1 fun b e => heap_grow_old w os (Res.lt_of_holds (hs.res r hr).1 e), (hs.res r hr).2⟩, hs.nodup⟩, by simp, rfl, rfl, rfl, fun b hb _ => ⟨heap_grow_old w os hb, fun _ => rfl, rfl⟩, fun r hr b e => .inl ⟨r, hr, e⟩⟩
 ·have hc := hs.ok.c h
  obtain ⟨c, ty, fz, he, _⟩ := World.heap_of_cell hc
  rw [cell?_grow w os _ (old he)]
  exact hc
 ·have hm := hs.ok.m h
  rw [heap_grow_old w os (old hm)]
  exact hm
theorem sortSlice_law {ps : List PE} {base : Option Addr} {cap bl : Nat} {I : Imm} {Q : Qt} (hn : ps.length < 1099511627776)
  (h : ∀ ps' : List PE, ps'.Perm ps → Q (.tuple #[]) [[.slice base ps.length cap]] [.vec (.slice base ps.length cap) 13 (ps'.map encP).flatten] I) :
  WP Tryz.prog 214 #[.iface 413 (.slice base ps.length cap), .func (.func 215) #[] #[ptr bl]] [(bl, [.slice base ps.length cap])] [.vec (.slice base ps.length cap) 13 (ps.map encP).flatten] I Q := by
 refine ⟨fun w => enters_of Tryz.func214 (by kernel_rfl) rfl _ w, fun w hs => ?_⟩
 have hsp : Sat I ([.vec (.slice base ps.length cap) 13 (ps.map encP).flatten] ++ [.blk bl [.slice base ps.length cap]]) w := hs.perm (List.Perm.swap _ _ _)
 have hs1 : Sat I [.vec (.slice base ps.length cap) 13 (ps.map encP).flatten] w := hsp.sub (List.sublist_append_left _ _)
 have hr := (hs1.res _ (List.mem_singleton.2 rfl)).1
 rcases (show ps.length = 0 ∨ ps.length = 1 ∨ 2 ≤ ps.length by omega) with h0 | h0 | h2
 ·refine (Any.sort_Slice_tiny Tryz.sl6 413 416 svT svE (by kernel_rfl) (by kernel_rfl) (by kernel_rfl) (by kernel_rfl) 25 (fun _ => by kernel_rfl) base ps.length cap (by omega) 292 (by rw [h0]; kernel_rfl) (.func 215) #[] #[ptr bl] w).mono ?_
  rintro e w' ⟨rfl, os, rfl⟩
  exact ⟨_, [[.slice base ps.length cap]], _, I, rfl, rfl, step_grow hs, h ps (.refl _)⟩
 ·refine (Any.sort_Slice_tiny Tryz.sl6 413 416 svT svE (by kernel_rfl) (by kernel_rfl) (by kernel_rfl) (by kernel_rfl) 25 (fun _ => by kernel_rfl) base ps.length cap (by omega) 293 (by rw [h0]; kernel_rfl) (.func 215) #[] #[ptr bl] w).mono ?_
  rintro e w' ⟨rfl, os, rfl⟩
  exact ⟨_, [[.slice base ps.length cap]], _, I, rfl, rfl, step_grow hs, h ps (.refl _)⟩
 ·cases base with
  | none =>
   obtain ⟨h1, _⟩ : ps.length = 0 ∧ cap = 0 ∧ _ := hr
   omega
  | some a =>
   obtain ⟨blk, off, spot⟩ := a
   cases spot with
   | some _ => cases off <;> exact False.elim hr
   | none =>
    cases off with
    | succ off => exact False.elim hr
    | zero =>
     obtain ⟨hH, hb⟩ := holds_vec hs1 (List.mem_singleton.2 rfl)
     have hH' : HoldsK encP 13 w blk 0 ps.toArray := by
      show Holds id w blk 0 (flatK encP 13 ps.toArray)
      rw [flatK_list]; exact hH
     have hbl := (hs.res (.blk bl [.slice (some ⟨blk, 0, none⟩) ps.length cap]) (by simp [blks])).1
     have hbl1 : bl < w.heap.size := Res.lt_of_holds hbl rfl
     have hne : bl ≠ blk := fun e => by
      have := hs.nodup
      subst e
      simp [blks, Res.b] at this
     have hbc : w.cell? ⟨bl, 0, none⟩ = some (.slice (some ⟨blk, 0, none⟩) ps.length cap) := by
      obtain ⟨ty, fz, hh, _⟩ := hbl
      rw [World.cell_of_heap hh]; rfl
     have hless : LessReadsK Tryz.prog 215 #[ptr bl] encP 13 ltP blk 0 ps.toArray.size w := by
      intro m os dk hsz i j hi hj
      have e : sortWorldK encP 13 w blk 0 m dk os = putRowK encP 13 (grow (Sort.ahead w m) os) blk 0 dk := by
       unfold sortWorldK; rw [putRowK_grow _ _ (Sort.ahead w m) _ blk 0 _ hb]
      have hHg : HoldsK encP 13 (grow (Sort.ahead w m) os) blk 0 ps.toArray := holdsK_grow _ _ _ _ blk 0 _ hb (holdsK_ahead _ _ _ _ _ _ _ hH')
      refine less_walk blk cap bl ps.length _ (fun t => dk[t]!.t) ?_ (fun t ht => ?_) i j (by simpa using hi) (by simpa using hj) (by omega)
      ·rw [e, cell?_putRowK_other _ _ _ blk 0 dk _ hne, cell?_grow _ _ _ hbl1]; exact hbc
      ·rw [e]
       have := ((holdsK_putRowK _ _ _ blk 0 ps.toArray dk hHg hsz).cell (i := t) (c := 0) (by simp at hsz; omega) (by omega)).1
       simpa [encP, strV] using this
     refine (Any.sort_Slice_cells_sorted Tryz.sl6 413 416 svT svE (by kernel_rfl) (by kernel_rfl) (by kernel_rfl) (by kernel_rfl) 25 (fun _ => by kernel_rfl) encP 13 encP_len (by kernel_rfl) (fun _ => by kernel_rfl)
      (fun x v hv => by
       rcases List.mem_cons.1 hv with rfl | hv
       ·rfl
       ·exact x.ho v hv) ltP swo_ltP 215 _
      (fun args w => enters_of Tryz.func215 (by kernel_rfl) rfl args w) blk 0 cap ps.toArray (by simpa using h2) (by simp; omega) 300 (by rw [svK _ (by simpa using h2)]; kernel_rfl) false
      (fun args W => run_callFunc_extern Tryz.func300 (by kernel_rfl) (by kernel_rfl) (by kernel_rfl) (e := Extern.ReflectliteSwapper.swap false) (by kernel_rfl) args W) w hless hH' hb).mono ?_
     rintro e w' ⟨rfl, d', n, os, ⟨hp1, _, hp2⟩, _, rfl⟩
     have hp : d'.toList.Perm ps := by
      have e1 : (d'.extract 0 ps.toArray.size) = d' := by rw [← hp1]; simp
      have e2 : (ps.toArray.extract 0 ps.toArray.size) = ps.toArray := by simp
      rw [e1, e2] at hp2
      simpa using hp2
     have hw : putRowK encP 13 (Sort.ahead w n) blk 0 d' = putRow id (Sort.ahead w n) blk 0 (d'.toList.map encP).flatten.toArray := by
      show putRow id (Sort.ahead w n) blk 0 (flatK encP 13 d') = _
      rw [← flatK_list]
     rw [hw]
     have hl : (d'.toList.map encP).flatten.length = (ps.map encP).flatten.length := by
      rw [flat13, flat13, hp.length_eq]
     have st := (step_sorted (n := n) (os := os) hs1 hl).framed hsp
     exact ⟨_, [[.slice (some ⟨blk, 0, none⟩) ps.length cap]], _, I, rfl, rfl, (st.perm_left (List.Perm.swap _ _ _)).perm_right (List.Perm.swap _ _ _), h _ hp⟩
end Go.Proofs.YtcfglgelckjpmaaGreatDoor
