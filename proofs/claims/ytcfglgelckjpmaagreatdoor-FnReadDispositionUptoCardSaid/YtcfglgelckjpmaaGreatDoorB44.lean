/- Own machinery, and laws of the functions that the statement reaches (part 44). -/
import Derived.Test.YtcfglgelckjpmaaGreatDoorB40
import Derived.Test.YtcfglgelckjpmaaGreatDoorRows
import Derived.WalkKit
import Derived.ProofKit
import Derived.OpenShut
set_option linter.all false
namespace Go.Proofs.YtcfglgelckjpmaaGreatDoor
open Go.ChangeShapes Go.WideShapes Go.ChangeAt Go.RowKit
set_option maxRecDepth 100000
set_option maxHeartbeats 1000000
def imW (W : World) : Imm := {
 c b o := W.cell? ⟨b, o, none⟩
 m r := match W.heap[r]? with
  | some (.map es cl) => some (es, cl)
  | _ => none
 room := ⟨W.heap.size, fun b hb => ⟨fun o => by simp [World.cell?, Array.getElem?_eq_none hb], by simp [Array.getElem?_eq_none hb]⟩⟩ }
theorem imW_ok (W : World) : (imW W).ok W := by
 refine ⟨fun h => h, fun {r es cl} h => ?_⟩
 simp only [imW] at h
 split at h
 ·rename_i es' cl' e
  cases h
  exact e
 ·cases h
theorem imW_sat (W : World) : Sat (imW W) [] W := ⟨imW_ok W, by simp, by simp⟩
section bulk
variable {H : Type}
theorem bulk_one (d : DataW H) : 1 ≤ Rows.uptoBulk d := by
 cases d with
 | lit l => cases l <;> simp [Rows.uptoBulk]
 | nil => simp [Rows.uptoBulk]
 | ptr d => simp [Rows.uptoBulk]
 | slice elems spare => simp [Rows.uptoBulk]
 | agg parts => simp [Rows.uptoBulk]
 | iface t d => simp [Rows.uptoBulk]
 | map entries => simp [Rows.uptoBulk]
 | held h => simp [Rows.uptoBulk]
theorem bulk_part {d : DataW H} {l : List (DataW H)} (h : d ∈ l) : Rows.uptoBulk d ≤ Rows.uptoBulkAll l := by
 induction l with
 | nil => cases h
 | cons x r ih =>
  simp only [Rows.uptoBulkAll]
  cases List.mem_cons.1 h with
  | inl e => subst e; omega
  | inr e => have := ih e; omega
theorem bulk_len (l : List (DataW H)) : l.length ≤ Rows.uptoBulkAll l := by
 induction l with
 | nil => simp [Rows.uptoBulkAll]
 | cons x r ih => have := bulk_one x; simp only [Rows.uptoBulkAll, List.length_cons]; omega
end bulk
section op
variable {H : Type} {enc : TypeId × Value → H} {W : World} {base : Nat} {held : Bool} {fuel : Nat} {cs : List Value} {x : DataW H × List MemPlace}
theorem cells_at {a : Addr} {n : Nat} {xs : List Value} (h : W.cells? base a n = some xs) : xs.length = n ∧ ∀ i, i < n → W.cell? (a.add i) = xs[i]? := by
 unfold World.cells? at h
 split at h
 ·refine ⟨by simpa using mapM_some_length h, fun i hi => ?_⟩
  exact mapM_some_get h i i (by simp [hi])
 ·cases h
theorem cell_spot {a : Addr} {v : Value} (h : W.cell? a = some v) : a.spot = none := by
 unfold World.cell? at h
 split at h
 ·split at h
  ·cases h
  ·rename_i h1
   cases hs : a.spot with
   | none => rfl
   | some s => rw [hs] at h1; simp at h1
 ·cases h
theorem add_spot {a : Addr} (h : a.spot = none) (n : Nat) : a.add n = ⟨a.block, a.off + n, none⟩ := by
 obtain ⟨b, o, s⟩ := a
 obtain rfl : s = none := h
 exact add_none _ _ _
theorem open_row {α : Type} [Inhabited α] {sz B : Nat} {Rp : α → List Value → Prop} {e t : TypeId} (ht : Tryz.prog.underlying t = some (.slice e)) (hsz : Tryz.prog.cellsOf e = sz) (hsz0 : 0 < sz)
  (hel : ∀ n cs x, n < fuel → DataW.trod enc Tryz.prog W base (fun _ => true) held n e cs = some x → Rows.uptoBulk x.1 ≤ B → ∃ y, Rp y cs) (h : DataW.trod enc Tryz.prog W base (fun _ => true) held fuel t cs = some x)
  (hB : Rows.uptoBulk x.1 ≤ B) (hB2 : B < 1099511627776) : ∃ l v, cs = [v] ∧ Row sz Rp (imW W) l v ∧ l.length ≤ B := by
 rcases DataW.trod_slice ht h with ⟨rfl, rfl⟩ | ⟨a, len, cap, elems, rest, n, rfl, rfl, rfl, _, hlc, _, hlen, hels, hsp, _⟩
 ·exact ⟨[], _, rfl, .nil, by simp⟩
 ·rw [hsz] at hels hsp
  simp only [Rows.uptoBulk] at hB
  have hall : Rows.uptoBulkAll (elems.map (·.1)) ≤ B := by omega
  have hlB : len ≤ B := by
   have := bulk_len (elems.map (·.1))
   simp only [List.length_map] at this
   omega
  obtain ⟨hsr, hsp⟩ := hsp rfl
  have hspot : 0 < cap → a.spot = none := fun h0 => by
   have key : ∀ xs : List Value, W.cells? base (a.add (0 * sz)) sz = some xs → a.spot = none := fun xs hx => by
    obtain ⟨h1, h2⟩ := cells_at hx
    have h3 := h2 0 hsz0
    have e1 : (a.add (0 * sz)).add 0 = a := by simp [Addr.add]
    rw [e1, List.getElem?_eq_getElem (by omega)] at h3
    exact cell_spot h3
   by_cases hl : 0 < len
   ·have h1 := hels 0 hl
    rw [List.getElem?_eq_getElem (by omega)] at h1
    obtain ⟨xs, hx, _⟩ := Option.bind_eq_some_iff.1 h1
    exact key xs hx
   ·have h1 := hsp 0 (by omega)
    rw [List.getElem?_eq_getElem (by omega)] at h1
    obtain ⟨xs, hx, _⟩ := Option.bind_eq_some_iff.1 h1
    have e0 : len + 0 = 0 := by omega
    rw [e0] at hx
    exact key xs hx
  have each : ∀ i, ∃ (y : α) (c : List Value), i < len → Rp y c ∧ c.length = sz ∧ ∀ j z, c[j]? = some z → W.cell? ⟨a.block, a.off + i * sz + j, none⟩ = some z := fun i => by
   by_cases hi : i < len
   ·have h1 := hels i hi
    rw [List.getElem?_eq_getElem (by omega)] at h1
    obtain ⟨xs, hx, hr⟩ := Option.bind_eq_some_iff.1 h1
    obtain ⟨h2, h3⟩ := cells_at hx
    have hs := hspot (by omega)
    obtain ⟨y, hy⟩ := hel n xs elems[i] (by omega) hr (Nat.le_trans (bulk_part (List.mem_map.2 ⟨elems[i], by simp, rfl⟩)) hall)
    refine ⟨y, xs, fun _ => ⟨hy, h2, fun j z hz => ?_⟩⟩
    have hj : j < sz := by have := (List.getElem?_eq_some_iff.1 hz).1; omega
    have := h3 j hj
    rw [add_spot hs, add_spot rfl, hz] at this
    exact this
   ·exact ⟨default, [], fun h => absurd h hi⟩
  let f := fun i => (each i).choose
  let g := fun i => (each i).choose_spec.choose
  have hfg : ∀ i, i < len → Rp (f i) (g i) ∧ (g i).length = sz ∧ ∀ j z, (g i)[j]? = some z → W.cell? ⟨a.block, a.off + i * sz + j, none⟩ = some z := fun i hi => (each i).choose_spec.choose_spec hi
  clear_value f g
  have hgl : ∀ c ∈ (List.range len).map g, c.length = sz := fun c hc => by
   obtain ⟨i, hi, rfl⟩ := List.mem_map.1 hc
   exact (hfg i (List.mem_range.1 hi)).2.1
  refine ⟨(List.range len).map f, _, rfl, ⟨by simp; omega, (List.range len).map g, ?_, by simp, fun i y c hy hc => ?_⟩, by simpa using hlB⟩
  ·have hfl : ((List.range len).map g).flatten.length = len * sz := by
    have : ∀ {l : List (List Value)}, (∀ c ∈ l, c.length = sz) → l.flatten.length = l.length * sz := by
     intro l hl
     induction l with
     | nil => simp
     | cons c l ih => rw [List.flatten_cons, List.length_append, hl c (by simp), ih fun x hx => hl x (by simp [hx]), List.length_cons, Nat.add_mul]; omega
    rw [this hgl]; simp
   obtain ⟨b, o, s⟩ := a
   cases s with
   | some s =>
    have hc0 : cap = 0 := by
     rcases Nat.eq_zero_or_pos cap with h0 | h0
     ·exact h0
     ·have := hspot h0; cases this
    have hl0 : len = 0 := by omega
    subst hc0 hl0
    exact ⟨by simp, by simp, rfl, by simp⟩
   | none =>
    refine ⟨by simp, by simpa using hlc, by rw [hfl]; simp, fun j z hz => ?_⟩
    have hj : j < len * sz := by have := (List.getElem?_eq_some_iff.1 hz).1; omega
    have hd : j / sz < len := Nat.div_lt_of_lt_mul (by rw [Nat.mul_comm]; exact hj)
    have hm : j % sz < sz := Nat.mod_lt _ hsz0
    obtain ⟨_, q2, q3⟩ := hfg (j / sz) hd
    have hgi : ((List.range len).map g)[j / sz]? = some (g (j / sz)) := by simp [hd]
    have := flatten_get hgl hgi (j % sz) _ (List.getElem?_eq_getElem (by omega))
    rw [Nat.div_add_mod'] at this
    rw [this] at hz
    cases hz
    have h4 := q3 (j % sz) _ (List.getElem?_eq_getElem (by omega))
    rw [Nat.add_assoc, Nat.div_add_mod'] at h4
    exact h4
  ·have hi := (List.getElem?_eq_some_iff.1 hy).1
   simp only [List.length_map, List.length_range] at hi
   simp only [List.getElem?_map, List.getElem?_range hi, Option.map_some, Option.some.injEq] at hy hc
   subst hy hc
   exact ⟨(hfg i hi).1, (hfg i hi).2.1⟩
instance : Inhabited V := ⟨vNull⟩
instance : Inhabited Fault := ⟨⟨[], [], []⟩⟩
theorem kidAt {xs : List (DataW H × List MemPlace)} {n B i : Nat} (hn : xs.length = n) (hB : Rows.uptoBulk (DataW.agg (xs.map (·.1))) ≤ B) (hi : i < n) : ∃ z, xs[i]? = some z ∧ Rows.uptoBulk z.1 ≤ B := by
 have hg : xs[i]? = some (xs[i]'(by omega)) := by simp
 refine ⟨_, hg, ?_⟩
 simp only [Rows.uptoBulk] at hB
 have hm : (xs[i]'(by omega)).1 ∈ xs.map (·.1) := List.mem_map.2 ⟨_, List.mem_of_getElem? hg, rfl⟩
 have := bulk_part hm
 omega
theorem str_eta (s : ByteArray) : strV s.data.toList = .string s := by simp [strV]
theorem c1 : Tryz.prog.cellsOf 9 = 1 ∧ Tryz.prog.cellsOf 3 = 1 ∧ Tryz.prog.cellsOf 23 = 1 ∧ Tryz.prog.cellsOf 25 = 1 ∧ Tryz.prog.cellsOf 5 = 1 ∧ Tryz.prog.cellsOf 79 = 6 ∧ Tryz.prog.cellsOf 27 = 3 :=
 ⟨by kernel_rfl, by kernel_rfl, by kernel_rfl, by kernel_rfl, by kernel_rfl, by kernel_rfl, by kernel_rfl⟩
theorem list6 {α : Type} {l : List α} (h : l.length = 6) : ∃ a b c d e f, l = [a, b, c, d, e, f] := by
 match l, h with
 | [a, b, c, d, e, f], _ => exact ⟨a, b, c, d, e, f, rfl⟩
theorem list3 {α : Type} {l : List α} (h : l.length = 3) : ∃ a b c, l = [a, b, c] := by
 match l, h with
 | [a, b, c], _ => exact ⟨a, b, c, rfl⟩
theorem open_text {B : Nat} (h : DataW.trod enc Tryz.prog W base (fun _ => true) held fuel 9 cs = some x) (hB : Rows.uptoBulk x.1 ≤ B) : ∃ t, cs = [strV t] ∧ t.length ≤ B := by
 obtain ⟨s, rfl, rfl, _⟩ := DataW.trod_string Tryz.underlying9 h
 refine ⟨s.data.toList, by rw [str_eta], ?_⟩
 simp only [Rows.uptoBulk] at hB
 omega
theorem open_i64 {t : Nat} (ht : Tryz.prog.underlying t = some (.int .i64)) (h : DataW.trod enc Tryz.prog W base (fun _ => true) held fuel t cs = some x) : ∃ n : Int, cs = [.int .i64 n] ∧ -9223372036854775808 ≤ n ∧ n < 9223372036854775808 := by
 obtain ⟨n, rfl, rfl, hw⟩ := DataW.trod_int ht h
 simp only [Lit.wf, Bool.and_eq_true, decide_eq_true_eq] at hw
 have h1 : IntKind.i64.min = -9223372036854775808 := rfl
 have h2 : IntKind.i64.max = 9223372036854775807 := rfl
 exact ⟨n, rfl, by omega, by omega⟩
theorem open_u {t : Nat} {k : IntKind} (m : Nat) (hk : k.min = 0 ∧ k.max = (m : Int)) (ht : Tryz.prog.underlying t = some (.int k)) (h : DataW.trod enc Tryz.prog W base (fun _ => true) held fuel t cs = some x) : ∃ n : Nat, cs = [.int k n] ∧ n < m + 1 := by
 obtain ⟨n, rfl, rfl, hw⟩ := DataW.trod_int ht h
 simp only [Lit.wf, Bool.and_eq_true, decide_eq_true_eq, hk.1, hk.2] at hw
 exact ⟨n.toNat, by rw [Int.toNat_of_nonneg hw.1], by omega⟩
theorem open_value {B : Nat} (hB2 : B < 1099511627776) : ∀ (fuel : Nat) (cs : List Value) (x : DataW H × List MemPlace), DataW.trod enc Tryz.prog W base (fun _ => true) held fuel 79 cs = some x → Rows.uptoBulk x.1 ≤ B → ∃ y, VRep (imW W) y cs := by
 intro fuel
 induction fuel using Nat.strongRecOn with
 | _ fuel ih =>
  intro cs x h hB
  obtain ⟨q9, q3, q23, q25, _, q79, _⟩ := c1
  obtain ⟨xs, n, rfl, rfl, hcl, hxl, hf⟩ := DataW.trod_struct Tryz.underlying79 h
  rw [q79] at hcl
  obtain ⟨a0, a1, a2, a3, a4, a5, rfl⟩ := list6 hcl
  have hxl' : xs.length = 6 := hxl
  obtain ⟨z0, e0, _⟩ := kidAt hxl' hB (i := 0) (by decide)
  obtain ⟨z1, e1, _⟩ := kidAt hxl' hB (i := 1) (by decide)
  obtain ⟨z2, e2, b2⟩ := kidAt hxl' hB (i := 2) (by decide)
  obtain ⟨z3, e3, b3⟩ := kidAt hxl' hB (i := 3) (by decide)
  obtain ⟨z4, e4, _⟩ := kidAt hxl' hB (i := 4) (by decide)
  obtain ⟨z5, e5, b5⟩ := kidAt hxl' hB (i := 5) (by decide)
  have f0 : DataW.trod enc Tryz.prog W base (fun _ => true) held n 3 ([a0, a1, a2, a3, a4, a5].take (Tryz.prog.cellsOf 3)) = xs[0]? := hf 0 _ rfl
  rw [q3, e0] at f0
  have f1 : DataW.trod enc Tryz.prog W base (fun _ => true) held n 23 ([a1, a2, a3, a4, a5].take (Tryz.prog.cellsOf 23)) = xs[1]? := hf 1 _ rfl
  rw [q23, e1] at f1
  have f2 : DataW.trod enc Tryz.prog W base (fun _ => true) held n 9 ([a2, a3, a4, a5].take (Tryz.prog.cellsOf 9)) = xs[2]? := hf 2 _ rfl
  rw [q9, e2] at f2
  have f3 : DataW.trod enc Tryz.prog W base (fun _ => true) held n 25 ([a3, a4, a5].take (Tryz.prog.cellsOf 25)) = xs[3]? := hf 3 _ rfl
  rw [q25, e3] at f3
  have f4 : DataW.trod enc Tryz.prog W base (fun _ => true) held n 3 ([a4, a5].take (Tryz.prog.cellsOf 3)) = xs[4]? := hf 4 _ rfl
  rw [q3, e4] at f4
  have f5 : DataW.trod enc Tryz.prog W base (fun _ => true) held n 25 ([a5].take (Tryz.prog.cellsOf 25)) = xs[5]? := hf 5 _ rfl
  rw [q25, e5] at f5
  obtain ⟨k, g0, k1, k2⟩ := open_i64 Tryz.underlying3 f0
  obtain ⟨m, g1, m1⟩ := open_u 18446744073709551615 ⟨rfl, rfl⟩ Tryz.underlying23 f1
  obtain ⟨t, g2, t1⟩ := open_text f2 b2
  obtain ⟨ks, kv, g3, hks, _⟩ := open_row Tryz.underlying25 q79 (by decide) (fun n' c z hn hz hb => ih n' (by omega) c z hz hb) f3 b3 hB2
  obtain ⟨o, g4, o1, o2⟩ := open_i64 Tryz.underlying3 f4
  obtain ⟨ds, dv, g5, hds, _⟩ := open_row Tryz.underlying25 q79 (by decide) (fun n' c z hn hz hb => ih n' (by omega) c z hz hb) f5 b5 hB2
  simp only [List.take_succ_cons, List.take_zero, List.cons.injEq, and_true] at g0 g1 g2 g3 g4 g5
  subst g0 g1 g2 g3 g4 g5
  exact ⟨.mk k m t ks o ds, .intro ⟨k1, k2⟩ (by omega) ⟨o1, o2⟩ (by omega) hks.vs hds.vs⟩
theorem open_values {B : Nat} (hB2 : B < 1099511627776) (h : DataW.trod enc Tryz.prog W base (fun _ => true) held fuel 25 cs = some x) (hB : Rows.uptoBulk x.1 ≤ B) : ∃ l v, cs = [v] ∧ VsRep (imW W) l v := by
 obtain ⟨l, v, e, h1, _⟩ := open_row Tryz.underlying25 c1.2.2.2.2.2.1 (by decide) (fun n' c z _ hz hb => open_value hB2 n' c z hz hb) h hB hB2
 exact ⟨l, v, e, h1.vs⟩
theorem open_fault {B : Nat} (hB2 : B < 1099511627776) (fuel : Nat) (cs : List Value) (x : DataW H × List MemPlace) (h : DataW.trod enc Tryz.prog W base (fun _ => true) held fuel 27 cs = some x) (hB : Rows.uptoBulk x.1 ≤ B) : ∃ f, FaultRep (imW W) f cs := by
 obtain ⟨q9, _, _, q25, _, _, q27⟩ := c1
 obtain ⟨xs, n, rfl, rfl, hcl, hxl, hf⟩ := DataW.trod_struct Tryz.underlying27 h
 rw [q27] at hcl
 obtain ⟨a0, a1, a2, rfl⟩ := list3 hcl
 have hxl' : xs.length = 3 := hxl
 obtain ⟨z0, e0, b0⟩ := kidAt hxl' hB (i := 0) (by decide)
 obtain ⟨z1, e1, b1⟩ := kidAt hxl' hB (i := 1) (by decide)
 obtain ⟨z2, e2, b2⟩ := kidAt hxl' hB (i := 2) (by decide)
 have f0 : DataW.trod enc Tryz.prog W base (fun _ => true) held n 9 ([a0, a1, a2].take (Tryz.prog.cellsOf 9)) = xs[0]? := hf 0 _ rfl
 rw [q9, e0] at f0
 have f1 : DataW.trod enc Tryz.prog W base (fun _ => true) held n 9 ([a1, a2].take (Tryz.prog.cellsOf 9)) = xs[1]? := hf 1 _ rfl
 rw [q9, e1] at f1
 have f2 : DataW.trod enc Tryz.prog W base (fun _ => true) held n 25 ([a2].take (Tryz.prog.cellsOf 25)) = xs[2]? := hf 2 _ rfl
 rw [q25, e2] at f2
 obtain ⟨t, g0, t1⟩ := open_text f0 b0
 obtain ⟨u, g1, u1⟩ := open_text f1 b1
 obtain ⟨l, v, g2, hl⟩ := open_values hB2 f2 b2
 simp only [List.take_succ_cons, List.take_zero, List.cons.injEq, and_true] at g0 g1 g2
 subst g0 g1 g2
 exact ⟨⟨t, u, l⟩, _, rfl, hl, by simp only; omega, by simp only; omega⟩
theorem open_faults {B : Nat} (hB2 : B < 1099511627776) (h : DataW.trod enc Tryz.prog W base (fun _ => true) held fuel 22 cs = some x) (hB : Rows.uptoBulk x.1 ≤ B) : ∃ l v, cs = [v] ∧ Row 3 (FaultRep (imW W)) (imW W) l v := by
 obtain ⟨l, v, e, h1, _⟩ := open_row Tryz.underlying22 c1.2.2.2.2.2.2 (by decide) (fun n' c z _ hz hb => open_fault hB2 n' c z hz hb) h hB hB2
 exact ⟨l, v, e, h1⟩
theorem open_bytes {B : Nat} (hB2 : B < 1099511627776) (h : DataW.trod enc Tryz.prog W base (fun _ => true) held fuel 24 cs = some x) (hB : Rows.uptoBulk x.1 ≤ B) : ∃ bs v, cs = [v] ∧ BytesAt (imW W) bs v ∧ bs.length ≤ B := by
 obtain ⟨l, v, e, ⟨h1, css, h2, h3, h4⟩, h5⟩ := open_row (α := UInt8) (Rp := fun b c => c = [byteV b]) Tryz.underlying24 c1.2.2.2.2.1 (by decide) (fun n' c z _ hz _ => by
  obtain ⟨m, rfl, hm⟩ := open_u 255 ⟨rfl, rfl⟩ Tryz.underlying5 hz
  exact ⟨UInt8.ofNat m, by simp [byteV]; omega⟩) h hB hB2
 refine ⟨l, v, e, ?_, h5⟩
 have : css.flatten = l.map byteV := by
  have key : ∀ (l : List UInt8) (css : List (List Value)), css.length = l.length → (∀ (i : Nat) (x : UInt8) (c : List Value), l[i]? = some x → css[i]? = some c → c = [byteV x]) → css.flatten = l.map byteV := by
   intro l
   induction l with
   | nil => intro css h _; rw [List.eq_nil_of_length_eq_zero h]; rfl
   | cons b l ih =>
    intro css h hx
    cases css with
    | nil => simp at h
    | cons c css =>
     rw [List.flatten_cons, hx 0 b c rfl rfl, ih css (by simpa using h) fun i x c h1 h2 => hx (i + 1) x c (by simpa using h1) (by simpa using h2)]
     rfl
  exact key l css h3 fun i x c hx hc => (h4 i x c hx hc).1
 rw [this] at h2
 exact h2
end op
end Go.Proofs.YtcfglgelckjpmaaGreatDoor
