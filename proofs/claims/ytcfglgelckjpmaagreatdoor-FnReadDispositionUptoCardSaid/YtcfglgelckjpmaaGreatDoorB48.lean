/- Own machinery, and laws of the functions that the statement reaches (part 48). -/
import Derived.Test.YtcfglgelckjpmaaGreatDoorB43
import Derived.Test.YtcfglgelckjpmaaGreatDoorB45
set_option linter.all false
namespace Go.Proofs.YtcfglgelckjpmaaGreatDoor
set_option maxRecDepth 100000
set_option maxHeartbeats 8000000
section ye
variable {I : Imm} {Q : Qt}
theorem pairs_nil (h : ∀ I', I.le I' → Q (.tuple #[.slice none 0 0, .bool true]) [] [] I') : WP Tryz.prog 143 #[.map none] [] [] I Q := by
 refine law (kp := [0,2,3,4,5,6,7,8,9,10,11,12,13,15,17,19,47,60,61,62,63,10059]) [] (args := [.map none]) Tryz.func143 (by kernel_rfl) (by kernel_rfl) trivial ?_
 refine G ?_
 intro b4
 refine G ?_
 intro it
 refine G ?_
 refine ⟨⟨[], [4], [(900, 13)], fun m vs cs R J => vs = [] ∧ cs = [[.slice none 0 0]] ∧ m = 0 ∧ I = J ∧ R = [(17, .iter it none 0 #[] 0), (900, .vec (.slice none 0 0) 13 [])], 0, _, _, rfl, rfl, ⟨rfl, rfl, rfl, rfl, rfl⟩, ?_⟩⟩
 rintro m vs cs R J hJ _ _ ⟨rfl, rfl, rfl, rfl, rfl⟩
 refine G ?_
 refine ⟨17, none, 0, #[], 0, rfl, ?_⟩
 refine G ?_
 refine Cx [4] ?_ [900]
 refine sortSlice_law (ps := []) (base := none) (cap := 0) (by decide) fun pes' hp => ?_
 obtain rfl := hp.eq_nil
 conv => whnf
 intro J1 hJ1 _
 refine G ?_
 refine ⟨⟨[62, 13], [], [], fun m vs cs R2 J2 => vs = [.int .i64 0, .slice none 0 0] ∧ cs = [] ∧ m = 0 ∧ J1 = J2 ∧ R2 = [(17, .iter it none 0 #[] 0)], 0, _, _, rfl, rfl, ⟨rfl, rfl, rfl, rfl, rfl⟩, ?_⟩⟩
 rintro m vs cs R2 J2 hJ2 _ _ ⟨rfl, rfl, rfl, rfl, rfl⟩
 refine G ?_
 refine L0 ?_
 exact h J1 (hJ.trans hJ1)
theorem few_law {l : List Nat} {x : Value} (hl : ∀ n ∈ l, n < 4294967296) (hx : LastAt I l x) (h : ∀ I' v', I.le I' → Row 1 U32Rep I' (l.take 1) v' → Q v' [] [] I') : WP Tryz.prog 79 #[x] [] [] I Q := by
 rcases hx with ⟨rfl, rfl⟩ | ⟨n, t, rfl, b, rfl, hce⟩
 ·refine lw K79 [] [.pointer none] Tryz.func79 ?_
  refine G ?_
  refine L0 ?_
  exact h I _ (.refl I) .nil
 ·refine lw K79 [] [pt b 0] Tryz.func79 ?_
  refine G ?_
  refine ⟨_, .imm hce, ?_⟩
  refine G ?_
  refine .inl fun be I2 hi2 hc2 => ?_
  refine G ?_
  refine L0 ?_
  exact h I2 _ hi2 (row_lit (css := [_]) hc2 rfl (show 1 < 1099511627776 by decide) rfl (rowsC ⟨⟨rfl, hl n (by simp)⟩, rfl⟩ rows0))
theorem ann_law {l : List V} {mv : Value} (hu : Utf I) (hm : MapRd l) (hv : AnnV I l mv) (h : ∀ I' l' v', I.le I' → AnnBack l l' → VsRep I' l' v' → Q (.tuple #[v', .bool true]) [] [] I') : WP Tryz.prog 143 #[mv] [] [] I Q := by
 rcases hv with ⟨rfl, rfl⟩ | ⟨r, es, rfl, hmi⟩
 ·exact pairs_nil fun I' hi => h I' [] _ hi ⟨[], .refl _, rfl, by simp⟩ (.nil I')
 ·have key : ∀ p ∈ prs l, ∃ k n t o, p.1 = .mk k n t [] o [] ∧ Scal k n t ∧ keyK k := fun p hp => by
   obtain ⟨i, hi⟩ := List.mem_iff_getElem?.1 hp
   obtain ⟨h1, h2⟩ := prs_mem hi
   have hne : l ≠ [] := by rintro rfl; simp [prs] at hp
   obtain ⟨k, t, o, e1, e2, e3⟩ := (hm.txt hne).key (2 * i) p.1 (by omega) h1
   exact ⟨k, 0, t, o, e1, e2, by unfold keyK; omega⟩
  have hsm := hm.small
  have hpm : PMap I (prs l) r es := ⟨hmi.at', hmi.born, hmi.plen, fun i p e hp he => (hmi.pat hp he).1, fun i p e hp he => (hmi.pat hp he).2, key, by rw [prs_len]; omega⟩
  exact pairs_law hu hpm hm.vd fun I1 ps' ks' v' hi1 hpp hl hb hr => h I1 ks' v' hi1 ⟨ps', hpp, hl, hb⟩ hr
theorem stateRep_form {s : StateD} {cs : List Value} (h : StateRep I s cs) : ∃ x1 y1 x2 y2, cs = [.int .i64 (s.code : Nat), .int .u32 (s.number : Nat), .int .u64 (s.offset : Nat), .slice x1 s.faults.length y1, .bool s.failed, .bool s.elsewhere, .slice x2 s.ann.length y2] := by
 obtain ⟨v1, v2, e, _, _, _, r1, r2⟩ := h
 obtain ⟨x1, y1, rfl⟩ := r1.form
 obtain ⟨x2, y2, rfl⟩ := r2.form
 exact ⟨_, _, _, _, e⟩
theorem stated_law {s : StateD} {x : Value} (hu : Utf I) (hs : StateRd s) (hx : StateAt I s x) (h : ∀ I' s' cs', I.le I' → StateBack s s' → StateRep I' s' cs' → Q (.tuple #[.agg cs'.toArray, .bool true]) [] [] I') : WP Tryz.prog 95 #[x] [] [] I Q := by
 obtain ⟨hc, hn, ho, hfr, har⟩ := hs
 obtain ⟨c, n, o, fs, fa, el, an⟩ := s
 simp only at hc hn ho hfr har
 cases hx with
 | @rcv b hc hce =>
  simp only at hc hce
  subst hc
  refine lw K95 [] [.iface 295 (pt b 0)] Tryz.func95 ?_
  refine G ?_
  intro b2
  refine G ?_
  refine ⟨[0,1,2,3,4,5,6,7,8,9,10], [], [], [], by kernel_rfl, ?_⟩
  refine G ?_
  refine ⟨_, cell_of hce 0 rfl, ?_⟩
  refine G ?_
  refine ⟨_, cell_of hce 1 rfl, ?_⟩
  refine G ?_
  refine L0 ?_
  exact h I ⟨35, n, o, [], false, false, []⟩ _ (.refl I) ⟨rfl, fun _ => ⟨rfl, rfl⟩, (fun h => by cases h), (fun h => by cases h), (fun h => by cases h)⟩ ⟨_, _, rfl, of_decide_eq_true rfl, hn, ho, .nil, .nil I⟩
 | @acc b hc =>
  simp only at hc
  subst hc
  refine lw K95 [] [.iface 287 (pt b 0)] Tryz.func95 ?_
  refine G ?_
  intro b2
  refine G ?_
  refine L0 ?_
  exact h I ⟨36, 0, 0, [], false, false, []⟩ _ (.refl I) ⟨rfl, (fun h => by cases h), (fun h => by cases h), (fun h => by cases h), (fun h => by cases h)⟩ ⟨_, _, rfl, of_decide_eq_true rfl, of_decide_eq_true rfl, of_decide_eq_true rfl, .nil, .nil I⟩
 | @rej b x hc hce hx =>
  simp only at hc hce hx
  subst hc
  refine lw K95 [] [.iface 298 (pt b 0)] Tryz.func95 ?_
  refine G ?_
  intro b2
  refine G ?_
  refine ⟨_, .imm (cell_of hce 0 rfl), ?_⟩
  refine G ?_
  refine Cx [] ?_
  refine faulted_law hu (hfr rfl) hx fun I1 l' v' hi1 hb hr => ?_
  have hr' := hr
  obtain ⟨xb, xc, rfl⟩ := hr.form
  refine G ?_
  refine L0 ?_
  exact h I1 ⟨37, 0, 0, l', false, false, []⟩ _ hi1 ⟨rfl, (fun h => by cases h), fun _ => hb, (fun h => by cases h), (fun h => by cases h)⟩ ⟨_, _, rfl, of_decide_eq_true rfl, of_decide_eq_true rfl, of_decide_eq_true rfl, hr', .nil I1⟩
 | @rel b hc =>
  simp only at hc
  subst hc
  refine lw K95 [] [.iface 300 (pt b 0)] Tryz.func95 ?_
  refine G ?_
  intro b2
  refine G ?_
  refine L0 ?_
  exact h I ⟨38, 0, 0, [], false, false, []⟩ _ (.refl I) ⟨rfl, (fun h => by cases h), (fun h => by cases h), (fun h => by cases h), (fun h => by cases h)⟩ ⟨_, _, rfl, of_decide_eq_true rfl, of_decide_eq_true rfl, of_decide_eq_true rfl, .nil, .nil I⟩
 | @mod b mv hc hce hm =>
  simp only at hc hce hm
  subst hc
  refine lw K95 [] [.iface 290 (pt b 0)] Tryz.func95 ?_
  refine G ?_
  intro b2
  refine G ?_
  refine ⟨_, .imm (cell_of hce 2 rfl), ?_⟩
  refine G ?_
  refine Cx [] ?_
  refine ann_law hu (har rfl) hm fun I1 l' v' hi1 hb hr => ?_
  have hr' := hr
  obtain ⟨xb, xc, rfl⟩ := hr.form
  refine G ?_
  refine ⟨[0,1,2,3,4,5,6,7,8,9,10,11,12], [], [], [], by kernel_rfl, ?_⟩
  refine G ?_
  refine ⟨_, cell_of (hce.mono hi1) 0 rfl, ?_⟩
  refine G ?_
  refine ⟨_, cell_of (hce.mono hi1) 1 rfl, ?_⟩
  refine G ?_
  refine L0 ?_
  exact h I1 ⟨39, 0, 0, [], fa, el, l'⟩ _ hi1 ⟨rfl, (fun h => by cases h), (fun h => by cases h), fun _ => ⟨rfl, rfl⟩, fun _ => hb⟩ ⟨_, _, rfl, of_decide_eq_true rfl, of_decide_eq_true rfl, of_decide_eq_true rfl, .nil, hr'⟩
theorem statesBack_law {l : List StateD} {x : Value} (hu : Utf I) (hl : ∀ s ∈ l, StateRd s) (hx : StatesAt I l x) (h : ∀ I' l' v', I.le I' → StatesBack l l' → Row 7 (StateRep I') I' l' v' → Q (.tuple #[v', .bool true]) [] [] I') : WP Tryz.prog 78 #[x] [] [] I Q := by
 rcases hx with ⟨rfl, rfl⟩ | ⟨s, t, rfl, hs⟩
 ·refine lw K78 [] [.nilIface] Tryz.func78 ?_
  refine G ?_
  refine L0 ?_
  exact h I [] _ (.refl I) (.inl ⟨rfl, rfl⟩) .nil
 ·have hsr := hl s (by simp)
  have hfrm : ∃ ty b, x = .iface ty (pt b 0) := by cases hs <;> exact ⟨_, _, rfl⟩
  obtain ⟨ty, b, rfl⟩ := hfrm
  refine lw K78 [] [.iface ty (pt b 0)] Tryz.func78 ?_
  refine G ?_
  refine Cx [] ?_
  refine stated_law hu hsr hs fun I1 s' cs' hi1 hb hr => ?_
  have hr' := hr
  obtain ⟨x1, y1, x2, y2, rfl⟩ := stateRep_form hr
  refine G ?_
  intro b4
  refine G ?_
  refine .inl fun be I2 hi2 hc2 => ?_
  refine G ?_
  refine L0 ?_
  exact h I2 [s'] _ (hi1.trans hi2) (.inr ⟨s, t, s', rfl, rfl, hb⟩) (row_lit (css := [_]) hc2 rfl (show 1 < 1099511627776 by decide) rfl (rowsC ⟨hr'.mono hi2, rfl⟩ rows0))
theorem dispRep_form {d : DispD} {cs : List Value} (h : DispRep I d cs) : ∃ x1 y1 x2 y2, cs = [.bool d.receiver, .int .u32 (d.first : Nat), .slice x1 d.last.length y1, .bool d.settled, .bool d.batchable, .slice x2 d.state.length y2] := by
 obtain ⟨v1, v2, e, _, r1, r2⟩ := h
 obtain ⟨x1, y1, rfl⟩ := r1.form
 obtain ⟨x2, y2, rfl⟩ := r2.form
 exact ⟨_, _, _, _, e⟩
theorem DispRep.mono {I J : Imm} (hi : I.le J) {d : DispD} {cs : List Value} (h : DispRep I d cs) : DispRep J d cs := by
 obtain ⟨v1, v2, e, h1, r1, r2⟩ := h
 exact ⟨v1, v2, e, h1, r1.mono hi fun _ _ h => h, r2.mono hi fun _ _ h => h.mono hi⟩
theorem ofDisp_law {d : DispD} {b : Nat} {cs : List Value} (hu : Utf I) (ho : DispRd d) (hS : dispS d 6 cs I) (h : ∀ I' d' cs', I.le I' → DispBack d d' → DispRep I' d' cs' → Q (.tuple #[.agg cs'.toArray, .bool true]) [cs] [] I') :
  WP Tryz.prog 51 #[pt b 0] [(b, cs)] [] I Q := by
 obtain ⟨x2, x4, rfl, q2, q4⟩ := disp_cells hS
 have f2 : ∃ a, x2 = .pointer a := by rcases q2 with ⟨_, rfl⟩ | ⟨n, t, _, b, rfl, _⟩ <;> exact ⟨_, rfl⟩
 have f4 : x4 = .nilIface ∨ ∃ ty b, x4 = .iface ty (pt b 0) := by
  rcases q4 with ⟨_, rfl⟩ | ⟨s, t, _, hs⟩
  ·exact .inl rfl
  ·right; cases hs <;> exact ⟨_, _, rfl⟩
 obtain ⟨a2, rfl⟩ := f2
 rcases f4 with rfl | ⟨ty, b4, rfl⟩
 all_goals
  refine lw K51 [(0,1000)] _ Tryz.func51 ?_
  refine G ?_
  intro b2
  refine G ?_
  refine Cx [] ?_
  refine statesBack_law hu ho.state q4 fun I1 l' v' hi1 hb hr => ?_
  have hr' := hr
  obtain ⟨xb, xc, rfl⟩ := hr.form
  refine G ?_
  refine ⟨[0,1,2,3,4,5,6,7,8,9,10,11,13,14,15,16,17,18,19,20,21,23,12,22,24,25], [], [], [], by kernel_rfl, ?_⟩
  refine G ?_
  refine .inr ?_
  refine G ?_
  refine few_law ho.last (LastAt.mono hi1 q2) fun I2 y hi2 r2 => ?_
  have r2' := r2
  obtain ⟨e5, f5, rfl⟩ := r2.form
  refine G ?_
  refine L0 ?_
  exact h I2 ⟨d.receiver, d.first, d.last.take 1, d.settled, d.batchable, l'⟩ _ (hi1.trans hi2) ⟨rfl, rfl, rfl, rfl, rfl, hb⟩ ⟨_, _, rfl, ho.first, r2', hr'.mono hi2 fun _ _ h => h.mono hi2⟩
theorem ReadDisposition_law {d : DispD} {kids : List V} {e rest : List UInt8} {sv : Value} (hu : Utf I) (ho : DispRd d) (hvar : Variant (dispOf d) kids) (he : Enc (.mk 21 0 [] kids 0 [vNum 5 21]) e) (hb : BytesAt I (e ++ rest) sv) (hlen : (e ++ rest).length < 1099511627776)
  (h : ∀ I' d' cs' rv, I.le I' → DispBack d d' → DispRep I' d' cs' → BytesAt I' rest rv → Q (.tuple #[.agg cs'.toArray, rv, .bool true]) [] [] I') : WP Tryz.prog 18 #[sv] [] [] I Q := by
 obtain ⟨base, cap, rfl⟩ := bytes_form hb
 refine law_d (kp := [0,2,3,4,5,6,14,22]) [] (args := [.slice base (e ++ rest).length cap]) Tryz.func18 (by kernel_rfl) (by kernel_rfl) trivial rfl rfl rfl rfl (fun a w => enters_of Tryz.func49 (by kernel_rfl) rfl a w) noValue_49 ?_
 refine G ?_
 intro b2
 refine G ?_
 intro b3
 refine G ?_
 intro b4
 refine G ?_
 refine Cx [] ?_
 refine copied_law hb hlen fun I1 sv1 hi1 hb1 => ?_
 refine G ?_
 refine Cx [] ?_
 refine New_law hb1 fun b => ?_
 refine G ?_
 intro b10
 refine G ?_
 refine Cx [10] ?_ [9]
 refine WP.blk ?_
 refine disp_law (off := 0) ho hvar ⟨hb1, hlen⟩ he rfl fun I2 cs2 hi2 hS hr => ?_
 have hS' := hS
 obtain ⟨x2, x4, rfl, _⟩ := disp_cells hS
 refine G ?_
 refine Cx [10] ?_
 refine ofDisp_law (hu.mono (hi1.trans hi2)) ho hS' fun I3 d' cs' hi3 hob hrep => ?_
 have hrep' := hrep
 obtain ⟨_, _, _, _, rfl⟩ := dispRep_form hrep
 refine G ?_
 refine ⟨[0,1,2,3,4,5,6], [], [13], [27], by kernel_rfl, ?_⟩
 refine G ?_
 refine .inr ?_
 refine G ?_
 refine WP.blk ?_
 refine Bytes_law (off := 0 + e.length) ⟨bytes_mono (hi2.trans hi3) hb1, hlen⟩ (by simp) fun rv hrv => ?_
 rw [hr] at hrv
 obtain ⟨rb, rc, rfl⟩ := bytes_form hrv
 refine G ?_
 refine ⟨fun y J => BytesAt J rest y, ?_, ⟨_, I3, .refl I3, hrv⟩, fun y J hJ hy => ?_⟩
 ·refine copied_law hrv (by simp at hlen; omega) fun I4 y hi4 hy => ⟨rfl, hy⟩
 obtain ⟨yb, yc, rfl⟩ := bytes_form hy
 refine G ?_
 refine L0 ?_
 exact h J d' _ _ (hi1.trans (hi2.trans (hi3.trans hJ))) hob (hrep'.mono hJ) hy
end ye
def StateArg (I : Imm) (p : Int × StateD) (cs : List Value) : Prop := ∃ v1 v2, cs = [.int .i64 p.1, .int .u32 (p.2.number : Nat), .int .u64 (p.2.offset : Nat), v1, .bool p.2.failed, .bool p.2.elsewhere, v2] ∧
 (-9223372036854775808 ≤ p.1 ∧ p.1 < 9223372036854775808) ∧ p.2.number < 4294967296 ∧ p.2.offset < 18446744073709551616 ∧ Row 3 (FaultRep I) I p.2.faults v1 ∧ VsRep I p.2.ann v2
def sOf (p : Int × StateD) : StateD := { p.2 with code := p.1.toNat }
theorem StateArg.mono {I J : Imm} (hi : I.le J) {p : Int × StateD} {cs : List Value} (h : StateArg I p cs) : StateArg J p cs := by
 obtain ⟨v1, v2, e, h1, h2, h3, r1, r2⟩ := h
 exact ⟨v1, v2, e, h1, h2, h3, r1.mono hi (fun _ _ h => h.mono hi), r2.mono hi⟩
theorem StateArg.rep {I : Imm} {p : Int × StateD} {cs : List Value} (h : StateArg I p cs) (hz : 0 ≤ p.1) : StateRep I (sOf p) cs := by
 obtain ⟨z, s⟩ := p
 obtain ⟨v1, v2, e, h1, h2, h3, r1, r2⟩ := h
 simp only at hz h1 e
 refine ⟨v1, v2, ?_, by simp only [sOf]; omega, h2, h3, r1, r2⟩
 rw [e]
 simp only [sOf]
 rw [Int.toNat_of_nonneg hz]
theorem Row.map {α β : Type} {sz : Nat} {Rp : α → List Value → Prop} {Rp' : β → List Value → Prop} {I : Imm} {l : List α} {v : Value} {f : α → β} (h : Row sz Rp I l v) (hr : ∀ x ∈ l, ∀ c, Rp x c → Rp' (f x) c) : Row sz Rp' I (l.map f) v := by
 obtain ⟨h1, cs, h2, h3, h4⟩ := h
 refine ⟨by simpa using h1, cs, by simpa using h2, by simpa using h3, fun i x c hx hc => ?_⟩
 rw [List.getElem?_map, Option.map_eq_some_iff] at hx
 obtain ⟨y, hy, rfl⟩ := hx
 exact ⟨hr y (List.mem_of_getElem? hy) c (h4 i y c hy hc).1, (h4 i y c hy hc).2⟩
def DispArg (I : Imm) (d : DispD) (l : List (Int × StateD)) (cs : List Value) : Prop := ∃ v1 v2, cs = [.bool d.receiver, .int .u32 (d.first : Nat), v1, .bool d.settled, .bool d.batchable, v2] ∧ d.first < 4294967296 ∧ Row 1 U32Rep I d.last v1 ∧ Row 7 (StateArg I) I l v2
theorem DispArg.mono {I J : Imm} (hi : I.le J) {d : DispD} {l : List (Int × StateD)} {cs : List Value} (h : DispArg I d l cs) : DispArg J d l cs := by
 obtain ⟨v1, v2, e, h1, r1, r2⟩ := h
 exact ⟨v1, v2, e, h1, r1.mono hi fun _ _ h => h, r2.mono hi fun _ _ h => h.mono hi⟩
theorem DispArg.rep {I : Imm} {d : DispD} {l : List (Int × StateD)} {cs : List Value} (h : DispArg I d l cs) (hd : d.state = l.map sOf) (hz : ∀ p ∈ l, 0 ≤ p.1) : DispRep I d cs := by
 obtain ⟨v1, v2, e, h1, r1, r2⟩ := h
 exact ⟨v1, v2, e, h1, r1, by rw [hd]; exact r2.map fun x hx c hc => hc.rep (hz x hx)⟩
theorem dispArg_form {I : Imm} {d : DispD} {l : List (Int × StateD)} {cs : List Value} (h : DispArg I d l cs) : ∃ x1 y1 x2 y2, cs = [.bool d.receiver, .int .u32 (d.first : Nat), .slice x1 d.last.length y1, .bool d.settled, .bool d.batchable, .slice x2 l.length y2] := by
 obtain ⟨v1, v2, e, _, r1, r2⟩ := h
 obtain ⟨x1, y1, rfl⟩ := r1.form
 obtain ⟨x2, y2, rfl⟩ := r2.form
 exact ⟨_, _, _, _, e⟩
theorem stateArg_form {I : Imm} {p : Int × StateD} {cs : List Value} (h : StateArg I p cs) : ∃ x1 y1 x2 y2, cs = [.int .i64 p.1, .int .u32 (p.2.number : Nat), .int .u64 (p.2.offset : Nat), .slice x1 p.2.faults.length y1, .bool p.2.failed, .bool p.2.elsewhere, .slice x2 p.2.ann.length y2] := by
 obtain ⟨v1, v2, e, _, _, _, r1, r2⟩ := h
 obtain ⟨x1, y1, rfl⟩ := r1.form
 obtain ⟨x2, y2, rfl⟩ := r2.form
 exact ⟨_, _, _, _, e⟩
section tn
variable {I : Imm} {Q : Qt}
theorem zzFits13_law {d : DispD} {l : List (Int × StateD)} {cs : List Value} (ho : DispArg I d l cs) (h : ∀ r : Bool, Q (.bool r) [] [] I) : WP Tryz.prog 17 #[.agg cs.toArray] [] [] I Q := by
 obtain ⟨v1, v2, rfl, h1, r1, r2⟩ := ho
 have hl1 := r1.1
 have hl2 := r2.1
 obtain ⟨x1, y1, rfl⟩ := r1.form
 obtain ⟨x2, y2, rfl⟩ := r2.form
 refine lw K17 [] [.agg #[.bool d.receiver, .int .u32 (d.first : Nat), .slice x1 d.last.length y1, .bool d.settled, .bool d.batchable, .slice x2 l.length y2]] Tryz.func17 ?_
 refine G ?_
 intro b1
 refine G ?_
 split
 ·refine G ?_
  refine L0 ?_
  exact h false
 refine G ?_
 split
 ·refine G ?_
  refine L0 ?_
  exact h false
 refine G ?_
 refine L0 ?_
 exact h true
theorem askedState_law {p : Int × StateD} {cs : List Value} (hu : Utf I) (ho : StateArg I p cs) (h : ∀ I' (r : Bool), I.le I' → (r = true → 0 ≤ p.1 ∧ StateAsked (sOf p)) → Q (.bool r) [] [] I') : WP Tryz.prog 81 #[.agg cs.toArray] [] [] I Q := by
 obtain ⟨v1, v2, rfl, h1, h2, h3, r1, r2⟩ := ho
 have hl1 := r1.1
 have hl2 := r2.1
 have r1' := r1
 have r2' := r2
 obtain ⟨x1, y1, rfl⟩ := r1.form
 obtain ⟨x2, y2, rfl⟩ := r2.form
 obtain ⟨c, c0, n, o, fs, fa, el, an⟩ := p
 simp only at h1 h2 h3 r1 r2 r1' r2' hl1 hl2 ⊢
 refine lw K81 [] [.agg #[.int .i64 c, .int .u32 (n : Nat), .int .u64 (o : Nat), .slice x1 fs.length y1, .bool fa, .bool el, .slice x2 an.length y2]] Tryz.func81 ?_
 refine G ?_
 intro b1
 refine G ?_
 split
 ·rename_i e _
  obtain rfl : c = 35 := by omega
  have fin : ∀ r : Bool, Q (.bool r) [] [] I := fun r => h I r (.refl I) fun _ => ⟨of_decide_eq_true rfl, .inl rfl⟩
  refine G ?_
  split
  case h_2 =>
   refine G ?_
   refine L0 ?_
   exact fin _
  cases fa <;> cases el
  all_goals
   refine G ?_
  all_goals first
   | (refine L0 ?_; exact fin _)
   | (split <;> ((refine G ?_); refine L0 ?_; exact fin _))
 ·rename_i e _
  refine G ?_
  split
  ·rename_i e1 _
   obtain rfl : c = 36 := by omega
   have fin : ∀ r : Bool, Q (.bool r) [] [] I := fun r => h I r (.refl I) fun _ => ⟨of_decide_eq_true rfl, .inr (.inl rfl)⟩
   refine G ?_
   split
   case h_2 =>
    refine G ?_
    refine L0 ?_
    exact fin _
   refine G ?_
   split
   case h_2 =>
    refine G ?_
    refine L0 ?_
    exact fin _
   refine G ?_
   split
   case h_2 =>
    refine G ?_
    refine L0 ?_
    exact fin _
   cases fa <;> cases el
   all_goals
    refine G ?_
   all_goals first
    | (refine L0 ?_; exact fin _)
    | (split <;> ((refine G ?_); refine L0 ?_; exact fin _))
  ·rename_i e1 _
   refine G ?_
   split
   ·rename_i e2 _
    obtain rfl : c = 38 := by omega
    have fin : ∀ r : Bool, Q (.bool r) [] [] I := fun r => h I r (.refl I) fun _ => ⟨of_decide_eq_true rfl, .inr (.inr (.inl rfl))⟩
    refine G ?_
    split
    case h_2 =>
     refine G ?_
     refine L0 ?_
     exact fin _
    refine G ?_
    split
    case h_2 =>
     refine G ?_
     refine L0 ?_
     exact fin _
    refine G ?_
    split
    case h_2 =>
     refine G ?_
     refine L0 ?_
     exact fin _
    cases fa <;> cases el
    all_goals
     refine G ?_
    all_goals first
     | (refine L0 ?_; exact fin _)
     | (split <;> ((refine G ?_); refine L0 ?_; exact fin _))
   ·rename_i e2 _
    refine G ?_
    split
    ·rename_i e3 _
     obtain rfl : c = 37 := by omega
     refine G ?_
     split
     case h_2 =>
      refine G ?_
      refine L0 ?_
      exact h I false (.refl I) (by simp)
     refine G ?_
     split
     case h_2 =>
      refine G ?_
      refine L0 ?_
      exact h I false (.refl I) (by simp)
     refine G ?_
     refine Cx [] ?_
     refine askedFaults_law hu r1' fun I1 r hi1 hr => ?_
     cases r with
     | false =>
      refine G ?_
      refine L0 ?_
      exact h I1 false hi1 (by simp)
     | true =>
      have fin : ∀ r : Bool, Q (.bool r) [] [] I1 := fun r => h I1 r hi1 fun _ => ⟨of_decide_eq_true rfl, .inr (.inr (.inr (.inl ⟨rfl, hr rfl⟩)))⟩
      cases fa <;> cases el
      all_goals
       refine G ?_
      all_goals first
       | (refine L0 ?_; exact fin _)
       | (split <;> ((refine G ?_); refine L0 ?_; exact fin _))
    ·rename_i e3 _
     refine G ?_
     split
     ·rename_i e4 _
      obtain rfl : c = 39 := by omega
      refine G ?_
      split
      case h_2 =>
       refine G ?_
       refine L0 ?_
       exact h I false (.refl I) (by simp)
      refine G ?_
      split
      case h_2 =>
       refine G ?_
       refine L0 ?_
       exact h I false (.refl I) (by simp)
      refine G ?_
      split
      case h_2 =>
       refine G ?_
       refine L0 ?_
       exact h I false (.refl I) (by simp)
      refine G ?_
      refine .inl fun bm I2 hi2 hc2 => ?_
      refine G ?_
      refine Cx [] ?_
      refine mapAsked_law (k := 20) (hu.mono hi2) (r2'.mono hi2) ⟨rfl, Nat.le_refl _, rfl, hc2⟩ fun I3 r hi3 hr3 => ?_
      refine G ?_
      refine L0 ?_
      exact h I3 r (hi2.trans hi3) fun e => ⟨of_decide_eq_true rfl, .inr (.inr (.inr (.inr ⟨rfl, hr3 e⟩)))⟩
     ·refine G ?_
      refine L0 ?_
      exact h I false (.refl I) (by simp)
theorem askedStates_law {l : List (Int × StateD)} {v : Value} (hu : Utf I) (hl : Row 7 (StateArg I) I l v) (h : ∀ I' (r : Bool), I.le I' → (r = true → (∀ p ∈ l, 0 ≤ p.1) ∧ StatesAsked (l.map sOf)) → Q (.bool r) [] [] I') : WP Tryz.prog 57 #[v] [] [] I Q := by
 obtain ⟨base, cap, rfl⟩ := hl.form
 have hlen := hl.1
 refine lw K57 [] [.slice base l.length cap] Tryz.func57 ?_
 refine G ?_
 split
 ·rename_i hz _
  obtain rfl : l = [] := List.eq_nil_of_length_eq_zero (by omega)
  refine G ?_
  refine L0 ?_
  exact h I true (.refl I) fun _ => ⟨by simp, by simp, by simp⟩
 ·refine G ?_
  split
  ·rename_i h1 _
   obtain ⟨vb, vo, rfl, _⟩ := hl.some (by omega)
   obtain ⟨cx, hcx, hcl, hcc⟩ := hl.get (i := 0) (x := l[0]) (by simp)
   have hcx' := hcx
   obtain ⟨x1, y1, x2, y2, rfl⟩ := stateArg_form hcx
   refine G ?_
   refine ⟨_, _, _, _, 0, rfl, rfl, by omega, ?_⟩
   refine G ?_
   refine ⟨_, .imm hcc, rfl, ?_⟩
   refine G ?_
   refine Cx [] ?_
   refine askedState_law hu hcx' fun I1 r hi1 hr => ?_
   refine G ?_
   refine L0 ?_
   have one : ∀ f ∈ l, f = l[0] := fun f hf => by
    obtain ⟨i, hi⟩ := List.mem_iff_getElem?.1 hf
    have : i = 0 := by have := (List.getElem?_eq_some_iff.1 hi).1; omega
    subst this
    rw [List.getElem?_eq_getElem (by omega)] at hi
    cases hi
    rfl
   refine h I1 r hi1 fun e => ⟨fun f hf => by rw [one f hf]; exact (hr e).1, by simp only [List.length_map]; omega, fun s hs => ?_⟩
   obtain ⟨f, hf, rfl⟩ := List.mem_map.1 hs
   rw [one f hf]
   exact (hr e).2
  ·refine G ?_
   refine L0 ?_
   exact h I false (.refl I) (by simp)
theorem askedDisposition_law {d : DispD} {l : List (Int × StateD)} {cs : List Value} (hu : Utf I) (ho : DispArg I d l cs) (hd : d.state = l.map sOf) (h : ∀ I' (r : Bool), I.le I' → (r = true → (∀ p ∈ l, 0 ≤ p.1) ∧ DispAsked d) → Q (.bool r) [] [] I') : WP Tryz.prog 20 #[.agg cs.toArray] [] [] I Q := by
 obtain ⟨v1, v2, rfl, h1, r1, r2⟩ := ho
 have hl1 := r1.1
 have r2' := r2
 obtain ⟨x1, y1, rfl⟩ := r1.form
 obtain ⟨x2, y2, rfl⟩ := r2.form
 refine lw K20 [] [.agg #[.bool d.receiver, .int .u32 (d.first : Nat), .slice x1 d.last.length y1, .bool d.settled, .bool d.batchable, .slice x2 l.length y2]] Tryz.func20 ?_
 refine G ?_
 intro b1
 refine G ?_
 split
 ·rename_i hle _
  refine G ?_
  refine Cx [] ?_
  refine askedStates_law hu r2' fun I1 r hi1 hr => ?_
  refine G ?_
  refine L0 ?_
  exact h I1 r hi1 fun e => ⟨(hr e).1, by omega, by rw [hd]; exact (hr e).2⟩
 ·refine G ?_
  refine L0 ?_
  exact h I false (.refl I) (by simp)
end tn
def dispSample : DispD := ⟨false, 1, [], false, false, []⟩
theorem disp_sample_ok : DispOk dispSample := ⟨⟨by decide, (fun _ h => by cases h), (fun _ h => by cases h)⟩, (fun _ h => by cases h)⟩
section fc
variable {I : Imm} {Q : Qt}
theorem dispSample_rep (I : Imm) : DispRep I dispSample [.bool false, .int .u32 1, .slice none 0 0, .bool false, .bool false, .slice none 0 0] := ⟨_, _, rfl, by decide, .nil, .nil⟩
theorem FnReadDisposition_law {d : DispD} {l : List (Int × StateD)} {cs : List Value} {bv : Value} {forms : Int} {bs : List UInt8} (hu : Utf I) (ha : DispArg I d l cs) (hd : d.state = l.map sOf) (hf : Rng forms) (hb : BytesAt I bs bv) (hbl : bs.length < 1099511627776)
  (h : ∀ I', I.le I' → Q (.bool true) [] [] I') : WP Tryz.prog 5 #[.agg cs.toArray, .int .u64 forms, bv] [] [] I Q := by
 have ha' := ha
 obtain ⟨x1, y1, x2, y2, rfl⟩ := dispArg_form ha
 obtain ⟨bb, bc, rfl⟩ := bytes_form hb
 refine lw K5 [] [.agg #[.bool d.receiver, .int .u32 (d.first : Nat), .slice x1 d.last.length y1, .bool d.settled, .bool d.batchable, .slice x2 l.length y2], .int .u64 forms, .slice bb bs.length bc] Tryz.func5 ?_
 refine G ?_
 intro b3
 refine G ?_
 refine Cx [] ?_
 refine zzFits13_law ha' fun r => ?_
 cases r with
 | false =>
  refine G ?_
  refine L0 ?_
  exact h I (.refl I)
 | true =>
  refine G ?_
  split
  ·refine G ?_
   refine L0 ?_
   exact h I (.refl I)
  refine G ?_
  intro b7
  refine G ?_
  refine Cx [] ?_
  refine DispositionOf_law (dispSample_rep I) fun I2 cs2 hi2 hr2 => ?_
  have hr2' := hr2
  obtain ⟨_, fv, rfl, hfv⟩ := hr2
  obtain ⟨fb, fc, rfl⟩ := hfv.form
  refine G ?_
  intro b28
  refine G ?_
  refine Cx [28] ?_
  refine Put_law hr2' ⟨by decide, by decide⟩ (disp_pv disp_sample_ok) (by simp [dispOf, dispSample, maybeV, flagV, statesV, cntL, V.cnt, vNull, vNum]) fun s1 I3 kb kc e kids hs1 hi3 he hvar helen => ?_
  refine G ?_
  refine Cx [] ?_ [] [29]
  intro I4 hi4 hfz
  have hbe : BytesAt I4 (e ++ []) (.slice kb e.length kc) := by rw [List.append_nil]; exact froz_bytes hfz ⟨_, _, rfl⟩ rfl
  conv => whnf
  refine ReadDisposition_law (hu.mono (hi2.trans (hi3.trans hi4))) disp_sample_ok.rd hvar he hbe (by simp; omega) fun I5 o1 cs1 rv hi5 hback hrep hrest => ?_
  have hrep' := hrep
  obtain ⟨xx1, yy1, xx2, yy2, rfl⟩ := dispRep_form hrep
  obtain ⟨yb, yc, rfl⟩ := bytes_form hrest
  refine G ?_
  intro b8
  refine G ?_
  refine ⟨[0,1,2,4,3,5,6,7,8], [], [], [], by kernel_rfl, ?_⟩
  refine G ?_
  refine .inr ?_
  refine G ?_
  refine DispositionOf_law (dispSample_rep I5) fun I6 cs6 hi6 hr6 => ?_
  have hr6' := hr6
  obtain ⟨_, fv6, rfl, hfv6⟩ := hr6
  obtain ⟨gb, gc, rfl⟩ := hfv6.form
  refine G ?_
  refine .inr ?_
  refine G ?_
  refine DispositionOf_law (hrep'.mono hi6) fun I7 cs7 hi7 hr7 => ?_
  have hr7' := hr7
  obtain ⟨_, fv7, rfl, hfv7⟩ := hr7
  obtain ⟨ub, uc, rfl⟩ := hfv7.form
  refine G ?_
  refine .inr ?_
  refine G ?_
  refine Same_law (hr6'.mono hi7) hr7' rfl (Nat.le_refl 6) (disp_same disp_sample_ok hback) fun I8 hi8 => ?_
  have hI8 : I.le I8 := hi2.trans (hi3.trans (hi4.trans (hi5.trans (hi6.trans (hi7.trans hi8)))))
  clear hr7' hfv7 hr6' hfv6 hrep' hrest hbe hfz hr2' hfv
  refine G ?_
  refine Cx [] ?_
  refine askedDisposition_law (hu.mono hI8) (ha'.mono hI8) hd fun I9 r hi9 hask => ?_
  have hI9 := hI8.trans hi9
  cases r with
  | false =>
   refine G ?_
   refine L0 ?_
   exact h I9 hI9
  | true =>
   obtain ⟨hz0, hask⟩ := hask rfl
   have hll : d.state.length = l.length := by rw [hd, List.length_map]
   have hor : DispRep I d [.bool d.receiver, .int .u32 (d.first : Nat), .slice x1 d.last.length y1, .bool d.settled, .bool d.batchable, .slice x2 l.length y2] := ha'.rep hd hz0
   refine G ?_
   refine Cx [] ?_
   refine DispositionOf_law (hor.mono hI9) fun I10 cs10 hi10 hr10 => ?_
   have hr10' := hr10
   obtain ⟨_, fv10, rfl, hfv10⟩ := hr10
   obtain ⟨pb, pc, rfl⟩ := hfv10.form
   refine G ?_
   refine Cx [] ?_
   refine Fits_law (hu.mono (hI9.trans hi10)) hr10' fun I11 r hi11 hfit => ?_
   have hI11 := hI9.trans (hi10.trans hi11)
   cases r with
   | false =>
    refine G ?_
    refine L0 ?_
    exact h I11 hI11
   | true =>
    obtain ⟨hfit, hcnt⟩ := hfit rfl
    have hok : DispOk d := disp_ok (lv := 3) hask hfit hor
    clear hr10' hfv10
    refine G ?_
    split
    ·refine G ?_
     refine L0 ?_
     exact h I11 hI11
    refine G ?_
    refine Cx [] ?_
    refine DispositionOf_law (hor.mono hI11) fun I12 cs12 hi12 hr12 => ?_
    have hr12' := hr12
    obtain ⟨_, fv12, rfl, hfv12⟩ := hr12
    obtain ⟨qb, qc, rfl⟩ := hfv12.form
    refine G ?_
    intro b62
    refine G ?_
    refine Cx [62] ?_
    have hcnt2 : cntL ((dispOf d).fields.map Prod.fst) ≤ 1000 := by
     have := cnt_mk 21 0 [] ((dispOf d).fields.map Prod.fst) 0 [vNum 5 (dispOf d).code]
     have h2 : (whole (dispOf d)).cnt = _ := this
     omega
    refine Put_law hr12' hf (disp_pv hok) hcnt2 fun s2 I13 kb2 kc2 e2 kids2 hs2 hi13 he2 hvar2 helen2 => ?_
    have hb13 : BytesAt I13 bs (.slice bb bs.length bc) := bytes_mono (hI11.trans (hi12.trans hi13)) hb
    refine G ?_
    refine .own 63 e2.length bs.length _ _ rfl rfl hb13 (oneAll_bytes _) (by rw [show ti5.bytes = 1 by kernel_rfl]; omega) fun nb nc => ?_
    refine G ?_
    refine Cx [] ?_ [] [63]
    intro I14 hi14 hfz2
    have hI14 := hI11.trans (hi12.trans (hi13.trans hi14))
    have hbe2 : BytesAt I14 (e2 ++ bs) (.slice nb (e2.length + bs.length) nc) := froz_bytesG hfz2 rfl (by rw [List.map_append]) ⟨_, _, rfl⟩ (by rw [List.length_append])
    conv => whnf
    refine ReadDisposition_law (hu.mono hI14) hok.rd hvar2 he2 hbe2 (by simp; omega) fun I15 o2 cs15 rv2 hi15 hback2 hrep2 hrest2 => ?_
    have hI15 := hI14.trans hi15
    have hrep2' := hrep2
    obtain ⟨zx1, zy1, zx2, zy2, rfl⟩ := dispRep_form hrep2
    obtain ⟨yb2, yc2, rfl⟩ := bytes_form hrest2
    refine G ?_
    intro b12
    refine G ?_
    refine ⟨[0,1,2,4,3,5,6,7,8,9,10,11,12,13,14,15,16], [], [], [], by kernel_rfl, ?_⟩
    refine G ?_
    refine .inr ?_
    refine G ?_
    refine DispositionOf_law (hor.mono hI15) fun I16 cs16 hi16 hr16 => ?_
    have hr16' := hr16
    obtain ⟨_, fv16, rfl, hfv16⟩ := hr16
    obtain ⟨gb2, gc2, rfl⟩ := hfv16.form
    refine G ?_
    refine .inr ?_
    refine G ?_
    refine DispositionOf_law (hrep2'.mono hi16) fun I17 cs17 hi17 hr17 => ?_
    have hr17' := hr17
    obtain ⟨_, fv17, rfl, hfv17⟩ := hr17
    obtain ⟨ub2, uc2, rfl⟩ := hfv17.form
    refine G ?_
    refine .inr ?_
    refine G ?_
    refine Same_law (hr16'.mono hi17) hr17' rfl (Nat.le_refl 6) (disp_same hok hback2) fun I18 hi18 => ?_
    have hI18 := hI15.trans (hi16.trans (hi17.trans hi18))
    refine G ?_
    refine .inr ?_
    refine G ?_
    refine left_law (bytes_mono (hi16.trans (hi17.trans hi18)) hrest2) (bytes_mono hI18 hb) fun r hr => ?_
    obtain rfl := hr rfl
    refine G ?_
    refine L0 ?_
    exact h I18 hI18
end fc
end Go.Proofs.YtcfglgelckjpmaaGreatDoor
