/- The performative open is read in whatever form it is written: for every input of bulk at most 1048576. -/
import Derived.Test.YtcfglgelckjpmaaGreatDoorB47
import Derived.Test.YtcfglgelckjpmaaGreatDoorB49
import Derived.Test.YtcfglgelckjpmaaGreatDoorB50
import Derived.Test.YtcfglgelckjpmaaGreatDoorCards
import Derived.Test.YtcfglgelckjpmaaGreatDoorTie
import Derived.Deep.DeepHandedRow
import Derived.Deep.DeepWitnessRowRef
import Derived.SizedLaws
set_option linter.all false
namespace Go.Proofs.YtcfglgelckjpmaaGreatDoor
open Go.ChangeShapes Go.WideShapes Go.ChangeAt Go.RowKit Go.Shelf Go.Lib
set_option maxRecDepth 100000
set_option maxHeartbeats 8000000
theorem own : ownKnob Tryz.prog.godebug = none := by kernel_rfl
theorem laidOut : laidOutB Tryz.prog = true := by kernel_rfl
theorem tabsOf {W : World} (hL : laidMetH Tryz.prog Rows.fnReadOpenRow.laid W) : Utf (imW W) := by
 have h1 := Lib.laidMet.reads hL (.tail _ (.tail _ (.head _)))
 have h2 := Lib.laidMet.reads hL (.head _)
 exact utf_of (utf8Tabs_of_readsT (U8Types.of196 Tryz.lays196) ⟨by kernel_rfl, by kernel_rfl, by kernel_rfl, by kernel_rfl, by kernel_rfl, by kernel_rfl, by kernel_rfl⟩ (firstEq ▸ h1) (accEq ▸ h2))
noncomputable def low : Nat := (World.holding Tryz.prog default ⟨#[], #[], []⟩).heap.size
noncomputable def laidWorld (os : Os) : World :=
 let w0 := World.holding Tryz.prog os ⟨#[.cells #[.string ⟨#[69, 79, 70]⟩] 192], #[], []⟩
 let put (h : Array Obj) (g : Nat) (cs : Array Value) : Array Obj := h.modify g fun
  | .cells _ t frozen => .cells cs t frozen
  | o => o
 let h1 := put w0.heap 2 (Lib.firstTab.map fun z => Value.int .u8 z).toArray
 let h2 := put h1 3 ((List.range 16).flatMap fun i => [Value.int .u8 (Lib.accLo i), Value.int .u8 (Lib.accHi i)]).toArray
 let h3 := put h2 4 #[.iface 190 (.pointer (some ⟨low, 0, none⟩))]
 { w0 with heap := h3 }
theorem laid_met (os : Os) (args : Array Value) : laidMet Tryz.prog Rows.fnReadOpenRow.laid ((laidWorld os).forCall (fun _ _ => 0) ⟨#[], args, []⟩).memory :=
 (LaidIn.of_run (l := Rows.fnReadOpenRow.laid) [3, 4, low, 2] 8 (by kernel_rfl) (by kernel_rfl) (by kernel_rfl) (by kernel_rfl)).met
theorem cells_agg (a : Array Value) : (Value.agg a).cells.toList = a.toList := rfl
theorem cells_slice (a : Option Addr) (n c : Nat) : (Value.slice a n c).cells.toList = [.slice a n c] := rfl
theorem FnReadOpen_contract (H : Type) (enc : TypeId × Value → H) (W : World) (base : Nat) (args : Array Value) (ds gs : List (DataW H)) (before : List MemPlace)
  (hval : ∀ (j : Nat) t v, Tryz.f4.params[j]? = some t → args[j]? = some v → Value.okWide Tryz.prog W .any base t v)
  (hW : DataW.Whole enc Tryz.prog Tryz.f4.params.toList Rows.fnReadOpenSpec.vars false W args.toList ds gs before) (hL : laidMetH Tryz.prog Rows.fnReadOpenRow.laid W) (hk : Rows.uptoSmall H (ds ++ gs) = true) :
  Calls Tryz.prog 4 args W fun e W' => ∃ v, e = .returned v ∧ Rows.fnReadOpenSpec.post enc Tryz.prog Tryz.f4 false true false false W args v W' := by
 have hW' := hW
 obtain ⟨p, q, hA0, hV, rfl, hfz, hnd⟩ := hW
 have hA : DataW.TrodAll enc Tryz.prog W 0 (fun _ => true) true Tryz.f4.params.toList args.toList ds p := hA0
 rw [Tryz.params4] at hA hval
 obtain ⟨v0, vs0, d0, ds0, p0, q0, hargs, rfl, rfl, h0, r0⟩ := trodAll_cons hA
 obtain ⟨v1, vs1, d1, ds1, p1, q1, e1, rfl, rfl, h1, r1⟩ := trodAll_cons r0
 obtain ⟨v2, vs2, d2, ds2, p2, q2, e2, rfl, rfl, h2, r2⟩ := trodAll_cons r1
 obtain ⟨rfl, rfl, rfl⟩ := trodAll_nil r2
 subst e1 e2
 obtain rfl : args = #[v0, v1, v2] := by cases args; simp_all
 obtain ⟨rfl, rfl⟩ := trodVars_none hV
 clear hA0 r0 r1 r2 hA
 have hb : Rows.uptoBulkAll ([d0, d1, d2] ++ []) ≤ 1048576 := of_decide_eq_true hk
 simp only [List.append_nil, Rows.uptoBulkAll] at hb
 have h0k := h0
 have h1k := h1
 have h2k := h2
 obtain ⟨a0, rfl, _⟩ := okWide_struct Tryz.underlying47 (hval 0 47 v0 rfl rfl)
 obtain ⟨n1, rfl, rfl, rfl, w1⟩ := open_int Tryz.underlying23 (hval 1 23 v1 rfl rfl) h1
 obtain ⟨a2, n2, c2, rfl⟩ := okWide_slice Tryz.underlying24 (hval 2 24 v2 rfl rfl)
 obtain ⟨fu0, g0⟩ := h0
 obtain ⟨fu2, g2⟩ := h2
 rw [cells_agg] at g0
 rw [cells_slice] at g2
 obtain ⟨o, z, ha, hz⟩ := open_open (B := 1048576) (by decide) g0 (by simp only; omega)
 obtain ⟨bs, w, ew, hbs, hbl⟩ := open_bytes (B := 1048576) (by decide) g2 (by simp only; omega)
 obtain rfl := List.head_eq_of_cons_eq ew
 have hn1 : Rng n1 := by
  simp only [Lit.wf, Bool.and_eq_true, decide_eq_true_eq] at w1
  have m1 : IntKind.u64.min = 0 := rfl
  have m2 : IntKind.u64.max = 18446744073709551615 := rfl
  exact ⟨by omega, by omega⟩
 have hwp := FnReadOpen_law (tabsOf hL) ha hz hn1 hbs (by omega) (Q := fun v _ Rn _ => v = .bool true ∧ Rn = []) (fun _ _ => ⟨rfl, rfl⟩)
 rw [Array.toArray_toList] at hwp
 refine (hwp.calls W (imW_sat W)).mono ?_
 rintro e W' ⟨v, cs, Rn, I', rfl, hcl, hst, rfl, rfl⟩
 obtain rfl : cs = [] := List.eq_nil_of_length_eq_zero hcl
 have hbel : Below W.heap.size W W' := Step.below hst
 have hlt : ∀ x ∈ p0 ++ ([] ++ (p2 ++ [])), x.block < W.heap.size := fun x hx => hW'.lt x (by simpa using hx)
 refine ⟨_, rfl, _, _, _, [], p0 ++ ([] ++ (p2 ++ [])), [], hW', ?_, ?_, ?_, hbel.frame _, fun h => by cases h⟩
 ·exact trodAll_cons_mk (shut_bool Tryz.underlying4 _) trodAll_mk0
 ·refine trodAll_cons_mk (Below.trod laidOut (by kernel_rfl) (of_decide_eq_true (by kernel_rfl)) h0k hbel fun x hx => hlt x (by simp [hx])) ?_
  refine trodAll_cons_mk (shut_int Tryz.underlying23 w1) ?_
  exact trodAll_cons_mk (Below.trod laidOut (by kernel_rfl) (of_decide_eq_true (by kernel_rfl)) h2k hbel fun x hx => hlt x (by simp [hx])) trodAll_mk0
 ·rfl
theorem op_reads (os : Os) {H : Type} (enc : TypeId × Value → H) : ∃ places, DataW.whole enc Tryz.prog ((laidWorld os).forCall (fun _ _ => 0) ⟨#[], #[.agg #[.string ⟨#[]⟩, .string ⟨#[]⟩, .int .u32 0, .int .u16 0, .int .i64 0, .slice none 0 0, .slice none 0 0, .slice none 0 0, .slice none 0 0, .slice none 0 0], .int .u64 0, .slice none 0 0], []⟩).memory Tryz.f4.params.toList Rows.fnReadOpenSpec.vars false #[Value.agg #[.string ⟨#[]⟩, .string ⟨#[]⟩, .int .u32 0, .int .u16 0, .int .i64 0, .slice none 0 0, .slice none 0 0, .slice none 0 0, .slice none 0 0, .slice none 0 0], .int .u64 0, .slice none 0 0].toList 8 = some ([.agg [.lit (.string []), .lit (.string []), .lit (.int .u32 0), .lit (.int .u16 0), .lit (.int .i64 0), .nil, .nil, .nil, .nil, .nil], .lit (.int .u64 0), .nil], [], places) :=
 ⟨[], by kernel_rfl⟩
theorem op_lifted (os : Os) (started : os.Started) (H : Type) (enc : TypeId × Value → H) (F : Stop.Interp) :
  ReturnsInHanded {} Tryz.checked os 4 .any ((Rows.OpenSpec.upto Rows.fnReadOpenSpec).preRow enc Tryz.prog Tryz.f4 Rows.fnReadOpenUptoRow.domain false Rows.fnReadOpenUptoRow.laid) (((Rows.OpenSpec.upto Rows.fnReadOpenSpec).at F).post enc Tryz.prog Tryz.f4 false true false false) := by
 obtain ⟨places, hx⟩ := op_reads os enc
 refine returnsInHanded_of_row (C := Tryz.checked) (s := Rows.OpenSpec.upto Rows.fnReadOpenSpec) own started (by kernel_rfl) Tryz.func4
  (witness_row_atRef (enc := enc) (C := Tryz.checked) false (laidWorld os) #[.agg #[.string ⟨#[]⟩, .string ⟨#[]⟩, .int .u32 0, .int .u16 0, .int .i64 0, .slice none 0 0, .slice none 0 0, .slice none 0 0, .slice none 0 0, .slice none 0 0], .int .u64 0, .slice none 0 0] rfl (by kernel_rfl) (by kernel_rfl) (by kernel_rfl)
   (OpenSpec.preRow_of_cond 8 hx (by kernel_rfl) (fun k hk => by cases hk; kernel_rfl) (by kernel_rfl) (laid_met os _))) ?_
 intro W base args ds gs before hval hW _ hcond _ hL _ _
 exact FnReadOpen_contract H enc W base args ds gs before hval hW hL (hcond _ rfl)
theorem op_closed : joinedFacts Tryz.pinned.checked.prog 4 Tryz.f4 (Rows.OpenSpec.upto Rows.fnReadOpenSpec).bare Rows.fnReadOpenUptoRow = true := by
 unfold joinedFacts
 iterate 32 refine Bool.and_eq_true_iff.2 ⟨?_, by as_aux_lemma => kernel_rfl⟩
 as_aux_lemma => kernel_rfl
theorem op_named : Tryz.pinned.checked.prog.funcNamed Rows.fnReadOpenUptoRow.func = some 4 := by kernel_rfl
theorem op_inst : Tryz.f4.isInstance Tryz.pinned.checked.prog Rows.fnReadOpenUptoRow.origin Rows.fnReadOpenUptoRow.targs := of_decide_eq_true (by kernel_rfl)
theorem op_wrap : Tryz.f4.isWrapper Tryz.pinned.checked.prog Rows.fnReadOpenUptoRow.wrapper Rows.fnReadOpenUptoRow.mainSum := by
 unfold Func.isWrapper
 rw [if_neg (of_decide_eq_false (by kernel_rfl))]
 exact ⟨rfl, rfl⟩
theorem op_upto : Rows.FnReadOpenUptoSaid :=
 OpenClaim.holds_of_cond 4 Tryz.f4 rfl rfl rfl rfl rfl rfl rfl ⟨rfl, rfl, rfl, rfl, rfl⟩ rfl rfl rfl rfl rfl op_named Tryz.func4 op_closed op_inst op_wrap
  (fun os started H enc _ F => by rw [OpenClaim.pre_eq_preRow]; exact op_lifted os started H enc F)
theorem op_plain (f : FuncId) (fn : Func) (hf : Tryz.pinned.checked.prog.funcNamed "given.example/pub-saddlebag/laws.FnReadOpen" = some f) (hfn : Tryz.pinned.checked.prog.funcs[f]? = some fn) :
  true = Tryz.pinned.checked.prog.looks [] ∧ ∀ (j : Nat) t, fn.params[j]? = some t → Tryz.pinned.checked.prog.wantsStandIn t = false := by
 obtain rfl : f = 4 := Option.some.inj ((show Tryz.prog.funcNamed "given.example/pub-saddlebag/laws.FnReadOpen" = some 4 by kernel_rfl).symm.trans hf) |>.symm
 obtain rfl : fn = Tryz.f4 := (Option.some.inj (Tryz.func4.symm.trans hfn)).symm
 refine ⟨by kernel_rfl, fun j t ht => ?_⟩
 rw [Tryz.params4] at ht
 have hm := Array.mem_of_getElem? ht
 simp only [List.mem_toArray, List.mem_cons, List.not_mem_nil, or_false] at hm
 rcases hm with rfl | rfl | rfl
 ·exact (show Tryz.prog.wantsStandIn 47 = false by kernel_rfl)
 ·exact (show Tryz.prog.wantsStandIn 23 = false by kernel_rfl)
 ·exact (show Tryz.prog.wantsStandIn 24 = false by kernel_rfl)
theorem op_wf : Rows.fnReadOpenUptoRow.wfByText (Rows.OpenSpec.upto Rows.fnReadOpenSpec) = true := by kernel_rfl
theorem main_is : Tryz.pinned.checked.prog.mainIs = some (true, (Rows.fnReadOpenUptoCard.stood.harness.2).toList) := by kernel_rfl
theorem op_by : false = Rows.fnReadOpenUptoRow.goesBy Tryz.pinned.checked.prog := by as_aux_lemma => kernel_rfl
theorem FnReadOpen_holds : Rows.FnReadOpenUptoCardSaid :=
 Claim7.holds_tied_plain_at .later [] _ _ _ _ op_upto (fun _ h => by cases h) op_wf (fun _ h => by cases h) fnReadOpenUpto_row_tie rfl ⟨rfl, rfl⟩ main_is rfl op_plain op_by
end Go.Proofs.YtcfglgelckjpmaaGreatDoor
