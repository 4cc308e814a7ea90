/- Own machinery, and laws of the functions that the statement reaches (part 20). -/
import Derived.Test.YtcfglgelckjpmaaGreatDoorB6
import Derived.Test.YtcfglgelckjpmaaGreatDoorB19
set_option linter.all false
section
namespace Go.Proofs.YtcfglgelckjpmaaGreatDoor
def zOk : TI → Bool
 | ⟨.int .i64, _, _, .int .i64 (.ofNat 0)⟩ => true
 | ⟨.int .i64, _, _, _⟩ => false
 | _ => true
def allZ : Tt → Bool
 | .no => true
 | .at _ i l r => zOk i && allZ l && allZ r
theorem zOk_sound {i : TI} (h : zOk i = true) (hd : i.d = .int .i64) : i.zero = .int .i64 0 := by
 obtain ⟨d, s, b, z⟩ := i
 simp only at hd
 subst hd
 unfold zOk at h
 split at h
 ·rename_i e; cases e; rfl
 ·cases h
 ·rename_i h1 h2; exact absurd rfl (h2 _ _ _)
theorem allZ_sound : ∀ {T : Tt}, allZ T = true → T.All fun _ i => i.d = .int .i64 → i.zero = .int .i64 0
 | .no, _ => trivial
 | .at _ i l r, h => by
  simp only [allZ, Bool.and_eq_true] at h
  exact ⟨fun hd => zOk_sound h.1.1 hd, allZ_sound h.1.2, allZ_sound h.2⟩
theorem tts_z : allZ tts = true := by kernel_rfl
theorem tt_z : ∀ t i, tt t = some i → i.d = .int .i64 → i.zero = .int .i64 0 := fun _ _ h => Tt.found (allZ_sound tts_z) h
theorem mixed : Tryz.prog.follows .mixedOrders = true := by kernel_rfl
theorem law {kp : List Nat} {f : FuncId} {fn : Func} (locs : List (Nat × Nat)) {args : List Value} {H : List (Nat × List Value)} {R : List Res} {I : Imm} {Q : Value → List (List Value) → List Res → Imm → Prop}
  (hf : Tryz.prog.funcs[f]? = some fn) (hn : (fn.name == "runtime.NumGoroutine") = false) (hlen : Nat.ble args.length fn.ntmps = true) (hlocs : LocsOk args H locs)
  (h : Body Tryz.prog tt kp fn locs args H R I Q) : WP Tryz.prog f args.toArray H R I Q :=
 wp_of_body (fun _ _ h => tt_ok h) tt_z mixed hf hn (Nat.le_of_ble_eq_true hlen) hlocs h
theorem decI {p : Prop} {d : Decidable p} {c : Bool → Prop} (h : p → c true) (h' : ¬ p → c false) : decK d c := by
 unfold decK; split
 ·exact h ‹_›
 ·exact h' ‹_›
theorem wrapS {kd : IntKind} (hs : kd.signed = true) {x : Int} (h1 : -2 ^ (kd.bits - 1) ≤ x) (h2 : x < 2 ^ (kd.bits - 1)) : kd.wrap x = x := by
 have hp : (2 : Int) ^ kd.bits = 2 * 2 ^ (kd.bits - 1) := by cases kd <;> rfl
 have h0 : (0 : Int) < 2 ^ (kd.bits - 1) := by cases kd <;> decide
 generalize hk : (2 : Int) ^ (kd.bits - 1) = K at *
 by_cases hx : 0 ≤ x
 ·have hm : x % 2 ^ kd.bits = x := by rw [hp]; exact Int.emod_eq_of_lt hx (by omega)
  simp only [IntKind.wrap, hm, hk, hs]
  rw [if_neg (by simp; omega)]
 ·have hm : x % 2 ^ kd.bits = x + 2 ^ kd.bits := by
   rw [← Int.add_emod_right]; exact Int.emod_eq_of_lt (by omega) (by omega)
  simp only [IntKind.wrap, hm, hk, hs]
  rw [if_pos (by simp; omega)]
  omega
theorem w64 {x : Int} (h : -9223372036854775808 ≤ x ∧ x < 9223372036854775808) : IntKind.i64.wrap x = x :=
 wrapS rfl (by simp only [IntKind.bits]; omega) (by simp only [IntKind.bits]; omega)
theorem w32 {x : Int} (h : -2147483648 ≤ x ∧ x < 2147483648) : IntKind.i32.wrap x = x :=
 wrapS rfl (by simp only [IntKind.bits]; omega) (by simp only [IntKind.bits]; omega)
theorem wrapU {kd : IntKind} (hs : kd.signed = false) {x : Int} (h1 : 0 ≤ x) (h2 : x < 2 ^ kd.bits) : kd.wrap x = x := by
 have hm : x % 2 ^ kd.bits = x := Int.emod_eq_of_lt h1 h2
 simp only [IntKind.wrap, hm, hs, Bool.false_and, Bool.false_eq_true, if_false]
theorem wu64 {x : Int} (h : 0 ≤ x ∧ x < 18446744073709551616) : IntKind.u64.wrap x = x :=
 wrapU rfl h.1 (by simp only [IntKind.bits]; omega)
theorem wu8 {x : Int} (h : 0 ≤ x ∧ x < 256) : IntKind.u8.wrap x = x :=
 wrapU rfl h.1 (by simp only [IntKind.bits]; omega)
theorem wu32 {x : Int} (h : 0 ≤ x ∧ x < 4294967296) : IntKind.u32.wrap x = x :=
 wrapU rfl h.1 (by simp only [IntKind.bits]; omega)
theorem wu16 {x : Int} (h : 0 ≤ x ∧ x < 65536) : IntKind.u16.wrap x = x :=
 wrapU rfl h.1 (by simp only [IntKind.bits]; omega)
theorem G {p q : Prop} (h : q) (e : q → p := by intro goOn; (conv => whnf); (repeat (first | (refine ⟨_, w64 (by clear goOn; omega), ?_⟩; conv => whnf) | (refine ⟨_, wu64 (by clear goOn; omega), ?_⟩; conv => whnf) | (refine ⟨_, wu32 (by clear goOn; omega), ?_⟩; conv => whnf) | (refine ⟨_, wu16 (by clear goOn; omega), ?_⟩; conv => whnf) | (refine ⟨_, wu8 (by clear goOn; omega), ?_⟩; conv => whnf) | (refine ⟨_, rfl, ?_⟩; conv => whnf))); exact goOn) : p := e h
abbrev Qt := Value → List (List Value) → List Res → Imm → Prop
theorem L0 {hids : List Nat} {s : St} {v : Value} {Q : Qt} {q : Prop} (h : q) (e : q → Leaf hids s v Q := by intro goOn; exact ⟨⟨[], [], [], [], goOn⟩⟩) : Leaf hids s v Q := e h
theorem Cx {a q : Prop} {p : List Nat → List Nat → List Nat → Prop} (x : List Nat) (h : q) (y : List Nat := []) (z : List Nat := []) (e : q → p x y z := by intro goOn; (conv => whnf); exact goOn) : a ∨ ∃ x y z, p x y z := .inr ⟨x, y, z, e h⟩
theorem lw {f : FuncId} {fn : Func} {H : List (Nat × List Value)} {R : List Res} {I : Imm} {Q : Qt} (kp : List Nat) (locs : List (Nat × Nat)) (args : List Value) (hf : Tryz.prog.funcs[f]? = some fn) (h : Body Tryz.prog tt kp fn locs args H R I Q)
    (hn : (fn.name == "runtime.NumGoroutine") = false := by kernel_rfl) (hlen : Nat.ble args.length fn.ntmps = true := by kernel_rfl) (hlocs : LocsOk args H locs := by first | exact trivial | exact ⟨rfl, trivial⟩ | exact ⟨rfl, rfl, trivial⟩ | exact ⟨rfl, rfl, rfl, trivial⟩) : WP Tryz.prog f args.toArray H R I Q := law locs hf hn hlen hlocs h
def K3 : List Nat := [0,1,2,6,7,8,10,11,12,13,14,22,56]
def K4 : List Nat := [0,1,2,3,6,7,8,10,11,12,13,14,22,55]
def K5 : List Nat := [0,1,2,3,6,7,8,10,11,12,13,14,22,55]
def K7 : List Nat := [0,2]
def K8 : List Nat := [0,1,2,4,5,6,7,11,12,13,14,39,77]
def K9 : List Nat := [0,1,2,3,4]
def K10 : List Nat := [0,2]
def K11 : List Nat := [0,1,2,3]
def K12 : List Nat := [0,1,4]
def K13 : List Nat := [0,1,2,6,10,14,18,22,26,30]
def K15 : List Nat := [0,1,2]
def K16 : List Nat := [0,1,2]
def K17 : List Nat := [0,1,2,6,10]
def K19 : List Nat := [0,1,2]
def K20 : List Nat := [0,1,2]
def K23 : List Nat := [0,2]
def K24 : List Nat := [0,1,4]
def K25 : List Nat := [0,2,3,4,5,7]
def K27 : List Nat := [0,2,5]
def K28 : List Nat := [0,1,2,3,5,12,13,14,15]
def K29 : List Nat := [0,1,2,3,4,5,42,45,46,47,60]
def K30 : List Nat := [0,1,4,12]
def K31 : List Nat := [0,1,3,4,26]
def K32 : List Nat := [0,1,2,4,5,6,7,11]
def K33 : List Nat := [0,1,2,3,4,31]
def K34 : List Nat := [0,1,2]
def K35 : List Nat := [0,1,2,4,5]
def K37 : List Nat := [0,2,4,7,8,9,10,11,16]
def K39 : List Nat := [0,1,2,4]
def K40 : List Nat := [0,2,3,4,5]
def K41 : List Nat := [0,1,4,6]
def K42 : List Nat := [0,1,2,6]
def K43 : List Nat := [0,1,4]
def K44 : List Nat := [0,2,3,5,8,11,12,13,14]
def K45 : List Nat := [0,2,5]
def K46 : List Nat := [0,2]
def K47 : List Nat := [0,2,4,6,7,8,9,10,13,14,15,16,20]
def K48 : List Nat := [0,1,4,5]
def K50 : List Nat := [0,1,4]
def K51 : List Nat := [0,2,3,4,5]
def K52 : List Nat := [0,1,4]
def K53 : List Nat := [0,2,3]
def K54 : List Nat := [0,1,4,7]
def K55 : List Nat := [0,2]
def K56 : List Nat := [0,2,5]
def K57 : List Nat := [0,2]
def K58 : List Nat := [0,1,2,6,7,8,9,11,13,21,25,30,34,35,36,37,41,44,49,56,61,62,63,64,69,74]
def K59 : List Nat := [0,2]
def K60 : List Nat := [0,1,4,5,6,7,8,10,11,12,14,16,25,26,27,28,39]
def K61 : List Nat := [0,2,5]
def K62 : List Nat := [0,1,2]
def K63 : List Nat := [0,1,3,4,5,7,8,10,11,15,28,39,45,51,57,61,62,63,64,75,89,95]
def K64 : List Nat := [0,1,2,3,6,7,8,9,10,24,26,27,28,29,38,46,55]
def K65 : List Nat := [0,1,2,4,5,6,15,20,30,35,45]
def K66 : List Nat := [0,1,2,4,5,6,7,9,106,145,147,148,149,150,157]
def K69 : List Nat := [0,1]
def K70 : List Nat := [0,1]
def K71 : List Nat := [0,1,4,5,6,7,8,10,11,12,14,16,25,26,27,28,39]
def K72 : List Nat := [0,2,3,5,6,7,8,9]
def K73 : List Nat := [0,1,2]
def K74 : List Nat := [0,1,2,4,5,10,21]
def K75 : List Nat := [0,1,2,4,21,23,24,25,26,30]
def K78 : List Nat := [0,2,3,4,5,7]
def K79 : List Nat := [0,2,4]
def K80 : List Nat := [0,1,2,3,9,10,23,30]
def K81 : List Nat := [0,1,2,4,5,27,60,91]
def K82 : List Nat := [0,2,3,4,5,6,7,14,17,25]
def K83 : List Nat := [0,2,12]
def K84 : List Nat := [0,1,4,5,6,7,8,9,10,11,12,13,14,15,16,17,18,19,20,21,22,23,24,25,26,27,28,29,30,31,32,33,34,35,36,37,38,39,40,41,42,43,44,45,46,47,48,49,50,51,52,53,54,55,56,57,58,59,60,61,62,63,64,65,66,67,68,69,70,71,72,73,74,75,76,77,79,80,81,82,83,86,87,90,91,98,104,105,112,118,119,126,132,133,140,146,147,154,160,161,168,174,175,182,188,189,196,201,202,209,215,216,223,229,230,237,243,244,251,257,258,265,271,272,279,285,286,293,299,300,307,313,314,321,327,328,333,334,339,340,345,346,351,352,357,358,363,364,369,370,375,376,381,382,387,388,393,394,399,400,405,406,411,412,417,418,423,424,429,430,435,436,441,442,447,448,457,459,461,467,473,479,485,497,498,505,511,512]
def K86 : List Nat := [0,2,3,5,6,7,8,9,10,11,12,13,14,15,16,17,18,19,20,21,22,23,24,25,26,27,28,29,30,31,32,33,34,35,36,37,38,39,40,41,42,43,44,45,46,47,48,49,50,51,52,55,56,61,62,67,68,73,74,79,80,84,85,90,91,96,97,102,103,108,109,115,116,121,122,128,129,134,135,140,141,145,146,150,151,161,162,172,173,183,184,188,189,193,194,198,199,203,204,208,209,213,214,218,219,223,224,228,229,233,234,238,239,243,244,248,249,253,254,258,259,263,264,280]
def K87 : List Nat := [0,2]
def K88 : List Nat := [0,1,2,3,8,9,11,12,13,18,19,20,21,28,35,51]
def K89 : List Nat := [0,1,3,4,5,6,7,8,14,51]
def K91 : List Nat := [0,1,2,3,4,5,6,7,8,11,16,49,59]
def K92 : List Nat := [0,1,2,3,4,5,14,54,56,57,62,77,84,89,94,101]
def K93 : List Nat := [0,1,2,3,4,5,29,32,60,61,62,63,69,77,81,84,95]
def K94 : List Nat := [0,1,4,6,7,8,9,10,15]
def K95 : List Nat := [0,2,3,4,6,7,8,10,11,12,13,15,16,27,28,31,32,45,46,49,50]
def K96 : List Nat := [0,2,3,4,5]
def K97 : List Nat := [0,2,3,4,5,6,7,14,16,18,20,30]
def K98 : List Nat := [0,2,3,4,5,6,7,8,9,10,11,12,19,23,25,27,35,47,53,61,74,82,93]
def K102 : List Nat := [0,2,3,4,5,6,13,16]
def K103 : List Nat := [0,2,3,4,5,6,13,16]
def K104 : List Nat := [0,2,3,4,5,6,7,8,9,16,18,20,31]
def K105 : List Nat := [0,2,3,4,5,6,7,8,9,16,18,20,31]
def K106 : List Nat := [0,2,3,4,5,6,7,14,16,18,20,30]
def K107 : List Nat := [0,2,3,4,5,12,15]
def K108 : List Nat := [0,2,3,4,5,12,15]
def K109 : List Nat := [0,2,3,4,5,6,13,16]
def K110 : List Nat := [0,2,3,4,5,6,13,16]
def K111 : List Nat := [0,2,3,4,5,6,7,8,9,10,11,12,19,21,23,32,36,45,58]
def K112 : List Nat := [0,2,3,4,5,6,7,8,9,10,11,12,19,21,23,31,35,43,50,59]
def K113 : List Nat := [0,2,3,4,5,6,7,14,16,18,28,30]
def K114 : List Nat := [0,2,3,4,5,6,7,14,18]
def K115 : List Nat := [0,1,4,5,6,7,8,9,10,11,12,19,27,30,39,48,54,55,56,57]
def K116 : List Nat := [0,1,4,5,6,7,8,9,10,11,12,19,27,30,40,49,56,57,58]
def K117 : List Nat := [0,1,4,5,6,7,8,9,10,11,12,19,27,30,40,49,56,57,58]
def K118 : List Nat := [0,1,4,5,6,7,8,9,10,11,12,13,14,15,16,17,24,36,38,40,45,52,53,54,60,69,74,80,81,82,83,93,103,108,115,116,117]
def K119 : List Nat := [0,1,4,5,6,7,8,9,10,11,12,13,14,15,16,23,35,37,39,48,53,59,60,61,62,73,83,88,95,96,97]
def K120 : List Nat := [0,1,4,5,6,7,8,9,10,11,12,13,14,15,16,17,24,36,38,40,45,52,53,54,60,69,74,80,81,82,83,93,103,108,115,116,117]
def K121 : List Nat := [0,1,4,5,6,7,8,9,10,11,12,13,14,15,16,23,35,37,39,48,53,59,60,61,62,73,83,88,95,96,97]
def K122 : List Nat := [0,1,4,5,6,7,8,9,10,11,12,13,20,28,31,41,50,57,58,59]
def K123 : List Nat := [0,1,4,5,6,7,8,9,10,11,12,13,20,28,31,41,50,57,58,59]
def K124 : List Nat := [0,1,4,5,6,7,8,9,10,11,12,13,14,21,30,42,44,46,55,57,58,59,60,65,73,76,77,78,84,87,88,89]
def K125 : List Nat := [0,1,4,5,6,7,8,9,10,11,12,13,14,15,16,17,24,30,39,51,53,55,58,59,60,68,78,86,89,90,91,99,112]
def K126 : List Nat := [0,1,4,5,6,7,8,9,10,11,12,13,14,15,16,17,24,30,39,51,53,55,58,59,60,68,78,86,89,90,91,99,112]
def K128 : List Nat := [0,1,4,5,6,7,8,9,10,11,12,13,20,28,31,41,50,57,58,59]
def K130 : List Nat := [0,1,4,5,6,7,8,9,10,11,12,19,27,30,40,49,56,57,58]
def K131 : List Nat := [0,1,4,5,6,7,8,15,20,28,35,36,37,48]
def K132 : List Nat := [0,1,4,5,6,13]
def K133 : List Nat := [0,1,4,5,6,7,8,9,10,11,18,25,34,42]
def K134 : List Nat := [0,1,4,5,6,7,8,9,10,11,18,25,34,42]
def K135 : List Nat := [0,2,3,4,5,6,9,14,20,22,26,32,37]
def K136 : List Nat := [0,2,3,4,5,7,14,16,18,24,33,40,47,56,65,72,79,87,95,102,109,117,125,133,140,147,154,162,168,174,177,180,183]
def K138 : List Nat := [0,2,3]
def K141 : List Nat := [0,1,2]
def K142 : List Nat := [0,2,3,4,6,7,8,9,10,11,12,21]
def K144 : List Nat := [0,1,2,6,7,9,12,13,14,15]
def K145 : List Nat := [0,1,2,6,7,9,12,13,14,15]
def K146 : List Nat := [0,2]
def K147 : List Nat := [0,1,2,6,7,9,12,13,14,15]
def K148 : List Nat := [0,2]
def K149 : List Nat := [0,1,2,6,7,9,12,13,14,15]
def K150 : List Nat := [0,2]
def K151 : List Nat := [0,1,2,6,7,9,12,13,14,15]
def K152 : List Nat := [0,2]
def K153 : List Nat := [0,1,2,6,7,9,12,13,14,15]
def K154 : List Nat := [0,2]
def K155 : List Nat := [0,1,2,6,7,9,12,13,14,15]
def K156 : List Nat := [0,2]
def K157 : List Nat := [0,1,2,6,7,9,12,13,14,15]
def K158 : List Nat := [0,2]
def K159 : List Nat := [0,1,2,6,7,9,12,13,14,15]
def K160 : List Nat := [0,2]
def K161 : List Nat := [0,1,2,6,7,9,12,13,14,15]
def K162 : List Nat := [0,2]
def K163 : List Nat := [0,1,2,6,7,9,12,13,14,15]
def K164 : List Nat := [0,1,2,6,7,9,12,13,14,15]
def K165 : List Nat := [0,1,2]
def K166 : List Nat := [0,1,2,6,7,9,12,13,14,15]
def K167 : List Nat := [0,1,2]
def K168 : List Nat := [0,1,2,6,7,9,12,13,14,15]
def K169 : List Nat := [0,2]
def K170 : List Nat := [0,1,2,6,7,9,12,13,14,15]
def K171 : List Nat := [0,2]
def K172 : List Nat := [0,1,2,6,7,9,12,13,14,15]
def K173 : List Nat := [0,2]
def K174 : List Nat := [0,1,4,5,6,10]
def K175 : List Nat := [0,1,2,6,7,8,10,11,12,14,15,17,25,26,27,28,33,34,35,36,42,43,44,45,55,66]
def K176 : List Nat := [0,2]
def K177 : List Nat := [0,2,3,4,5,9,19,23]
def K178 : List Nat := [0,1,2,3,4,5,6,7,8,16,60,63,66,67,68,81,88,96,129]
def K179 : List Nat := [0,1,2,3,5,10,32,40,41,42,43,62,78]
def K181 : List Nat := [0,2,3,7,13]
def K182 : List Nat := [0,1,2,4,8,18,19,20,21,64]
def K183 : List Nat := [0,2]
def K184 : List Nat := [0,2,3,4,6,7,8,9,10,11,24,47,58]
def K185 : List Nat := [0,2]
def K186 : List Nat := [0,1,2,3,5,10,13,14,15,16,21]
def K191 : List Nat := [0,2,3,4,5]
def K196 : List Nat := [0,2]
def K197 : List Nat := [0,2,3,4,5,6,7,8,9,10,11,12,19,23,25,33,45,51,59,72,80,91]
def K200 : List Nat := [0,1,4,5,11,22]
def K201 : List Nat := [0,1,2]
def K204 : List Nat := [0,2,3,4,5,7,9,16,18,20,28,34,42]
def K205 : List Nat := [0,1,2,6,7,8,9,10,11,17,26,34,38]
def K207 : List Nat := [0,2,3,4,5,6,7,8,15,19,28]
def K208 : List Nat := [0,2,3,4,5,6,7,8,9,10,11,12,13,14,15,16,17,18,19,20,21,22,23,24,25,26,27,28,29,30,31,32,33,34,35,36,37,38,39,44,48,50,52,58,63,65,72,79,86,93,102,110,119,127,134,141,150,158,166,174,181,188]
def K209 : List Nat := [0,2,3,4,5]
def K210 : List Nat := [0,2,3,4,5,9]
def K213 : List Nat := [0,2,3,4,10]
def K216 : List Nat := [0,2,12]
def K223 : List Nat := [0,2,3,4,5,6,7,8,9,10,13,17,19,22,24,27,29,34,36,40,42,43,48,49]
def K225 : List Nat := [0,2,3,4,5,6,7,16,28,35,41]
def K226 : List Nat := [0,2,3,4,5,6,7,16,29,36,42]
def K227 : List Nat := [0,2,3,86]
def K229 : List Nat := [0,1,4]
def K231 : List Nat := [0,1,4]
def K232 : List Nat := [0,1,4]
def K233 : List Nat := [0,1,4]
def K234 : List Nat := [0,1,4]
def K235 : List Nat := [0,1,4]
def K236 : List Nat := [0,1,4,5,6,7,8,9,16,24,27,36]
def K248 : List Nat := [0,1,4,6,7,8,9,10,11,12,13,14,15,16,17,18,19,20,21,22,23,24,25,26,27,28,29,30,31,32,33,34,35,36,37,38,39,40,41,42,43,44,45,46,47,48,49,50,51,52,53,54,55,56,57,58,59,60,61,62,63,64,65,66,67,68,69,70,71,72,73,74,75,76,77,78,79,80,82,84,88,89,90,96,97,100,106,107,112,113,120,121,126,127,134,135,140,141,148,149,156,157,166,167,173,174,182,183,188,189,196,197,204,205,214,215,223,224,234,235,240,241,248,249,254,255,262,263,268,269,276,277,282,283,290,291,296,297,304,305,310,311,318,319,325,326,334,335,341,342,350,351,357,358,366,367,373,374,382,383,388,389,396,397,402,403,410,411,416,417,424,425,430,431,438,439,444,445,452,453,458,459,466,467,472,473,480,481,486,487,494,495,500,501,508,509,514,515,522,523,528,529,536,537,542,543,550,551,556,557,564,565,570,571,578,579,584,585,592,593,598,599,606,607,612,613,620,621,626,627,634,635]
def K262 : List Nat := [0,1]
def K263 : List Nat := [0,1,5,9]
def K264 : List Nat := [0,1,5,9]
def K265 : List Nat := [0,1]
def K266 : List Nat := [0,1]
def K267 : List Nat := [0,1,9]
def K268 : List Nat := [0,1,9]
def K271 : List Nat := [0,1,4,5,8,13,24]
def K274 : List Nat := [0,1,3,4]
def K310 : List Nat := [0,1]
def K311 : List Nat := [0,1]
def K312 : List Nat := [0,1]
def K362 : List Nat := [0,1,4,5,6]
def K363 : List Nat := [0,2,3,4,5,6,7,8,9,10,11,18,20,22,25,37,47,57]
def K364 : List Nat := [0,1,4,5,6,7,8,15,22,29]
def K365 : List Nat := [0,1,4,5,6]
def K366 : List Nat := [0,1,2,4,9]
def K377 : List Nat := [0,1,2,4]
def K385 : List Nat := [0,1,4,5,6]
def K386 : List Nat := [0,1,4,5,6,7,8,9,10,11,18,25,34,42]
end Go.Proofs.YtcfglgelckjpmaaGreatDoor
end
namespace Go.Proofs.YtcfglgelckjpmaaGreatDoor
set_option maxRecDepth 100000
set_option maxHeartbeats 8000000
theorem slAt_form {I : Imm} {sz n : Nat} {cs : List Value} {v : Value} (h : SlAt I sz n cs v) : ∃ base cap, v = .slice base n cap := by
 unfold SlAt at h
 split at h
 ·exact ⟨_, _, by rw [h.1]⟩
 ·obtain ⟨rfl, rfl, rfl, rfl⟩ := h; exact ⟨_, _, rfl⟩
 ·obtain ⟨rfl, rfl, rfl, rfl⟩ := h; exact ⟨_, _, rfl⟩
 ·exact h.elim
theorem slAt_some {I : Imm} {sz n m cap : Nat} {cs : List Value} {base : Option Addr} (h : SlAt I sz n cs (.slice base m cap)) (hn : 0 < n) : ∃ b off, base = some ⟨b, off, none⟩ ∧ m = n ∧ n ≤ cap ∧ cs.length = n * sz ∧ CellsAt I b off cs := by
 unfold SlAt at h
 split at h
 ·rename_i e
  cases e
  exact ⟨_, _, rfl, h⟩
 ·rename_i e
  cases e
  obtain ⟨rfl, rfl, _⟩ := h
  omega
 ·rename_i e
  cases e
  obtain ⟨rfl, rfl, _⟩ := h
  omega
 ·exact h.elim
theorem slAt_le {I : Imm} {sz n m cap : Nat} {cs : List Value} {base : Option Addr} (h : SlAt I sz n cs (.slice base m cap)) : m = n ∧ n ≤ cap ∧ cs.length = n * sz := by
 unfold SlAt at h
 split at h
 ·rename_i e
  cases e
  exact ⟨h.1, h.2.1, h.2.2.1⟩
 ·rename_i e
  cases e
  obtain ⟨rfl, rfl, rfl, rfl⟩ := h
  simp
 ·rename_i e
  cases e
  obtain ⟨rfl, rfl, rfl, rfl⟩ := h
  simp
 ·exact h.elim
theorem slAt_nil (I : Imm) (sz : Nat) : SlAt I sz 0 [] (.slice none 0 0) := ⟨rfl, rfl, rfl, rfl⟩
theorem slAt_cut {I : Imm} {sz n m cap l u : Nat} {cs : List Value} {base : Option Addr} (h : SlAt I sz n cs (.slice base m cap)) (hl : l ≤ u) (hu : u ≤ n) :
  SlAt I sz (u - l) ((cs.drop (l * sz)).take ((u - l) * sz)) (sliceV base l u cap sz) := by
 obtain ⟨rfl, hc, hlen⟩ := slAt_le h
 unfold sliceV
 cases base with
 | none =>
  unfold SlAt at h
  obtain ⟨_, rfl, rfl, rfl⟩ := h
  have : l = 0 := by omega
  have : u = 0 := by omega
  subst_vars
  simp [SlAt]
 | some a =>
  obtain ⟨b, off, spot⟩ := a
  cases spot with
  | some _ =>
   obtain ⟨_, rfl, rfl, rfl⟩ := h
   have : l = 0 := by omega
   have : u = 0 := by omega
   subst_vars
   simp [SlAt]
  | none =>
   obtain ⟨_, _, _, h4⟩ := h
   have hlen' : ((cs.drop (l * sz)).take ((u - l) * sz)).length = (u - l) * sz := by
    rw [List.length_take, List.length_drop, hlen]
    refine Nat.min_eq_left ?_
    rw [← Nat.sub_mul]
    exact Nat.mul_le_mul_right _ (by omega)
   have key : ∀ o, o = off + l * sz ∨ (u - l = 0) → SlAt I sz (u - l) ((cs.drop (l * sz)).take ((u - l) * sz)) (.slice (some ⟨b, o, none⟩) (u - l) (cap - l)) := fun o ho => by
    refine ⟨rfl, by omega, hlen', fun j x e => ?_⟩
    rw [List.getElem?_take] at e
    split at e
    ·rename_i hj
     rw [List.getElem?_drop] at e
     rcases ho with rfl | ho
     ·rw [Nat.add_assoc]; exact h4 _ _ e
     ·rw [ho] at hj; simp at hj
    ·cases e
   split
   ·exact key off (by omega)
   ·simp only [Option.map_some, add_none]
    exact key _ (.inl rfl)
theorem slAt_cells {I : Imm} {sz n m cap b off : Nat} {cs : List Value} (h : SlAt I sz n cs (.slice (some ⟨b, off, none⟩) m cap)) {j k : Nat} {xs : List Value} (hx : ∀ i x, xs[i]? = some x → cs[k + i]? = some x) (hk : k = j * sz) : CellsAt I b (off + j * sz) xs := by
 intro i x e
 have := h.2.2.2 _ _ (hx i x e)
 rw [hk, ← Nat.add_assoc] at this
 exact this
theorem bytes_form {I : Imm} {bs : List UInt8} {v : Value} (h : BytesAt I bs v) : ∃ base cap, v = .slice base bs.length cap := slAt_form h
theorem bytes_le {I : Imm} {bs : List UInt8} {base : Option Addr} {m cap : Nat} (h : BytesAt I bs (.slice base m cap)) : m = bs.length ∧ bs.length ≤ cap := ⟨(slAt_le h).1, (slAt_le h).2.1⟩
theorem bytes_cut {I : Imm} {bs : List UInt8} {base : Option Addr} {m cap l u : Nat} (h : BytesAt I bs (.slice base m cap)) (hl : l ≤ u) (hu : u ≤ bs.length) : BytesAt I ((bs.drop l).take (u - l)) (sliceV base l u cap 1) := by
 have := slAt_cut h hl hu
 unfold BytesAt
 have hlen : ((bs.drop l).take (u - l)).length = u - l := by simp; omega
 rw [hlen]
 simpa using this
theorem bytes_cell {I : Imm} {bs : List UInt8} {m cap b off j : Nat} {y : UInt8} (h : BytesAt I bs (.slice (some ⟨b, off, none⟩) m cap)) (hy : bs[j]? = some y) : CellsAt I b (off + j * 1) [byteV y] :=
 slAt_cells (k := j) h (fun i x e => by
  cases i with
  | zero => simp at e; subst e; simp [hy]
  | succ i => simp at e) (by simp)
theorem bytes_mono {I J : Imm} (h : I.le J) {bs : List UInt8} {v : Value} (hb : BytesAt I bs v) : BytesAt J bs v := SlAt.mono h hb
theorem bytes_some {I : Imm} {bs : List UInt8} {base : Option Addr} {m cap : Nat} (h : BytesAt I bs (.slice base m cap)) (hn : 0 < bs.length) : ∃ b off, base = some ⟨b, off, none⟩ := by
 obtain ⟨b, off, e, _⟩ := slAt_some h hn
 exact ⟨b, off, e⟩
def bufC (v : Value) (off : Nat) : List Value := [v, .int .i64 (off : Nat)]
structure BufAt (I : Imm) (bs : List UInt8) (v : Value) : Prop where
 by' : BytesAt I bs v
 small : bs.length < 1099511627776
theorem BufAt.mono {I J : Imm} {bs : List UInt8} {v : Value} (h : BufAt I bs v) (hi : I.le J) : BufAt J bs v := ⟨bytes_mono hi h.by', h.small⟩
theorem drop_cons {bs : List UInt8} {off : Nat} {y : UInt8} {r : List UInt8} (h : bs.drop off = y :: r) : off < bs.length ∧ bs[off]? = some y ∧ bs.drop (off + 1) = r := by
 have h1 : off < bs.length := by
  rcases Nat.lt_or_ge off bs.length with h' | h'
  ·exact h'
  ·rw [List.drop_eq_nil_of_le h'] at h; cases h
 refine ⟨h1, ?_, ?_⟩
 ·have := congrArg List.head? h
  simpa [List.head?_drop] using this
 ·have := congrArg List.tail h
  simpa using this
theorem readCheck_law {I : Imm} {b : Nat} {bs : List UInt8} {v : Value} {off : Nat} {n : Int} {Q : Qt} (hv : BufAt I bs v) (hoff : off ≤ bs.length) (hn : 0 ≤ n ∧ n < 4611686018427387904)
  (h : ∀ t : Bool, (t = true ↔ (bs.length : Int) < off + n) → Q (.bool t) [bufC v off] [] I) : WP Tryz.prog 220 #[.pointer (some ⟨b, 0, none⟩), .int .i64 n] [(b, bufC v off)] [] I Q := by
 obtain ⟨hv, hlen⟩ := hv
 obtain ⟨base, cap, rfl⟩ := bytes_form hv
 refine law (kp := [0,1,4]) [(0,1000)] (args := [.pointer (some ⟨b, 0, none⟩), .int .i64 n]) Tryz.func220 (by kernel_rfl) (by kernel_rfl) ⟨rfl, trivial⟩ ?_
 refine G ?_
 refine ⟨[0,1,2,3,4,5,6,7,8,9,10,11,12], [], [], [], by kernel_rfl, ?_⟩
 refine G ?_
 split
 ·rename_i h1 _
  refine G ?_
  refine ⟨⟨[], [], [], [], ?_⟩⟩
  exact h true (by simp [h1])
 ·rename_i h1 _
  refine G ?_
  refine ⟨⟨[], [], [], [], ?_⟩⟩
  exact h false (by simp [h1])
theorem ReadByte_law {I : Imm} {b : Nat} {bs : List UInt8} {v : Value} {off : Nat} {y : UInt8} {r : List UInt8} {Q : Qt} (hv : BufAt I bs v) (hd : bs.drop off = y :: r)
  (h : bs.drop (off + 1) = r → Q (.tuple #[byteV y, .nilIface]) [bufC v (off + 1)] [] I) : WP Tryz.prog 187 #[.pointer (some ⟨b, 0, none⟩)] [(b, bufC v off)] [] I Q := by
 have hv' := hv
 obtain ⟨hv, hlen⟩ := hv
 obtain ⟨hlt, hy, hr⟩ := drop_cons hd
 obtain ⟨base, cap, rfl⟩ := bytes_form hv
 obtain ⟨vb, vo, rfl⟩ := bytes_some hv (by omega)
 refine law (kp := [0,2,3,4,6]) [(0,1000)] (args := [.pointer (some ⟨b, 0, none⟩)]) Tryz.func187 (by kernel_rfl) (by kernel_rfl) ⟨rfl, trivial⟩ ?_
 refine G ?_
 refine .inr ⟨[1000], [], [], ?_⟩
 refine G ?_
 refine readCheck_law hv' (by omega) (by omega) fun t ht => ?_
 obtain rfl : t = false := by cases t; rfl; simp at ht; omega
 refine G ?_
 refine ⟨[0,1,2,3,4,5,6,7,8,9,10], [], [], [], by kernel_rfl, ?_⟩
 refine G ?_
 refine ⟨_, _, _, _, off, rfl, rfl, hlt, ?_⟩
 refine G ?_
 refine ⟨_, bytes_cell hv hy, ?_⟩
 refine G ?_
 refine ⟨⟨[], [], [], [], ?_⟩⟩
 exact h hr
theorem PeekByte_law {I : Imm} {b : Nat} {bs : List UInt8} {v : Value} {off : Nat} {y : UInt8} {r : List UInt8} {Q : Qt} (hv : BufAt I bs v) (hd : bs.drop off = y :: r)
  (h : Q (.tuple #[byteV y, .nilIface]) [bufC v off] [] I) : WP Tryz.prog 221 #[.pointer (some ⟨b, 0, none⟩)] [(b, bufC v off)] [] I Q := by
 have hv' := hv
 obtain ⟨hv, hlen⟩ := hv
 obtain ⟨hlt, hy, hr⟩ := drop_cons hd
 obtain ⟨base, cap, rfl⟩ := bytes_form hv
 obtain ⟨vb, vo, rfl⟩ := bytes_some hv (by omega)
 refine law (kp := [0,2,3,5]) [(0,1000)] (args := [.pointer (some ⟨b, 0, none⟩)]) Tryz.func221 (by kernel_rfl) (by kernel_rfl) ⟨rfl, trivial⟩ ?_
 refine G ?_
 refine .inr ⟨[1000], [], [], ?_⟩
 refine G ?_
 refine readCheck_law hv' (by omega) (by omega) fun t ht => ?_
 obtain rfl : t = false := by cases t; rfl; simp at ht; omega
 refine G ?_
 refine ⟨[0,1,2,3,4,5,6,7,8,9,10,11], [], [], [], by kernel_rfl, ?_⟩
 refine G ?_
 refine ⟨_, _, _, _, off, rfl, rfl, hlt, ?_⟩
 refine G ?_
 refine ⟨_, bytes_cell hv hy, ?_⟩
 refine G ?_
 refine ⟨⟨[], [], [], [], ?_⟩⟩
 exact h
theorem orU {kd : IntKind} (hs : kd.signed = false) {a c p k : Nat} (hp : p = 2 ^ k) (h1 : a < p) (h2 : a + c * p < 2 ^ kd.bits) :
  kd.wrap (BitVec.ofInt kd.bits (a : Nat) ||| BitVec.ofInt kd.bits ((c * p : Nat))).toNat = ((a + c * p : Nat) : Int) := by
 have e : (BitVec.ofInt kd.bits (a : Nat) ||| BitVec.ofInt kd.bits ((c * p : Nat))).toNat = a + c * p := by
  simp only [BitVec.toNat_or, BitVec.ofInt_natCast, BitVec.toNat_ofNat]
  have ha : a < 2 ^ kd.bits := by omega
  have hc : c * p < 2 ^ kd.bits := by omega
  rw [Nat.mod_eq_of_lt ha, Nat.mod_eq_of_lt hc, Nat.or_comm, hp, Nat.mul_comm]
  rw [← Nat.two_pow_add_eq_or_of_lt (by omega), Nat.add_comm]
 rw [e]
 exact wrapU hs (by omega) (by exact_mod_cast h2)
theorem shlU {kd : IntKind} (hs : kd.signed = false) {n p : Nat} {b : Int} (hp : 2 ^ (min b.toNat kd.bits) = p) (h : n * p < 2 ^ kd.bits) : kd.wrap ((n : Int) * 2 ^ (min b.toNat kd.bits)) = ((n * p : Nat) : Int) := by
 have e : (n : Int) * 2 ^ (min b.toNat kd.bits) = ((n * p : Nat) : Int) := by
  rw [← hp]; simp
 rw [e]
 exact wrapU hs (by omega) (by exact_mod_cast h)
theorem Uint16_law {I : Imm} {bs : List UInt8} {v : Value} {y0 y1 : UInt8} {Q : Qt} (hv : BytesAt I bs v) (h0 : bs[0]? = some y0) (h1 : bs[1]? = some y1)
  (h : Q (.int .u16 ((y1.toNat + y0.toNat * 256 : Nat) : Int)) [] [] I) : WP Tryz.prog 198 #[.agg #[], v] [] [] I Q := by
 have hlt : 1 < bs.length := (List.getElem?_eq_some_iff.1 h1).1
 obtain ⟨base, cap, rfl⟩ := bytes_form hv
 obtain ⟨vb, vo, rfl⟩ := bytes_some hv (by omega)
 have := y0.toNat_lt
 have := y1.toNat_lt
 refine law (kp := [0,1,4]) [] (args := [.agg #[], .slice (some ⟨vb, vo, none⟩) bs.length cap]) Tryz.func198 (by kernel_rfl) (by kernel_rfl) trivial ?_
 refine G ?_
 intro b
 refine G ?_
 refine ⟨_, _, _, _, 1, rfl, rfl, hlt, ?_⟩
 refine G ?_
 refine ⟨_, .imm (bytes_cell hv h1), ?_⟩
 refine G ?_
 refine ⟨[0,1,2,3,4,5,6,7,8,9,10], [], [], [], by kernel_rfl, ?_⟩
 refine G ?_
 refine ⟨_, _, _, _, 1, rfl, rfl, hlt, ?_⟩
 refine G ?_
 refine ⟨_, bytes_cell hv h1, ?_⟩
 refine G ?_
 refine ⟨_, _, _, _, 0, rfl, rfl, by omega, ?_⟩
 refine G ?_
 refine ⟨_, bytes_cell hv h0, ?_⟩
 refine G ?_
 refine ⟨by decide, _, shlU (p := 256) rfl (by decide) (by simp only [IntKind.bits]; omega), ?_⟩
 conv => whnf
 refine ⟨_, orU (p := 256) (k := 8) rfl rfl (by omega) (by simp only [IntKind.bits]; omega), ?_⟩
 refine G ?_
 refine ⟨⟨[], [], [], [], ?_⟩⟩
 exact h
theorem Uint32_law {I : Imm} {bs : List UInt8} {v : Value} {y0 y1 y2 y3 : UInt8} {Q : Qt} (hv : BytesAt I bs v) (h0 : bs[0]? = some y0) (h1 : bs[1]? = some y1) (h2 : bs[2]? = some y2) (h3 : bs[3]? = some y3)
  (h : Q (.int .u32 ((y3.toNat + y2.toNat * 256 + y1.toNat * 65536 + y0.toNat * 16777216 : Nat) : Int)) [] [] I) : WP Tryz.prog 190 #[.agg #[], v] [] [] I Q := by
 have hlt : 3 < bs.length := (List.getElem?_eq_some_iff.1 h3).1
 obtain ⟨base, cap, rfl⟩ := bytes_form hv
 obtain ⟨vb, vo, rfl⟩ := bytes_some hv (by omega)
 have := y0.toNat_lt
 have := y1.toNat_lt
 have := y2.toNat_lt
 have := y3.toNat_lt
 refine law (kp := [0,1,4]) [] (args := [.agg #[], .slice (some ⟨vb, vo, none⟩) bs.length cap]) Tryz.func190 (by kernel_rfl) (by kernel_rfl) trivial ?_
 refine G ?_
 intro b
 refine G ?_
 (refine ⟨_, _, _, _, 3, rfl, rfl, by omega, ?_⟩); (refine G ?_); (refine ⟨_, .imm (bytes_cell hv h3), ?_⟩); (refine G ?_)
 refine ⟨[0,1,2,3,4,5,6,7,8,9,10,11,12,13,14,15,16,17,18,19,20,21,22], [], [], [], by kernel_rfl, ?_⟩
 refine G ?_
 (refine ⟨_, _, _, _, 3, rfl, rfl, by omega, ?_⟩); (refine G ?_); (refine ⟨_, bytes_cell hv h3, ?_⟩); (refine G ?_)
 (refine ⟨_, _, _, _, 2, rfl, rfl, by omega, ?_⟩); (refine G ?_); (refine ⟨_, bytes_cell hv h2, ?_⟩); (refine G ?_)
 refine ⟨by decide, _, shlU (p := 256) rfl (by decide) (by simp only [IntKind.bits]; omega), ?_⟩
 conv => whnf
 refine ⟨_, orU (p := 256) (k := 8) rfl rfl (by omega) (by simp only [IntKind.bits]; omega), ?_⟩
 refine G ?_
 (refine ⟨_, _, _, _, 1, rfl, rfl, by omega, ?_⟩); (refine G ?_); (refine ⟨_, bytes_cell hv h1, ?_⟩); (refine G ?_)
 refine ⟨by decide, _, shlU (p := 65536) rfl (by decide) (by simp only [IntKind.bits]; omega), ?_⟩
 conv => whnf
 refine ⟨_, orU (p := 65536) (k := 16) rfl rfl (by omega) (by simp only [IntKind.bits]; omega), ?_⟩
 refine G ?_
 (refine ⟨_, _, _, _, 0, rfl, rfl, by omega, ?_⟩); (refine G ?_); (refine ⟨_, bytes_cell hv h0, ?_⟩); (refine G ?_)
 refine ⟨by decide, _, shlU (p := 16777216) rfl (by decide) (by simp only [IntKind.bits]; omega), ?_⟩
 conv => whnf
 refine ⟨_, orU (p := 16777216) (k := 24) rfl rfl (by omega) (by simp only [IntKind.bits]; omega), ?_⟩
 refine G ?_
 refine L0 ?_
 exact h
theorem Uint64_law {I : Imm} {bs : List UInt8} {v : Value} {y0 y1 y2 y3 y4 y5 y6 y7 : UInt8} {Q : Qt} (hv : BytesAt I bs v) (h0 : bs[0]? = some y0) (h1 : bs[1]? = some y1) (h2 : bs[2]? = some y2) (h3 : bs[3]? = some y3) (h4 : bs[4]? = some y4) (h5 : bs[5]? = some y5) (h6 : bs[6]? = some y6) (h7 : bs[7]? = some y7)
  (h : Q (.int .u64 ((y7.toNat + y6.toNat * 256 + y5.toNat * 65536 + y4.toNat * 16777216 + y3.toNat * 4294967296 + y2.toNat * 1099511627776 + y1.toNat * 281474976710656 + y0.toNat * 72057594037927936 : Nat) : Int)) [] [] I) : WP Tryz.prog 199 #[.agg #[], v] [] [] I Q := by
 have hlt : 7 < bs.length := (List.getElem?_eq_some_iff.1 h7).1
 obtain ⟨base, cap, rfl⟩ := bytes_form hv
 obtain ⟨vb, vo, rfl⟩ := bytes_some hv (by omega)
 have := y0.toNat_lt
 have := y1.toNat_lt
 have := y2.toNat_lt
 have := y3.toNat_lt
 have := y4.toNat_lt
 have := y5.toNat_lt
 have := y6.toNat_lt
 have := y7.toNat_lt
 refine law (kp := [0,1,4]) [] (args := [.agg #[], .slice (some ⟨vb, vo, none⟩) bs.length cap]) Tryz.func199 (by kernel_rfl) (by kernel_rfl) trivial ?_
 refine G ?_
 intro b
 refine G ?_
 (refine ⟨_, _, _, _, 7, rfl, rfl, by omega, ?_⟩); (refine G ?_); (refine ⟨_, .imm (bytes_cell hv h7), ?_⟩); (refine G ?_)
 refine ⟨[0,1,2,3,4,5,6,7,8,9,10,11,12,13,14,15,16,17,18,19,20,21,22,23,24,25,26,27,28,29,30,31,32,33,34,35,36,37,38,39,40,41,42,43,44,45,46], [], [], [], by kernel_rfl, ?_⟩
 refine G ?_
 (refine ⟨_, _, _, _, 7, rfl, rfl, by omega, ?_⟩); (refine G ?_); (refine ⟨_, bytes_cell hv h7, ?_⟩); (refine G ?_)
 (refine ⟨_, _, _, _, 6, rfl, rfl, by omega, ?_⟩); (refine G ?_); (refine ⟨_, bytes_cell hv h6, ?_⟩); (refine G ?_)
 refine ⟨by decide, _, shlU (p := 256) rfl (by decide) (by simp only [IntKind.bits]; omega), ?_⟩
 conv => whnf
 refine ⟨_, orU (p := 256) (k := 8) rfl rfl (by omega) (by simp only [IntKind.bits]; omega), ?_⟩
 refine G ?_
 (refine ⟨_, _, _, _, 5, rfl, rfl, by omega, ?_⟩); (refine G ?_); (refine ⟨_, bytes_cell hv h5, ?_⟩); (refine G ?_)
 refine ⟨by decide, _, shlU (p := 65536) rfl (by decide) (by simp only [IntKind.bits]; omega), ?_⟩
 conv => whnf
 refine ⟨_, orU (p := 65536) (k := 16) rfl rfl (by omega) (by simp only [IntKind.bits]; omega), ?_⟩
 refine G ?_
 (refine ⟨_, _, _, _, 4, rfl, rfl, by omega, ?_⟩); (refine G ?_); (refine ⟨_, bytes_cell hv h4, ?_⟩); (refine G ?_)
 refine ⟨by decide, _, shlU (p := 16777216) rfl (by decide) (by simp only [IntKind.bits]; omega), ?_⟩
 conv => whnf
 refine ⟨_, orU (p := 16777216) (k := 24) rfl rfl (by omega) (by simp only [IntKind.bits]; omega), ?_⟩
 refine G ?_
 (refine ⟨_, _, _, _, 3, rfl, rfl, by omega, ?_⟩); (refine G ?_); (refine ⟨_, bytes_cell hv h3, ?_⟩); (refine G ?_)
 refine ⟨by decide, _, shlU (p := 4294967296) rfl (by decide) (by simp only [IntKind.bits]; omega), ?_⟩
 conv => whnf
 refine ⟨_, orU (p := 4294967296) (k := 32) rfl rfl (by omega) (by simp only [IntKind.bits]; omega), ?_⟩
 refine G ?_
 (refine ⟨_, _, _, _, 2, rfl, rfl, by omega, ?_⟩); (refine G ?_); (refine ⟨_, bytes_cell hv h2, ?_⟩); (refine G ?_)
 refine ⟨by decide, _, shlU (p := 1099511627776) rfl (by decide) (by simp only [IntKind.bits]; omega), ?_⟩
 conv => whnf
 refine ⟨_, orU (p := 1099511627776) (k := 40) rfl rfl (by omega) (by simp only [IntKind.bits]; omega), ?_⟩
 refine G ?_
 (refine ⟨_, _, _, _, 1, rfl, rfl, by omega, ?_⟩); (refine G ?_); (refine ⟨_, bytes_cell hv h1, ?_⟩); (refine G ?_)
 refine ⟨by decide, _, shlU (p := 281474976710656) rfl (by decide) (by simp only [IntKind.bits]; omega), ?_⟩
 conv => whnf
 refine ⟨_, orU (p := 281474976710656) (k := 48) rfl rfl (by omega) (by simp only [IntKind.bits]; omega), ?_⟩
 refine G ?_
 (refine ⟨_, _, _, _, 0, rfl, rfl, by omega, ?_⟩); (refine G ?_); (refine ⟨_, bytes_cell hv h0, ?_⟩); (refine G ?_)
 refine ⟨by decide, _, shlU (p := 72057594037927936) rfl (by decide) (by simp only [IntKind.bits]; omega), ?_⟩
 conv => whnf
 refine ⟨_, orU (p := 72057594037927936) (k := 56) rfl rfl (by omega) (by simp only [IntKind.bits]; omega), ?_⟩
 refine G ?_
 refine L0 ?_
 exact h
theorem getElem?_take_lt {α : Type} {l : List α} {n j : Nat} {x : α} (h : l[j]? = some x) (hj : j < n) : (l.take n)[j]? = some x := by
 rw [List.getElem?_take_of_lt hj, h]
theorem ReadUint16_law {I : Imm} {b : Nat} {bs : List UInt8} {v : Value} {off : Nat} {y0 y1 : UInt8} {r : List UInt8} {Q : Qt} (hv : BufAt I bs v) (hd : bs.drop off = y0 :: y1 :: r)
  (h : bs.drop (off + 2) = r → Q (.tuple #[.int .u16 ((y1.toNat + y0.toNat * 256 : Nat) : Int), .nilIface]) [bufC v (off + 2)] [] I) : WP Tryz.prog 192 #[.pointer (some ⟨b, 0, none⟩)] [(b, bufC v off)] [] I Q := by
 have hv' := hv
 obtain ⟨hv, hlen⟩ := hv
 have hlt : off + 2 ≤ bs.length := by
  have := congrArg List.length hd
  simp at this
  omega
 have hr : bs.drop (off + 2) = r := by
  have := congrArg (List.drop 2) hd
  rw [List.drop_drop] at this
  exact this
 obtain ⟨base, cap, rfl⟩ := bytes_form hv
 have hle := (bytes_le hv).2
 refine law (kp := [0,2,3,4,6]) [(0,1000)] (args := [.pointer (some ⟨b, 0, none⟩)]) Tryz.func192 (by kernel_rfl) (by kernel_rfl) ⟨rfl, trivial⟩ ?_
 refine G ?_
 refine .inr ⟨[1000], [], [], ?_⟩
 refine G ?_
 refine readCheck_law hv' (by omega) (by omega) fun t ht => ?_
 obtain rfl : t = false := by cases t; rfl; simp at ht; omega
 refine G ?_
 refine ⟨[0,1,2,3,4,5,6,7,8,9,10,11], [], [], [], by kernel_rfl, ?_⟩
 refine G ?_
 refine ⟨off, bs.length, rfl, rfl, by omega, by omega, ?_⟩
 intro sv hsv
 refine G ?_
 have hb := bytes_cut hv (l := off) (u := bs.length) (by omega) (by omega)
 rw [hd] at hb
 refine .inr ?_
 refine G ?_
 refine Uint16_law (hsv ▸ hb) (y0 := y0) (y1 := y1) (getElem?_take_lt rfl (by omega)) (getElem?_take_lt rfl (by omega)) ?_
 refine G ?_
 refine L0 ?_
 exact h hr
theorem ReadUint32_law {I : Imm} {b : Nat} {bs : List UInt8} {v : Value} {off : Nat} {y0 y1 y2 y3 : UInt8} {r : List UInt8} {Q : Qt} (hv : BufAt I bs v) (hd : bs.drop off = y0 :: y1 :: y2 :: y3 :: r)
  (h : bs.drop (off + 4) = r → Q (.tuple #[.int .u32 ((y3.toNat + y2.toNat * 256 + y1.toNat * 65536 + y0.toNat * 16777216 : Nat) : Int), .nilIface]) [bufC v (off + 4)] [] I) : WP Tryz.prog 193 #[.pointer (some ⟨b, 0, none⟩)] [(b, bufC v off)] [] I Q := by
 have hv' := hv
 obtain ⟨hv, hlen⟩ := hv
 have hlt : off + 4 ≤ bs.length := by
  have := congrArg List.length hd
  simp at this
  omega
 have hr : bs.drop (off + 4) = r := by
  have := congrArg (List.drop 4) hd
  rw [List.drop_drop] at this
  exact this
 obtain ⟨base, cap, rfl⟩ := bytes_form hv
 have hle := (bytes_le hv).2
 refine law (kp := [0,2,3,4,6]) [(0,1000)] (args := [.pointer (some ⟨b, 0, none⟩)]) Tryz.func193 (by kernel_rfl) (by kernel_rfl) ⟨rfl, trivial⟩ ?_
 refine G ?_
 refine .inr ⟨[1000], [], [], ?_⟩
 refine G ?_
 refine readCheck_law hv' (by omega) (by omega) fun t ht => ?_
 obtain rfl : t = false := by cases t; rfl; simp at ht; omega
 refine G ?_
 refine ⟨[0,1,2,3,4,5,6,7,8,9,10,11], [], [], [], by kernel_rfl, ?_⟩
 refine G ?_
 refine ⟨off, bs.length, rfl, rfl, by omega, by omega, ?_⟩
 intro sv hsv
 refine G ?_
 have hb := bytes_cut hv (l := off) (u := bs.length) (by omega) (by omega)
 rw [hd] at hb
 refine .inr ?_
 refine G ?_
 refine Uint32_law (hsv ▸ hb) (y0 := y0) (y1 := y1) (y2 := y2) (y3 := y3) (getElem?_take_lt rfl (by omega)) (getElem?_take_lt rfl (by omega)) (getElem?_take_lt rfl (by omega)) (getElem?_take_lt rfl (by omega)) ?_
 refine G ?_
 refine L0 ?_
 exact h hr
theorem ReadUint64_law {I : Imm} {b : Nat} {bs : List UInt8} {v : Value} {off : Nat} {y0 y1 y2 y3 y4 y5 y6 y7 : UInt8} {r : List UInt8} {Q : Qt} (hv : BufAt I bs v) (hd : bs.drop off = y0 :: y1 :: y2 :: y3 :: y4 :: y5 :: y6 :: y7 :: r)
  (h : bs.drop (off + 8) = r → Q (.tuple #[.int .u64 ((y7.toNat + y6.toNat * 256 + y5.toNat * 65536 + y4.toNat * 16777216 + y3.toNat * 4294967296 + y2.toNat * 1099511627776 + y1.toNat * 281474976710656 + y0.toNat * 72057594037927936 : Nat) : Int), .nilIface]) [bufC v (off + 8)] [] I) : WP Tryz.prog 188 #[.pointer (some ⟨b, 0, none⟩)] [(b, bufC v off)] [] I Q := by
 have hv' := hv
 obtain ⟨hv, hlen⟩ := hv
 have hlt : off + 8 ≤ bs.length := by
  have := congrArg List.length hd
  simp at this
  omega
 have hr : bs.drop (off + 8) = r := by
  have := congrArg (List.drop 8) hd
  rw [List.drop_drop] at this
  exact this
 obtain ⟨base, cap, rfl⟩ := bytes_form hv
 have hle := (bytes_le hv).2
 refine law (kp := [0,2,3,4,6]) [(0,1000)] (args := [.pointer (some ⟨b, 0, none⟩)]) Tryz.func188 (by kernel_rfl) (by kernel_rfl) ⟨rfl, trivial⟩ ?_
 refine G ?_
 refine .inr ⟨[1000], [], [], ?_⟩
 refine G ?_
 refine readCheck_law hv' (by omega) (by omega) fun t ht => ?_
 obtain rfl : t = false := by cases t; rfl; simp at ht; omega
 refine G ?_
 refine ⟨[0,1,2,3,4,5,6,7,8,9,10,11,12,13,14,15,16], [], [], [], by kernel_rfl, ?_⟩
 refine G ?_
 refine ⟨off, (off + 8), rfl, rfl, by omega, by omega, ?_⟩
 intro sv hsv
 refine G ?_
 have hb := bytes_cut hv (l := off) (u := (off + 8)) (by omega) (by omega)
 rw [hd] at hb
 refine .inr ?_
 refine G ?_
 refine Uint64_law (hsv ▸ hb) (y0 := y0) (y1 := y1) (y2 := y2) (y3 := y3) (y4 := y4) (y5 := y5) (y6 := y6) (y7 := y7) (getElem?_take_lt rfl (by omega)) (getElem?_take_lt rfl (by omega)) (getElem?_take_lt rfl (by omega)) (getElem?_take_lt rfl (by omega)) (getElem?_take_lt rfl (by omega)) (getElem?_take_lt rfl (by omega)) (getElem?_take_lt rfl (by omega)) (getElem?_take_lt rfl (by omega)) ?_
 refine G ?_
 refine L0 ?_
 exact h hr
theorem Next_law {I : Imm} {b : Nat} {bs : List UInt8} {v : Value} {off n : Nat} {Q : Qt} (hv : BufAt I bs v) (hn : off + n ≤ bs.length)
  (h : ∀ sv, BytesAt I ((bs.drop off).take n) sv → Q (.tuple #[sv, .bool true]) [bufC v (off + n)] [] I) : WP Tryz.prog 189 #[.pointer (some ⟨b, 0, none⟩), .int .i64 (n : Nat)] [(b, bufC v off)] [] I Q := by
 have hv' := hv
 obtain ⟨hv, hlen⟩ := hv
 obtain ⟨base, cap, rfl⟩ := bytes_form hv
 have hle := (bytes_le hv).2
 refine law (kp := [0,1,4,5,7,10]) [(0,1000)] (args := [.pointer (some ⟨b, 0, none⟩), .int .i64 (n : Nat)]) Tryz.func189 (by kernel_rfl) (by kernel_rfl) ⟨rfl, trivial⟩ ?_
 refine G ?_
 refine .inr ⟨[1000], [], [], ?_⟩
 refine G ?_
 refine readCheck_law hv' (by omega) (by omega) fun t ht => ?_
 obtain rfl : t = false := by cases t; rfl; simp at ht; omega
 refine G ?_
 refine ⟨[0,1,2,3,4,5,6,7,8,9,10,11,12,13,14,15], [], [], [], by kernel_rfl, ?_⟩
 refine G ?_
 refine ⟨off, off + n, rfl, rfl, by omega, by omega, ?_⟩
 intro sv hsv
 refine G ?_
 refine L0 ?_
 refine h sv ?_
 have := bytes_cut hv (l := off) (u := off + n) (by omega) (by omega)
 rw [show off + n - off = n by omega] at this
 exact hsv ▸ this
theorem Len_law {I : Imm} {b : Nat} {bs : List UInt8} {v : Value} {off : Nat} {Q : Qt} (hv : BufAt I bs v) (hn : off ≤ bs.length)
  (h : Q (.int .i64 ((bs.length - off : Nat) : Int)) [bufC v off] [] I) : WP Tryz.prog 99 #[.pointer (some ⟨b, 0, none⟩)] [(b, bufC v off)] [] I Q := by
 obtain ⟨hv, hlen⟩ := hv
 obtain ⟨base, cap, rfl⟩ := bytes_form hv
 refine law (kp := [0,2]) [(0,1000)] (args := [.pointer (some ⟨b, 0, none⟩)]) Tryz.func99 (by kernel_rfl) (by kernel_rfl) ⟨rfl, trivial⟩ ?_
 refine G ?_
 refine ⟨[0,1,2,3,4,5,6,7,8,9,10], [], [], [], by kernel_rfl, ?_⟩
 refine G ?_
 refine L0 ?_
 rw [Int.ofNat_sub hn] at h
 exact h
theorem Bytes_law {I : Imm} {b : Nat} {bs : List UInt8} {v : Value} {off : Nat} {Q : Qt} (hv : BufAt I bs v) (hn : off ≤ bs.length)
  (h : ∀ sv, BytesAt I (bs.drop off) sv → Q sv [bufC v off] [] I) : WP Tryz.prog 26 #[.pointer (some ⟨b, 0, none⟩)] [(b, bufC v off)] [] I Q := by
 obtain ⟨hv, hlen⟩ := hv
 obtain ⟨base, cap, rfl⟩ := bytes_form hv
 have hle := (bytes_le hv).2
 refine law (kp := [0,2]) [(0,1000)] (args := [.pointer (some ⟨b, 0, none⟩)]) Tryz.func26 (by kernel_rfl) (by kernel_rfl) ⟨rfl, trivial⟩ ?_
 refine G ?_
 refine ⟨[0,1,2,3,4,5,6,7,8,9], [], [], [], by kernel_rfl, ?_⟩
 refine G ?_
 refine ⟨off, bs.length, rfl, rfl, by omega, by omega, ?_⟩
 intro sv hsv
 refine G ?_
 refine L0 ?_
 refine h sv ?_
 have := bytes_cut hv (l := off) (u := bs.length) (by omega) (by omega)
 rw [List.take_of_length_le (by simp)] at this
 exact hsv ▸ this
theorem Skip_law {I : Imm} {b : Nat} {v : Value} {off n : Nat} {Q : Qt} (ho : off < 1099511627776) (hn : n < 1099511627776)
  (h : Q (.tuple #[]) [bufC v (off + n)] [] I) : WP Tryz.prog 100 #[.pointer (some ⟨b, 0, none⟩), .int .i64 (n : Nat)] [(b, bufC v off)] [] I Q := by
 refine law (kp := [0,1]) [(0,1000)] (args := [.pointer (some ⟨b, 0, none⟩), .int .i64 (n : Nat)]) Tryz.func100 (by kernel_rfl) (by kernel_rfl) ⟨rfl, trivial⟩ ?_
 refine G ?_
 refine L0 ?_
 exact h
theorem New_law {I : Imm} {bs : List UInt8} {v : Value} (hv : BytesAt I bs v) {Q : Qt} (h : ∀ b, Q (.pointer (some ⟨b, 0, none⟩)) [] [.blk b (bufC v 0)] I) : WP Tryz.prog 22 #[v] [] [] I Q := by
 obtain ⟨base, cap, rfl⟩ := bytes_form hv
 refine law (kp := [0,2]) [] (args := [.slice base bs.length cap]) Tryz.func22 (by kernel_rfl) (by kernel_rfl) trivial ?_
 refine G ?_
 intro b
 refine G ?_
 refine ⟨⟨[5], [], [], [], ?_⟩⟩
 exact h b
section rd
variable {I : Imm} {b : Nat} {bs : List UInt8} {v : Value} {off : Nat} {Q : Qt}
def ptr (b : Nat) : Value := .pointer (some ⟨b, 0, none⟩)
theorem readType_law {y : UInt8} {r : List UInt8} (hv : BufAt I bs v) (hd : bs.drop off = y :: r) (h : bs.drop (off + 1) = r → Q (.tuple #[byteV y, .nilIface]) [bufC v (off + 1)] [] I) :
  WP Tryz.prog 96 #[.pointer (some ⟨b, 0, none⟩)] [(b, bufC v off)] [] I Q := by
 refine lw K96 [(0,1000)] _ Tryz.func96 ?_
 refine G ?_
 refine Cx [1000] ?_
 refine ReadByte_law hv hd fun hr => ?_
 refine G ?_
 refine L0 ?_
 exact h hr
theorem peekType_law {y : UInt8} {r : List UInt8} (hv : BufAt I bs v) (hd : bs.drop off = y :: r) (h : Q (.tuple #[byteV y, .nilIface]) [bufC v off] [] I) :
  WP Tryz.prog 191 #[.pointer (some ⟨b, 0, none⟩)] [(b, bufC v off)] [] I Q := by
 refine lw K191 [(0,1000)] _ Tryz.func191 ?_
 refine G ?_
 refine Cx [1000] ?_
 refine PeekByte_law hv hd ?_
 refine G ?_
 refine L0 ?_
 exact h
inductive UlongE : Nat → List UInt8 → Prop where
 | z : UlongE 0 [0x44]
 | s (y : UInt8) : UlongE y.toNat [0x53, y]
 | l (y0 y1 y2 y3 y4 y5 y6 y7 : UInt8) : UlongE (y7.toNat + y6.toNat * 256 + y5.toNat * 65536 + y4.toNat * 16777216 + y3.toNat * 4294967296 + y2.toNat * 1099511627776 + y1.toNat * 281474976710656 + y0.toNat * 72057594037927936) [0x80, y0, y1, y2, y3, y4, y5, y6, y7]
theorem readUlong_law {n : Nat} {e r : List UInt8} (hv : BufAt I bs v) (he : UlongE n e) (hd : bs.drop off = e ++ r) (h : bs.drop (off + e.length) = r → Q (.tuple #[.int .u64 (n : Nat), .nilIface]) [bufC v (off + e.length)] [] I) :
  WP Tryz.prog 97 #[.pointer (some ⟨b, 0, none⟩)] [(b, bufC v off)] [] I Q := by
 refine lw K97 [(0,1000)] _ Tryz.func97 ?_
 cases he with
 | z =>
  refine G ?_
  refine Cx [1000] ?_
  refine readType_law hv hd fun hr => ?_
  refine G ?_
  refine L0 ?_
  exact h hr
 | s y =>
  refine G ?_
  refine Cx [1000] ?_
  refine readType_law hv hd fun hr => ?_
  refine G ?_
  refine Cx [1000] ?_
  refine ReadByte_law hv hr fun hr => ?_
  have := y.toNat_lt
  refine G ?_
  refine L0 ?_
  exact h hr
 | l y0 y1 y2 y3 y4 y5 y6 y7 =>
  refine G ?_
  refine Cx [1000] ?_
  refine readType_law hv hd fun hr => ?_
  refine G ?_
  refine Cx [1000] ?_
  refine ReadUint64_law hv hr fun hr => ?_
  refine G ?_
  refine L0 ?_
  exact h hr
end rd
section rd
variable {I : Imm} {b : Nat} {bs : List UInt8} {v : Value} {off : Nat} {Q : Qt}
inductive UbyteE : Nat → List UInt8 → Prop where
 | s (y0 : UInt8) : UbyteE (y0.toNat) [0x50, y0]
theorem ReadUbyte_law {n : Nat} {e r : List UInt8} (hv : BufAt I bs v) (he : UbyteE n e) (hd : bs.drop off = e ++ r) (h : bs.drop (off + e.length) = r → Q (.tuple #[.int .u8 (n : Nat), .nilIface]) [bufC v (off + e.length)] [] I) :
  WP Tryz.prog 108 #[.pointer (some ⟨b, 0, none⟩)] [(b, bufC v off)] [] I Q := by
 refine lw K108 [(0,1000)] _ Tryz.func108 ?_
 cases he with
 | s y0 =>
  have := y0.toNat_lt
  refine G ?_
  refine Cx [1000] ?_
  refine readType_law hv hd fun hr => ?_
  refine G ?_
  refine Cx [1000] ?_
  refine ReadByte_law hv hr fun hr => ?_
  refine G ?_
  refine L0 ?_
  exact h hr
inductive UshortE : Nat → List UInt8 → Prop where
 | s (y0 y1 : UInt8) : UshortE (y1.toNat + y0.toNat * 256) [0x60, y0, y1]
theorem readUshort_law {n : Nat} {e r : List UInt8} (hv : BufAt I bs v) (he : UshortE n e) (hd : bs.drop off = e ++ r) (h : bs.drop (off + e.length) = r → Q (.tuple #[.int .u16 (n : Nat), .nilIface]) [bufC v (off + e.length)] [] I) :
  WP Tryz.prog 107 #[.pointer (some ⟨b, 0, none⟩)] [(b, bufC v off)] [] I Q := by
 refine lw K107 [(0,1000)] _ Tryz.func107 ?_
 cases he with
 | s y0 y1 =>
  have := y0.toNat_lt
  have := y1.toNat_lt
  refine G ?_
  refine Cx [1000] ?_
  refine readType_law hv hd fun hr => ?_
  refine G ?_
  refine Cx [1000] ?_
  refine ReadUint16_law hv hr fun hr => ?_
  refine G ?_
  refine L0 ?_
  exact h hr
inductive UintE : Nat → List UInt8 → Prop where
 | z : UintE (0) [0x43]
 | s (y0 : UInt8) : UintE (y0.toNat) [0x52, y0]
 | l (y0 y1 y2 y3 : UInt8) : UintE (y3.toNat + y2.toNat * 256 + y1.toNat * 65536 + y0.toNat * 16777216) [0x70, y0, y1, y2, y3]
theorem readUint32_law {n : Nat} {e r : List UInt8} (hv : BufAt I bs v) (he : UintE n e) (hd : bs.drop off = e ++ r) (h : bs.drop (off + e.length) = r → Q (.tuple #[.int .u32 (n : Nat), .nilIface]) [bufC v (off + e.length)] [] I) :
  WP Tryz.prog 106 #[.pointer (some ⟨b, 0, none⟩)] [(b, bufC v off)] [] I Q := by
 refine lw K106 [(0,1000)] _ Tryz.func106 ?_
 cases he with
 | z =>
  refine G ?_
  refine Cx [1000] ?_
  refine readType_law hv hd fun hr => ?_
  refine G ?_
  refine L0 ?_
  exact h hr
 | s y0 =>
  have := y0.toNat_lt
  refine G ?_
  refine Cx [1000] ?_
  refine readType_law hv hd fun hr => ?_
  refine G ?_
  refine Cx [1000] ?_
  refine ReadByte_law hv hr fun hr => ?_
  refine G ?_
  refine L0 ?_
  exact h hr
 | l y0 y1 y2 y3 =>
  have := y0.toNat_lt
  have := y1.toNat_lt
  have := y2.toNat_lt
  have := y3.toNat_lt
  refine G ?_
  refine Cx [1000] ?_
  refine readType_law hv hd fun hr => ?_
  refine G ?_
  refine Cx [1000] ?_
  refine ReadUint32_law hv hr fun hr => ?_
  refine G ?_
  refine L0 ?_
  exact h hr
inductive SbyteE : Int → List UInt8 → Prop where
 | s (y0 : UInt8) : SbyteE (IntKind.i8.wrap ((y0.toNat : Nat) : Int)) [0x51, y0]
theorem readSbyte_law {n : Int} {e r : List UInt8} (hv : BufAt I bs v) (he : SbyteE n e) (hd : bs.drop off = e ++ r) (h : bs.drop (off + e.length) = r → Q (.tuple #[.int .i8 n, .nilIface]) [bufC v (off + e.length)] [] I) :
  WP Tryz.prog 102 #[.pointer (some ⟨b, 0, none⟩)] [(b, bufC v off)] [] I Q := by
 refine lw K102 [(0,1000)] _ Tryz.func102 ?_
 cases he with
 | s y0 =>
  have := y0.toNat_lt
  refine G ?_
  refine Cx [1000] ?_
  refine readType_law hv hd fun hr => ?_
  refine G ?_
  refine Cx [1000] ?_
  refine ReadByte_law hv hr fun hr => ?_
  refine G ?_
  refine L0 ?_
  exact h hr
inductive ShortE : Int → List UInt8 → Prop where
 | s (y0 y1 : UInt8) : ShortE (IntKind.i16.wrap ((y1.toNat + y0.toNat * 256 : Nat) : Int)) [0x61, y0, y1]
theorem readShort_law {n : Int} {e r : List UInt8} (hv : BufAt I bs v) (he : ShortE n e) (hd : bs.drop off = e ++ r) (h : bs.drop (off + e.length) = r → Q (.tuple #[.int .i16 n, .nilIface]) [bufC v (off + e.length)] [] I) :
  WP Tryz.prog 103 #[.pointer (some ⟨b, 0, none⟩)] [(b, bufC v off)] [] I Q := by
 refine lw K103 [(0,1000)] _ Tryz.func103 ?_
 cases he with
 | s y0 y1 =>
  have := y0.toNat_lt
  have := y1.toNat_lt
  refine G ?_
  refine Cx [1000] ?_
  refine readType_law hv hd fun hr => ?_
  refine G ?_
  refine Cx [1000] ?_
  refine ReadUint16_law hv hr fun hr => ?_
  refine G ?_
  refine L0 ?_
  exact h hr
inductive IntE : Int → List UInt8 → Prop where
 | s (y0 : UInt8) : IntE (IntKind.i32.wrap (IntKind.i8.wrap ((y0.toNat : Nat) : Int))) [0x54, y0]
 | l (y0 y1 y2 y3 : UInt8) : IntE (IntKind.i32.wrap ((y3.toNat + y2.toNat * 256 + y1.toNat * 65536 + y0.toNat * 16777216 : Nat) : Int)) [0x71, y0, y1, y2, y3]
theorem readInt32_law {n : Int} {e r : List UInt8} (hv : BufAt I bs v) (he : IntE n e) (hd : bs.drop off = e ++ r) (h : bs.drop (off + e.length) = r → Q (.tuple #[.int .i32 n, .nilIface]) [bufC v (off + e.length)] [] I) :
  WP Tryz.prog 104 #[.pointer (some ⟨b, 0, none⟩)] [(b, bufC v off)] [] I Q := by
 refine lw K104 [(0,1000)] _ Tryz.func104 ?_
 cases he with
 | s y0 =>
  have := y0.toNat_lt
  refine G ?_
  refine Cx [1000] ?_
  refine readType_law hv hd fun hr => ?_
  refine G ?_
  refine Cx [1000] ?_
  refine ReadByte_law hv hr fun hr => ?_
  refine G ?_
  refine L0 ?_
  exact h hr
 | l y0 y1 y2 y3 =>
  have := y0.toNat_lt
  have := y1.toNat_lt
  have := y2.toNat_lt
  have := y3.toNat_lt
  refine G ?_
  refine Cx [1000] ?_
  refine readType_law hv hd fun hr => ?_
  refine G ?_
  refine Cx [1000] ?_
  refine ReadUint32_law hv hr fun hr => ?_
  refine G ?_
  refine L0 ?_
  exact h hr
inductive LongE : Int → List UInt8 → Prop where
 | s (y0 : UInt8) : LongE (IntKind.i64.wrap (IntKind.i8.wrap ((y0.toNat : Nat) : Int))) [0x55, y0]
 | l (y0 y1 y2 y3 y4 y5 y6 y7 : UInt8) : LongE (IntKind.i64.wrap ((y7.toNat + y6.toNat * 256 + y5.toNat * 65536 + y4.toNat * 16777216 + y3.toNat * 4294967296 + y2.toNat * 1099511627776 + y1.toNat * 281474976710656 + y0.toNat * 72057594037927936 : Nat) : Int)) [0x81, y0, y1, y2, y3, y4, y5, y6, y7]
theorem readLong_law {n : Int} {e r : List UInt8} (hv : BufAt I bs v) (he : LongE n e) (hd : bs.drop off = e ++ r) (h : bs.drop (off + e.length) = r → Q (.tuple #[.int .i64 n, .nilIface]) [bufC v (off + e.length)] [] I) :
  WP Tryz.prog 105 #[.pointer (some ⟨b, 0, none⟩)] [(b, bufC v off)] [] I Q := by
 refine lw K105 [(0,1000)] _ Tryz.func105 ?_
 cases he with
 | s y0 =>
  have := y0.toNat_lt
  refine G ?_
  refine Cx [1000] ?_
  refine readType_law hv hd fun hr => ?_
  refine G ?_
  refine Cx [1000] ?_
  refine ReadByte_law hv hr fun hr => ?_
  refine G ?_
  refine L0 ?_
  exact h hr
 | l y0 y1 y2 y3 y4 y5 y6 y7 =>
  have := y0.toNat_lt
  have := y1.toNat_lt
  have := y2.toNat_lt
  have := y3.toNat_lt
  have := y4.toNat_lt
  have := y5.toNat_lt
  have := y6.toNat_lt
  have := y7.toNat_lt
  refine G ?_
  refine Cx [1000] ?_
  refine readType_law hv hd fun hr => ?_
  refine G ?_
  refine Cx [1000] ?_
  refine ReadUint64_law hv hr fun hr => ?_
  refine G ?_
  refine L0 ?_
  exact h hr
end rd
end Go.Proofs.YtcfglgelckjpmaaGreatDoor
