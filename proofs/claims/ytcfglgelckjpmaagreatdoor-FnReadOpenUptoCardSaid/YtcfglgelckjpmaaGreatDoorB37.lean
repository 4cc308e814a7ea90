/- Own machinery, and laws of the functions that the statement reaches (part 37). -/
import Derived.Test.YtcfglgelckjpmaaGreatDoorB36
import Derived.Shelf.GgSortFunc.Tiny
import Derived.Shelf.SlSortFuncK.WholeK
import Derived.Shelf.Sort.Plain
import Derived.Shelf.Slices.In.SortNone2
import Derived.Shelf.Unicode.ValidAny
import Derived.Ground.NamesProg
import Derived.Ground.GgsProg
set_option linter.all false
section
namespace Go.Proofs
open Go.Shelf
def Tryz.lays192_ren : Go.Shelf.Ren := ⟨fun | 192 => 85 | 190 => 137 | 125 => 212 | 258 => 211 | 128 => 246 | 129 => 247 | 302 => 237 | 303 => 238 | 304 => 239 | 305 => 240 | 306 => 241 | 307 => 242 | 308 => 243 | 309 => 244 | 310 => 245 | 333 => 256 | 329 => 257 | 330 => 258 | 334 => 259 | 335 => 260 | 336 => 261 | 344 => 309 | n => n, fun | 31 => 45 | 0 => 0 | 9 => 9 | 3 => 3 | 46 => 147 | 51 => 43 | 53 => 23 | 4 => 4 | 183 => 436 | 182 => 435 | 131 => 441 | 5 => 5 | 218 => 460 | 222 => 154 | 228 => 493 | 229 => 494 | n => n, fun | n => n⟩
theorem Tryz.lays192 : Go.Proofs.Lays.n192 Tryz.prog Tryz.lays192_ren := {
 mixed := by kernel_rfl
 f125 := Tryz.func212.trans (congrArg some (by kernel_rfl))
 f128 := Tryz.func246.trans (congrArg some (by kernel_rfl))
 f129 := Tryz.func247.trans (congrArg some (by kernel_rfl))
 f190 := Tryz.func137.trans (congrArg some (by kernel_rfl))
 f192 := Tryz.func85.trans (congrArg some (by kernel_rfl))
 f258 := Tryz.func211.trans (congrArg some (by kernel_rfl))
 f302 := Tryz.func237.trans (congrArg some (by kernel_rfl))
 f303 := Tryz.func238.trans (congrArg some (by kernel_rfl))
 f304 := Tryz.func239.trans (congrArg some (by kernel_rfl))
 f305 := Tryz.func240.trans (congrArg some (by kernel_rfl))
 f306 := Tryz.func241.trans (congrArg some (by kernel_rfl))
 f307 := Tryz.func242.trans (congrArg some (by kernel_rfl))
 f308 := Tryz.func243.trans (congrArg some (by kernel_rfl))
 f309 := Tryz.func244.trans (congrArg some (by kernel_rfl))
 f310 := Tryz.func245.trans (congrArg some (by kernel_rfl))
 f329 := Tryz.func257.trans (congrArg some (by kernel_rfl))
 f330 := Tryz.func258.trans (congrArg some (by kernel_rfl))
 f333 := Tryz.func256.trans (congrArg some (by kernel_rfl))
 f334 := Tryz.func259.trans (congrArg some (by kernel_rfl))
 f335 := Tryz.func260.trans (congrArg some (by kernel_rfl))
 f336 := Tryz.func261.trans (congrArg some (by kernel_rfl))
 f344 := Tryz.func309.trans (congrArg some (by kernel_rfl))
 t0 := Tryz.underlying0
 a0 := Tryz.isAgg0
 z0 := Tryz.sizeOf0
 v0 := Tryz.zeroValue0
 t3 := Tryz.underlying3
 a3 := Tryz.isAgg3
 z3 := Tryz.sizeOf3
 v3 := Tryz.zeroValue3
 t4 := Tryz.underlying4
 a4 := Tryz.isAgg4
 z4 := Tryz.sizeOf4
 v4 := Tryz.zeroValue4
 t5 := Tryz.underlying5
 a5 := Tryz.isAgg5
 z5 := Tryz.sizeOf5
 v5 := Tryz.zeroValue5
 t9 := Tryz.underlying9
 a9 := Tryz.isAgg9
 z9 := Tryz.sizeOf9
 v9 := Tryz.zeroValue9
 t31 := Tryz.underlying45
 a31 := Tryz.isAgg45
 z31 := Tryz.sizeOf45
 v31 := Tryz.zeroValue45
 t46 := Tryz.underlying147
 a46 := Tryz.isAgg147
 z46 := Tryz.sizeOf147
 v46 := Tryz.zeroValue147
 t51 := Tryz.underlying43
 a51 := Tryz.isAgg43
 z51 := Tryz.sizeOf43
 v51 := Tryz.zeroValue43
 t53 := Tryz.underlying23
 a53 := Tryz.isAgg23
 z53 := Tryz.sizeOf23
 v53 := Tryz.zeroValue23
 t131 := Tryz.underlying441
 a131 := Tryz.isAgg441
 z131 := Tryz.sizeOf441
 v131 := Tryz.zeroValue441
 t182 := Tryz.underlying435
 a182 := Tryz.isAgg435
 z182 := Tryz.sizeOf435
 v182 := Tryz.zeroValue435
 t183 := Tryz.underlying436
 a183 := Tryz.isAgg436
 z183 := Tryz.sizeOf436
 v183 := Tryz.zeroValue436
 t218 := Tryz.underlying460
 a218 := Tryz.isAgg460
 z218 := Tryz.sizeOf460
 v218 := Tryz.zeroValue460
 t222 := Tryz.underlying154
 a222 := Tryz.isAgg154
 z222 := Tryz.sizeOf154
 v222 := Tryz.zeroValue154
 t228 := Tryz.underlying493
 a228 := Tryz.isAgg493
 z228 := Tryz.sizeOf493
 v228 := Tryz.zeroValue493
 t229 := Tryz.underlying494
 a229 := Tryz.isAgg494
 z229 := Tryz.sizeOf494
 v229 := Tryz.zeroValue494 }
def Tryz.sl6_ren : Go.Shelf.Ren := ⟨fun | 6 => 214 | 10 => 249 | 11 => 250 | 12 => 251 | 13 => 212 | 14 => 252 | 24 => 246 | 25 => 247 | 26 => 301 | 27 => 302 | 28 => 303 | 29 => 304 | 30 => 305 | 31 => 306 | 32 => 307 | 33 => 308 | 34 => 318 | 35 => 319 | 36 => 320 | 37 => 321 | 38 => 322 | 39 => 330 | n => n, fun | 20 => 20 | 26 => 418 | 35 => 448 | 0 => 0 | 37 => 450 | 3 => 3 | 41 => 147 | 44 => 454 | 49 => 43 | 51 => 23 | 4 => 4 | 54 => 488 | 53 => 487 | 58 => 441 | 5 => 5 | 9 => 9 | 60 => 501 | 64 => 154 | 66 => 511 | 67 => 494 | 17 => 17 | 32 => 445 | 33 => 446 | 82 => 530 | 12 => 12 | 75 => 524 | 76 => 525 | 77 => 526 | 78 => 223 | 79 => 527 | 80 => 528 | n => n, fun | n => n⟩
theorem Tryz.sl6 : Go.Proofs.LaysGg.n6 Tryz.prog Tryz.sl6_ren := {
 mixed := by kernel_rfl
 f6 := Tryz.func214.trans (congrArg some (by kernel_rfl))
 f10 := Tryz.func249.trans (congrArg some (by kernel_rfl))
 f11 := Tryz.func250.trans (congrArg some (by kernel_rfl))
 f12 := Tryz.func251.trans (congrArg some (by kernel_rfl))
 f13 := Tryz.func212.trans (congrArg some (by kernel_rfl))
 f14 := Tryz.func252.trans (congrArg some (by kernel_rfl))
 f24 := Tryz.func246.trans (congrArg some (by kernel_rfl))
 f25 := Tryz.func247.trans (congrArg some (by kernel_rfl))
 f26 := Tryz.func301.trans (congrArg some (by kernel_rfl))
 f27 := Tryz.func302.trans (congrArg some (by kernel_rfl))
 f28 := Tryz.func303.trans (congrArg some (by kernel_rfl))
 f29 := Tryz.func304.trans (congrArg some (by kernel_rfl))
 f30 := Tryz.func305.trans (congrArg some (by kernel_rfl))
 f31 := Tryz.func306.trans (congrArg some (by kernel_rfl))
 f32 := Tryz.func307.trans (congrArg some (by kernel_rfl))
 f33 := Tryz.func308.trans (congrArg some (by kernel_rfl))
 f34 := Tryz.func318.trans (congrArg some (by kernel_rfl))
 f35 := Tryz.func319.trans (congrArg some (by kernel_rfl))
 f36 := Tryz.func320.trans (congrArg some (by kernel_rfl))
 f37 := Tryz.func321.trans (congrArg some (by kernel_rfl))
 f38 := Tryz.func322.trans (congrArg some (by kernel_rfl))
 f39 := Tryz.func330.trans (congrArg some (by kernel_rfl))
 t0 := Tryz.underlying0
 a0 := Tryz.isAgg0
 z0 := Tryz.sizeOf0
 v0 := Tryz.zeroValue0
 i0 := by kernel_rfl
 t3 := Tryz.underlying3
 a3 := Tryz.isAgg3
 z3 := Tryz.sizeOf3
 v3 := Tryz.zeroValue3
 i3 := by kernel_rfl
 t4 := Tryz.underlying4
 a4 := Tryz.isAgg4
 z4 := Tryz.sizeOf4
 v4 := Tryz.zeroValue4
 i4 := by kernel_rfl
 t5 := Tryz.underlying5
 a5 := Tryz.isAgg5
 z5 := Tryz.sizeOf5
 v5 := Tryz.zeroValue5
 i5 := by kernel_rfl
 t9 := Tryz.underlying9
 a9 := Tryz.isAgg9
 z9 := Tryz.sizeOf9
 v9 := Tryz.zeroValue9
 i9 := by kernel_rfl
 t12 := Tryz.underlying12
 a12 := Tryz.isAgg12
 z12 := Tryz.sizeOf12
 v12 := Tryz.zeroValue12
 i12 := by kernel_rfl
 t17 := Tryz.underlying17
 a17 := Tryz.isAgg17
 z17 := Tryz.sizeOf17
 v17 := Tryz.zeroValue17
 i17 := by kernel_rfl
 t20 := Tryz.underlying20
 a20 := Tryz.isAgg20
 z20 := Tryz.sizeOf20
 v20 := Tryz.zeroValue20
 i20 := by kernel_rfl
 t26 := Tryz.underlying418
 a26 := Tryz.isAgg418
 z26 := Tryz.sizeOf418
 v26 := Tryz.zeroValue418
 i26 := by kernel_rfl
 t32 := Tryz.underlying445
 a32 := Tryz.isAgg445
 z32 := Tryz.sizeOf445
 v32 := Tryz.zeroValue445
 i32 := by kernel_rfl
 t33 := Tryz.underlying446
 a33 := Tryz.isAgg446
 z33 := Tryz.sizeOf446
 v33 := Tryz.zeroValue446
 i33 := by kernel_rfl
 t35 := Tryz.underlying448
 a35 := Tryz.isAgg448
 z35 := Tryz.sizeOf448
 v35 := Tryz.zeroValue448
 i35 := by kernel_rfl
 t37 := Tryz.underlying450
 a37 := Tryz.isAgg450
 z37 := Tryz.sizeOf450
 v37 := Tryz.zeroValue450
 i37 := by kernel_rfl
 t41 := Tryz.underlying147
 a41 := Tryz.isAgg147
 z41 := Tryz.sizeOf147
 v41 := Tryz.zeroValue147
 i41 := by kernel_rfl
 t44 := Tryz.underlying454
 a44 := Tryz.isAgg454
 z44 := Tryz.sizeOf454
 v44 := Tryz.zeroValue454
 i44 := by kernel_rfl
 t49 := Tryz.underlying43
 a49 := Tryz.isAgg43
 z49 := Tryz.sizeOf43
 v49 := Tryz.zeroValue43
 i49 := by kernel_rfl
 t51 := Tryz.underlying23
 a51 := Tryz.isAgg23
 z51 := Tryz.sizeOf23
 v51 := Tryz.zeroValue23
 i51 := by kernel_rfl
 t53 := Tryz.underlying487
 a53 := Tryz.isAgg487
 z53 := Tryz.sizeOf487
 v53 := Tryz.zeroValue487
 i53 := by kernel_rfl
 t54 := Tryz.underlying488
 a54 := Tryz.isAgg488
 z54 := Tryz.sizeOf488
 v54 := Tryz.zeroValue488
 i54 := by kernel_rfl
 t58 := Tryz.underlying441
 a58 := Tryz.isAgg441
 z58 := Tryz.sizeOf441
 v58 := Tryz.zeroValue441
 i58 := by kernel_rfl
 t60 := Tryz.underlying501
 a60 := Tryz.isAgg501
 z60 := Tryz.sizeOf501
 v60 := Tryz.zeroValue501
 i60 := by kernel_rfl
 t64 := Tryz.underlying154
 a64 := Tryz.isAgg154
 z64 := Tryz.sizeOf154
 v64 := Tryz.zeroValue154
 i64 := by kernel_rfl
 t66 := Tryz.underlying511
 a66 := Tryz.isAgg511
 z66 := Tryz.sizeOf511
 v66 := Tryz.zeroValue511
 i66 := by kernel_rfl
 t67 := Tryz.underlying494
 a67 := Tryz.isAgg494
 z67 := Tryz.sizeOf494
 v67 := Tryz.zeroValue494
 i67 := by kernel_rfl
 t75 := Tryz.underlying524
 a75 := Tryz.isAgg524
 z75 := Tryz.sizeOf524
 v75 := Tryz.zeroValue524
 i75 := by kernel_rfl
 t76 := Tryz.underlying525
 a76 := Tryz.isAgg525
 z76 := Tryz.sizeOf525
 v76 := Tryz.zeroValue525
 i76 := by kernel_rfl
 t77 := Tryz.underlying526
 a77 := Tryz.isAgg526
 z77 := Tryz.sizeOf526
 v77 := Tryz.zeroValue526
 i77 := by kernel_rfl
 t78 := Tryz.underlying223
 a78 := Tryz.isAgg223
 z78 := Tryz.sizeOf223
 v78 := Tryz.zeroValue223
 i78 := by kernel_rfl
 t79 := Tryz.underlying527
 a79 := Tryz.isAgg527
 z79 := Tryz.sizeOf527
 v79 := Tryz.zeroValue527
 i79 := by kernel_rfl
 t80 := Tryz.underlying528
 a80 := Tryz.isAgg528
 z80 := Tryz.sizeOf528
 v80 := Tryz.zeroValue528
 i80 := by kernel_rfl
 t82 := Tryz.underlying530
 a82 := Tryz.isAgg530
 z82 := Tryz.sizeOf530
 v82 := Tryz.zeroValue530
 i82 := by kernel_rfl }
def Tryz.lays196_ren : Go.Shelf.Ren := ⟨fun | 196 => 180 | 259 => 219 | n => n, fun | 9 => 9 | 4 => 4 | 3 => 3 | 5 => 5 | 12 => 12 | 119 => 426 | 0 => 0 | 46 => 147 | 139 => 429 | 138 => 428 | 53 => 23 | n => n, fun | 3 => 2 | 4 => 3 | n => n⟩
theorem Tryz.lays196 : Go.Proofs.Lays.n196 Tryz.prog Tryz.lays196_ren := {
 mixed := by kernel_rfl
 f196 := Tryz.func180.trans (congrArg some (by kernel_rfl))
 f259 := Tryz.func219.trans (congrArg some (by kernel_rfl))
 t0 := Tryz.underlying0
 a0 := Tryz.isAgg0
 z0 := Tryz.sizeOf0
 v0 := Tryz.zeroValue0
 t3 := Tryz.underlying3
 a3 := Tryz.isAgg3
 z3 := Tryz.sizeOf3
 v3 := Tryz.zeroValue3
 t4 := Tryz.underlying4
 a4 := Tryz.isAgg4
 z4 := Tryz.sizeOf4
 v4 := Tryz.zeroValue4
 t5 := Tryz.underlying5
 a5 := Tryz.isAgg5
 z5 := Tryz.sizeOf5
 v5 := Tryz.zeroValue5
 t9 := Tryz.underlying9
 a9 := Tryz.isAgg9
 z9 := Tryz.sizeOf9
 v9 := Tryz.zeroValue9
 t12 := Tryz.underlying12
 a12 := Tryz.isAgg12
 z12 := Tryz.sizeOf12
 v12 := Tryz.zeroValue12
 t46 := Tryz.underlying147
 a46 := Tryz.isAgg147
 z46 := Tryz.sizeOf147
 v46 := Tryz.zeroValue147
 t53 := Tryz.underlying23
 a53 := Tryz.isAgg23
 z53 := Tryz.sizeOf23
 v53 := Tryz.zeroValue23
 t119 := Tryz.underlying426
 a119 := Tryz.isAgg426
 z119 := Tryz.sizeOf426
 t138 := Tryz.underlying428
 a138 := Tryz.isAgg428
 z138 := Tryz.sizeOf428
 v138 := Tryz.zeroValue428
 t139 := Tryz.underlying429
 a139 := Tryz.isAgg429
 z139 := Tryz.sizeOf429
 v139 := Tryz.zeroValue429
 g3 := by kernel_rfl
 g4 := by kernel_rfl }
end Go.Proofs
end
section
namespace Go.Proofs.YtcfglgelckjpmaaGreatDoor
open Go.Sort Go.RowKit Go.Shelf Go.Lib
set_option maxRecDepth 100000
set_option maxHeartbeats 4000000
theorem encStr_eq (t : List UInt8) : encStr t = strV t := rfl
theorem sortStrings_law {ss : List (List UInt8)} {base : Option Addr} {cap : Nat} {I : Imm} {Q : Qt} (hn : ss.length < 1099511627776)
  (h : ∀ ss' : List (List UInt8), ss'.Perm ss → Q (.tuple #[]) [] [.vec (.slice base ss.length cap) 1 (ss'.map strV)] I) : WP Tryz.prog 85 #[.slice base ss.length cap] [] [.vec (.slice base ss.length cap) 1 (ss.map strV)] I Q := by
 refine ⟨fun w => enters_of Tryz.func85 (by kernel_rfl) rfl _ w, fun w hs => ?_⟩
 have hs1 : Sat I [.vec (.slice base ss.length cap) 1 (ss.map strV)] w := hs
 have hr := (hs1.res _ (List.mem_singleton.2 rfl)).1
 cases base with
 | none =>
  obtain ⟨h1, rfl, h3⟩ : ss.length = 0 ∧ cap = 0 ∧ ss.map strV = [] := hr
  obtain rfl : ss = [] := List.eq_nil_of_length_eq_zero h1
  refine (Any.sort_Strings_none Tryz.lays192 none 0 w).mono ?_
  rintro e w' ⟨rfl, rfl⟩
  exact ⟨_, [], _, I, rfl, rfl, .refl hs, h [] (.refl _)⟩
 | some a =>
  obtain ⟨blk, off, spot⟩ := a
  cases spot with
  | some _ => cases off <;> exact False.elim hr
  | none =>
   cases off with
   | succ off => exact False.elim hr
   | zero =>
    obtain ⟨hH, hb⟩ := holds_vec hs1 (List.mem_singleton.2 rfl)
    have hH' : Holds encStr w blk 0 ss.toArray := by
     refine holds_map ?_
     have : (ss.toArray.map encStr) = (ss.map strV).toArray := by simp [encStr_eq, Function.comp_def]
     rw [this]; exact hH
    refine (Any.sort_Strings Tryz.lays192 blk 0 cap ss w hH' hb (by omega)).mono ?_
    rintro e w' ⟨rfl, n, os, rfl⟩
    have hp : (ss.mergeSort fun x y => decide (x ≤ y)).Perm ss := List.mergeSort_perm _ _
    generalize (ss.mergeSort fun x y => decide (x ≤ y)) = ss' at hp
    have hw : putRow encStr (Sort.ahead w n) blk 0 ss'.toArray = putRow id (Sort.ahead w n) blk 0 (ss'.map strV).toArray := by
     rw [putRow_map]
     congr 1
     simp [encStr_eq, Function.comp_def]
    rw [hw]
    exact ⟨_, [], _, I, rfl, rfl, step_sorted hs1 (by simp [hp.length_eq]), h ss' hp⟩
end Go.Proofs.YtcfglgelckjpmaaGreatDoor
end
