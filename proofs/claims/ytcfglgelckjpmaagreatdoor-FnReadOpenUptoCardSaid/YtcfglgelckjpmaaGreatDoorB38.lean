/- Own machinery, and laws of the functions that the statement reaches (part 38). -/
import Derived.Test.YtcfglgelckjpmaaGreatDoorB29
import Derived.Test.YtcfglgelckjpmaaGreatDoorB34
import Derived.Test.YtcfglgelckjpmaaGreatDoorB37
set_option linter.all false
namespace Go.Proofs.YtcfglgelckjpmaaGreatDoor
set_option maxRecDepth 100000
set_option maxHeartbeats 4000000
theorem perm_map_inv {α β : Type} {f : α → β} {l m : List β} (h : l.Perm m) : ∀ {ps : List α}, m = ps.map f → ∃ ps' : List α, ps'.Perm ps ∧ l = ps'.map f := by
 induction h with
 | nil => intro ps hm; exact ⟨[], by rw [List.map_eq_nil_iff.1 hm.symm], rfl⟩
 | cons x h ih =>
  intro ps hm
  cases ps with
  | nil => cases hm
  | cons p ps =>
   simp only [List.map_cons, List.cons.injEq] at hm
   obtain ⟨rfl, hm⟩ := hm
   obtain ⟨ps', h1, rfl⟩ := ih hm
   exact ⟨p :: ps', h1.cons p, rfl⟩
 | swap x y l =>
  intro ps hm
  match ps, hm with
  | p :: q :: ps, hm =>
   simp only [List.map_cons, List.cons.injEq] at hm
   obtain ⟨rfl, rfl, rfl⟩ := hm
   exact ⟨q :: p :: ps, List.Perm.swap _ _ _, rfl⟩
 | trans h1 h2 ih1 ih2 =>
  intro ps hm
  obtain ⟨ps', g1, e1⟩ := ih2 hm
  obtain ⟨ps2, g2, e2⟩ := ih1 e1
  exact ⟨ps2, g2.trans g1, e2⟩
structure TxtMap (I : Imm) (ps : List (V × V)) (r : Nat) (es : Array MapEntry) : Prop where
 at' : I.m r = some (es, es.size)
 born : Born es
 len : es.size = ps.length
 key : ∀ (i : Nat) (p : V × V) (e : MapEntry), ps[i]? = some p → es.toList[i]? = some e → e.key = strV p.1.text
 val : ∀ (i : Nat) (p : V × V) (e : MapEntry), ps[i]? = some p → es.toList[i]? = some e → GoAny I p.2 e.val
 dist : ∀ (i j : Nat) (p q : V × V), ps[i]? = some p → ps[j]? = some q → i ≠ j → p.1.text ≠ q.1.text
 small : ps.length < 549755813888
 text : ∀ p ∈ ps, p.1.text.length < 1099511627776
def BackT (kind : Int) (ps' : List (V × V)) (ks' : List V) : Prop := ks'.length = 2 * ps'.length ∧ ∀ (i : Nat) (p : V × V), ps'[i]? = some p → ∃ y, ks'[2 * i]? = some (.mk kind 0 p.1.text [] 0 []) ∧ ks'[2 * i + 1]? = some y ∧ Back p.2 y
section tp
variable {I : Imm} {Q : Qt}
theorem textPairs_nil_60 {kind : Int} (h : Q (.tuple #[.slice none 0 0, .bool true]) [] [] I) : WP Tryz.prog 60 #[.int .i64 kind, .map none] [] [] I Q := by
 refine lw K60 [] _ Tryz.func60 ?_
 refine G ?_
 intro it
 refine G ?_
 refine ⟨⟨[6], [], [(900, 1)], fun m vs cs R J => vs = [.slice none 0 0] ∧ cs = [] ∧ m = 0 ∧ I = J ∧ R = [(14, .iter it none 0 #[] 0), (900, .vec (.slice none 0 0) 1 [])], 0, _, _, rfl, rfl, ⟨rfl, rfl, rfl, rfl, rfl⟩, ?_⟩⟩
 rintro m vs cs R J hJ _ _ ⟨rfl, rfl, rfl, rfl, rfl⟩
 refine G ?_
 refine ⟨14, none, 0, #[], 0, rfl, ?_⟩
 refine G ?_
 refine Cx [] ?_ [900]
 refine sortStrings_law (ss := []) (base := none) (cap := 0) (by decide) fun ss' hp => ?_
 obtain rfl := hp.eq_nil
 refine G ?_
 refine ⟨⟨[27, 8], [], [], fun m vs cs R2 J => vs = [.int .i64 0, .slice none 0 0] ∧ cs = [] ∧ m = 0 ∧ I = J ∧ R2 = [(14, .iter it none 0 #[] 0), (24, .vec (.slice none 0 0) 1 [])], 0, _, _, rfl, rfl, ⟨rfl, rfl, rfl, rfl, rfl⟩, ?_⟩⟩
 rintro m vs cs R2 J hJ2 _ _ ⟨rfl, rfl, rfl, rfl, rfl⟩
 refine G ?_
 refine L0 ?_
 exact h
theorem textPairs_law_60 {kind : Int} (hu : Utf I) (hkr : -9223372036854775808 ≤ kind ∧ kind < 9223372036854775808) {ps : List (V × V)} {r : Nat} {es : Array MapEntry} (hm : TxtMap I ps r es) (hv : ∀ p ∈ ps, VdP p.2)
  (h : ∀ I' ps' ks' v', I.le I' → ps'.Perm ps → BackT kind ps' ks' → VsRep I' ks' v' → Q (.tuple #[v', .bool true]) [] [] I') : WP Tryz.prog 60 #[.int .i64 kind, .map (some r)] [] [] I Q := by
 have hb := hm.born
 have hmem := hb.lt
 have hlen := hm.len
 have hsmall := hm.small
 refine law (kp := [0,1,4,5,6,7,8,10,11,12,14,16,25,26,27,28,39,10024]) [] (args := [.int .i64 kind, .map (some r)]) Tryz.func60 (by kernel_rfl) (by kernel_rfl) trivial ?_
 refine G ?_
 refine ⟨es, _, hm.at', fun it => ?_⟩
 refine G ?_
 refine ⟨⟨[6], [], [(900, 1)], fun m vs cs R J => ∃ (sn : Array Nat) (kb : Option Addr) (kc : Nat) (ss : List (List UInt8)), vs = [.slice kb ss.length kc] ∧ cs = [] ∧ m = es.size - sn.size ∧ I.le J ∧
   R = [(14, .iter it (some r) es.size sn es.size), (900, .vec (.slice kb ss.length kc) 1 (ss.map strV))] ∧ Seen es.size sn ∧ ss.length = sn.size ∧
   (∀ (i bo : Nat) (s : List UInt8) (p : V × V), ss[i]? = some s → sn.toList[i]? = some bo → ps[bo]? = some p → s = p.1.text), es.size, _, _, rfl, rfl,
  ⟨#[], none, 0, [], rfl, rfl, rfl, .refl I, rfl, .nil _, rfl, by simp⟩, ?_⟩⟩
 rintro m vs cs R J hJ0 _ _ ⟨sn, kb, kc, ss, rfl, rfl, rfl, hJ, rfl, hsn, hss, hent⟩
 clear hJ0
 have hle := hsn.le
 refine G ?_
 refine ⟨14, some r, es.size, sn, es.size, rfl, es, hJ.m hm.at', rfl, hmem, fun hall => ?_, fun e he hns => ?_⟩
 ·have hperm : sn.toList.Perm (List.range es.size) := by
   refine (List.perm_ext_iff_of_nodup hsn.nodup List.nodup_range).2 fun a => ⟨fun h => List.mem_range.2 (hsn.lt a h), fun h => ?_⟩
   have hlt := List.mem_range.1 h
   have hg : es.toList[a]? = some es.toList[a] := by simp [hlt]
   have := hall _ (List.mem_of_getElem? hg)
   rw [hb a _ hg] at this
   simpa using this
  have hsse : ss = sn.toList.map fun b => ((ps.map fun p => p.1.text).getD b []) := by
   refine List.ext_getElem? fun i => ?_
   by_cases hi : i < ss.length
   ·have hi2 : i < sn.toList.length := by simp; omega
    have hlt := hsn.lt sn.toList[i] (by simp)
    have hlp : sn.toList[i] < ps.length := by omega
    have := hent i sn.toList[i] ss[i] ps[sn.toList[i]] (by simp) (by simp) (by simp)
    rw [List.getElem?_map, List.getElem?_eq_getElem hi, List.getElem?_eq_getElem hi2, Option.map_some, List.getD_eq_getElem?_getD, List.getElem?_map, List.getElem?_eq_getElem hlp]
    simp [this]
   ·rw [List.getElem?_eq_none (by omega), List.getElem?_eq_none (by simp; omega)]
  have hssp : ss.Perm (ps.map fun p => p.1.text) := by
   rw [hsse]
   refine (hperm.map _).trans (List.Perm.of_eq ?_)
   refine List.ext_getElem? fun i => ?_
   by_cases hi : i < es.size
   ·have : i < (ps.map fun p => p.1.text).length := by simp; omega
    rw [List.getElem?_map, List.getElem?_range hi, Option.map_some, List.getD_eq_getElem?_getD, List.getElem?_eq_getElem this]
    rfl
   ·rw [List.getElem?_eq_none (by simp; omega), List.getElem?_eq_none (by simp; omega)]
  refine G ?_
  refine Cx [] ?_ [900]
  refine sortStrings_law (by omega) fun ss' hp => ?_
  obtain ⟨ps', hpp, hse⟩ := perm_map_inv (hp.trans hssp) rfl
  have hl' : ss'.length = ss.length := hp.length_eq
  have hlp' : ps'.length = es.size := by rw [hpp.length_eq]; omega
  have hls : ss.length = es.size := by rw [← hl', hse, List.length_map]; omega
  conv => whnf
  intro J1 hJ1 ⟨n, hn, hsl⟩
  obtain rfl : ss.length = n := hn
  have hJI := hJ.trans hJ1
  refine G ?_
  refine ⟨⟨[27, 8], [], [(901, 6)], fun m vs cs R2 J2 => ∃ (i : Nat) (kb2 : Option Addr) (kc2 : Nat) (ys : List V) (cells : List (List Value)), vs = [.int .i64 (i : Nat), .slice kb2 (i * 2) kc2] ∧ cs = [] ∧ i ≤ ss.length ∧ m = ss.length - i ∧
    R2 = [(14, .iter it (some r) es.size sn es.size), (901, .vec (.slice kb2 (i * 2) kc2) 6 cells.flatten)] ∧ cells.length = i * 2 ∧ ys.length = i * 2 ∧ (∀ (j : Nat) (y : V) (d : List Value), ys[j]? = some y → cells[j]? = some d → VRep J2 y d) ∧
    (∀ (j : Nat) (p : V × V), j < i → ps'[j]? = some p → ∃ y, ys[2 * j]? = some (.mk kind 0 p.1.text [] 0 []) ∧ ys[2 * j + 1]? = some y ∧ Back p.2 y), ss.length, _, _, rfl, rfl,
   ⟨0, none, 0, [], [], rfl, rfl, by omega, rfl, rfl, rfl, rfl, by simp, fun j p hj => by omega⟩, ?_⟩⟩
  rintro m vs cs R2 J2 hJ2 _ _ ⟨i, kb2, kc2, ys, cells, rfl, rfl, hi, rfl, rfl, hcl, hyl, hrep, hbk⟩
  replace hJ2 : J1.le J2 := hJ2
  refine G ?_
  split
  ·rename_i hlt _
   have hi' : i < ss.length := by omega
   have his : i < ss'.length := by omega
   have hip : i < ps'.length := by omega
   have hs0 : ss'[i] = ps'[i].1.text := by simp [hse]
   obtain ⟨vb, vo, hvb, _, _, _, hcells⟩ := slAt_some hsl (by omega)
   cases hvb
   have hload : CellsAt J1 vb (vo + i * 1) [strV ps'[i].1.text] := fun j y e => by
    cases j with
    | zero =>
     simp at e
     subst e
     rw [Nat.mul_one]
     refine hcells i _ ?_
     rw [List.getElem?_map, List.getElem?_eq_getElem his, hs0]; rfl
    | succ j => simp at e
   have hpm : ps'[i] ∈ ps := hpp.mem_iff.1 (by simp)
   obtain ⟨pj, hpj⟩ := List.mem_iff_getElem?.1 hpm
   have hpjl := (List.getElem?_eq_some_iff.1 hpj).1
   have hej : es.toList[pj]? = some (es.toList[pj]'(by simp; omega)) := by simp
   have hkj := hm.key pj _ _ hpj hej
   have hvj := hm.val pj _ _ hpj hej
   have hfind := find_str (kt := 9) (by kernel_rfl) hej hkj fun l x hl hx => by
    have hxl := (List.getElem?_eq_some_iff.1 hx).1
    simp only [Array.length_toList] at hxl
    have hpl : ps[l]? = some (ps[l]'(by omega)) := by simp
    exact ⟨_, hm.key l _ x hpl hx, hm.dist l pj _ _ hpl hpj (by omega)⟩
   generalize es.toList[pj]'(by simp; omega) = e at hej hkj hvj hfind
   have htl := hm.text _ hpm
   have hvp := hv _ hpm
   refine G ?_
   refine ⟨_, _, _, _, i, rfl, rfl, hi', ?_⟩
   refine G ?_
   refine ⟨_, .imm (hload.mono hJ2), ?_⟩
   refine G ?_
   refine ⟨es, _, some (pj, e.val), (hJI.trans hJ2).m hm.at', hfind, ?_⟩
   have hga := hvj.mono (hJI.trans hJ2)
   rcases hga.form with hg0 | ⟨ty, p, hg0⟩
   all_goals
    rw [hg0] at hga ⊢
    refine G ?_
    refine Cx [] ?_
    refine hvp J2 _ _ (hu.mono (hJI.trans hJ2)) hga fun J3 y c1 hi1 hb1 hr1 => ?_
    have hr1' := hr1
    obtain ⟨xb, xc, xd, xe, rfl, _⟩ := hr1.inv2
    refine G ?_
    intro b11
    refine G ?_
    refine .inl fun be J4 hi2 hce => ?_
    refine G ?_
    refine .own 901 (i * 2) 2 cells.flatten (textC kind ps'[i].1.text ++ cellsOf y xb xc xd xe) rfl rfl ⟨rfl, by omega, rfl, hce⟩ rfl (by rw [show ti79.bytes = 88 by kernel_rfl]; omega) fun nb nc => ?_
    refine G ?_
    refine ⟨ss.length - (i + 1), _, _, by omega, rfl, rfl, rfl, rfl, .inl ⟨i + 1, nb, nc, ys ++ [.mk kind 0 ps'[i].1.text [] 0 [], y], cells ++ [textC kind ps'[i].1.text, cellsOf y xb xc xd xe], by rw [Nat.succ_mul]; rfl, rfl, hi', rfl, ?_, by simp [hcl, Nat.succ_mul], by simp [hyl, Nat.succ_mul], fun j z d hy hd => ?_, fun j p hj hp1 => ?_⟩⟩
    ·rw [List.flatten_append, Nat.succ_mul]; rfl
    ·by_cases hji : j < i * 2
     ·rw [List.getElem?_append_left (by omega)] at hd hy
      exact (hrep j z d hy hd).mono (hi1.trans hi2)
     ·rw [List.getElem?_append_right (by omega), hcl] at hd
      rw [List.getElem?_append_right (by omega), hyl] at hy
      have hj2 : j - i * 2 = 0 ∨ j - i * 2 = 1 := by
       have := (List.getElem?_eq_some_iff.1 hd).1
       simp at this
       omega
      rcases hj2 with hj2 | hj2
      ·rw [hj2] at hd hy
       simp at hd hy
       subst hd hy
       exact vText_rep hkr htl
      ·rw [hj2] at hd hy
       simp at hd hy
       subst hd hy
       exact hr1'.mono hi2
    ·by_cases hji : j < i
     ·obtain ⟨y1, q1, q2, q3⟩ := hbk j p hji hp1
      exact ⟨y1, by rw [List.getElem?_append_left (by omega)]; exact q1, by rw [List.getElem?_append_left (by omega)]; exact q2, q3⟩
     ·obtain rfl : j = i := by omega
      rw [List.getElem?_eq_getElem hip] at hp1
      cases hp1
      refine ⟨y, ?_, ?_, hb1⟩
      ·rw [List.getElem?_append_right (by omega), hyl, show 2 * j - j * 2 = 0 by omega]; rfl
      ·rw [List.getElem?_append_right (by omega), hyl, show 2 * j + 1 - j * 2 = 1 by omega]; rfl
  ·rename_i hge _
   obtain rfl : i = ss.length := by omega
   refine G ?_
   refine ⟨⟨[], [], [], [901], ?_⟩⟩
   intro J3 hJ3 ⟨n2, hn2, hsl2⟩
   obtain rfl : ss.length * 2 = n2 := hn2
   conv => whnf
   refine h J3 ps' ys _ ((hJI.trans hJ2).trans hJ3) hpp ⟨by omega, fun i p hp => hbk i p (by have := (List.getElem?_eq_some_iff.1 hp).1; omega) hp⟩ ?_
   exact ⟨by omega, cells, by rw [hyl]; exact hsl2, by omega, fun j y d hy hd => (hrep j y d hy hd).mono hJ3⟩
 ·have hlt := hmem e he
  have hg := hb.get he
  have hfd := hb.find he
  have hpb : ps[e.born]? = some (ps[e.born]'(by omega)) := by simp
  have hk := hm.key _ _ e hpb hg
  have hroom := hsn.room hlt hns
  generalize ps[e.born]'(by omega) = p at hpb hk
  obtain ⟨key, val, born⟩ := e
  obtain rfl : key = strV p.1.text := hk
  refine G ?_
  refine ⟨14, r, es.size, sn.push born, ⟨strV p.1.text, val, born⟩, es, rfl, hJ.m hm.at', by simp, hfd, ?_⟩
  refine G ?_
  refine .inl fun be J2 hi2 hce => ?_
  refine G ?_
  refine .own 900 ss.length 1 (ss.map strV) [strV p.1.text] rfl rfl ⟨rfl, by omega, rfl, hce⟩ rfl (by rw [show ti9.bytes = 16 by kernel_rfl]; omega) fun nb nc => ?_
  refine G ?_
  refine ⟨es.size - (sn.push born).size, _, _, by simp; omega, rfl, rfl, rfl, rfl, .inl ⟨sn.push born, nb, nc, ss ++ [p.1.text], by rw [List.length_append]; rfl, rfl, rfl, hJ.trans hi2, by rw [List.length_append, List.map_append]; rfl, hsn.push hlt hns, by simp [hss], fun i bo s q h1 h2 h3 => ?_⟩⟩
  by_cases hi : i < ss.length
  ·rw [List.getElem?_append_left hi] at h1
   rw [Array.toList_push, List.getElem?_append_left (by simp; omega)] at h2
   exact hent i bo s q h1 h2 h3
  ·have hi2' : i = ss.length := by
    have := (List.getElem?_eq_some_iff.1 h1).1
    simp at this
    omega
   subst hi2'
   rw [List.getElem?_append_right (Nat.le_refl _)] at h1
   rw [Array.toList_push, List.getElem?_append_right (by simp; omega)] at h2
   simp [hss] at h1 h2
   subst h1 h2
   rw [hpb] at h3
   cases h3
   rfl
theorem textPairs_nil_71 {kind : Int} (h : Q (.tuple #[.slice none 0 0, .bool true]) [] [] I) : WP Tryz.prog 71 #[.int .i64 kind, .map none] [] [] I Q := by
 refine lw K71 [] _ Tryz.func71 ?_
 refine G ?_
 intro it
 refine G ?_
 refine ⟨⟨[6], [], [(900, 1)], fun m vs cs R J => vs = [.slice none 0 0] ∧ cs = [] ∧ m = 0 ∧ I = J ∧ R = [(14, .iter it none 0 #[] 0), (900, .vec (.slice none 0 0) 1 [])], 0, _, _, rfl, rfl, ⟨rfl, rfl, rfl, rfl, rfl⟩, ?_⟩⟩
 rintro m vs cs R J hJ _ _ ⟨rfl, rfl, rfl, rfl, rfl⟩
 refine G ?_
 refine ⟨14, none, 0, #[], 0, rfl, ?_⟩
 refine G ?_
 refine Cx [] ?_ [900]
 refine sortStrings_law (ss := []) (base := none) (cap := 0) (by decide) fun ss' hp => ?_
 obtain rfl := hp.eq_nil
 refine G ?_
 refine ⟨⟨[27, 8], [], [], fun m vs cs R2 J => vs = [.int .i64 0, .slice none 0 0] ∧ cs = [] ∧ m = 0 ∧ I = J ∧ R2 = [(14, .iter it none 0 #[] 0), (24, .vec (.slice none 0 0) 1 [])], 0, _, _, rfl, rfl, ⟨rfl, rfl, rfl, rfl, rfl⟩, ?_⟩⟩
 rintro m vs cs R2 J hJ2 _ _ ⟨rfl, rfl, rfl, rfl, rfl⟩
 refine G ?_
 refine L0 ?_
 exact h
theorem textPairs_law_71 {kind : Int} (hu : Utf I) (hkr : -9223372036854775808 ≤ kind ∧ kind < 9223372036854775808) {ps : List (V × V)} {r : Nat} {es : Array MapEntry} (hm : TxtMap I ps r es) (hv : ∀ p ∈ ps, VdP p.2)
  (h : ∀ I' ps' ks' v', I.le I' → ps'.Perm ps → BackT kind ps' ks' → VsRep I' ks' v' → Q (.tuple #[v', .bool true]) [] [] I') : WP Tryz.prog 71 #[.int .i64 kind, .map (some r)] [] [] I Q := by
 have hb := hm.born
 have hmem := hb.lt
 have hlen := hm.len
 have hsmall := hm.small
 refine law (kp := [0,1,4,5,6,7,8,10,11,12,14,16,25,26,27,28,39,10024]) [] (args := [.int .i64 kind, .map (some r)]) Tryz.func71 (by kernel_rfl) (by kernel_rfl) trivial ?_
 refine G ?_
 refine ⟨es, _, hm.at', fun it => ?_⟩
 refine G ?_
 refine ⟨⟨[6], [], [(900, 1)], fun m vs cs R J => ∃ (sn : Array Nat) (kb : Option Addr) (kc : Nat) (ss : List (List UInt8)), vs = [.slice kb ss.length kc] ∧ cs = [] ∧ m = es.size - sn.size ∧ I.le J ∧
   R = [(14, .iter it (some r) es.size sn es.size), (900, .vec (.slice kb ss.length kc) 1 (ss.map strV))] ∧ Seen es.size sn ∧ ss.length = sn.size ∧
   (∀ (i bo : Nat) (s : List UInt8) (p : V × V), ss[i]? = some s → sn.toList[i]? = some bo → ps[bo]? = some p → s = p.1.text), es.size, _, _, rfl, rfl,
  ⟨#[], none, 0, [], rfl, rfl, rfl, .refl I, rfl, .nil _, rfl, by simp⟩, ?_⟩⟩
 rintro m vs cs R J hJ0 _ _ ⟨sn, kb, kc, ss, rfl, rfl, rfl, hJ, rfl, hsn, hss, hent⟩
 clear hJ0
 have hle := hsn.le
 refine G ?_
 refine ⟨14, some r, es.size, sn, es.size, rfl, es, hJ.m hm.at', rfl, hmem, fun hall => ?_, fun e he hns => ?_⟩
 ·have hperm : sn.toList.Perm (List.range es.size) := by
   refine (List.perm_ext_iff_of_nodup hsn.nodup List.nodup_range).2 fun a => ⟨fun h => List.mem_range.2 (hsn.lt a h), fun h => ?_⟩
   have hlt := List.mem_range.1 h
   have hg : es.toList[a]? = some es.toList[a] := by simp [hlt]
   have := hall _ (List.mem_of_getElem? hg)
   rw [hb a _ hg] at this
   simpa using this
  have hsse : ss = sn.toList.map fun b => ((ps.map fun p => p.1.text).getD b []) := by
   refine List.ext_getElem? fun i => ?_
   by_cases hi : i < ss.length
   ·have hi2 : i < sn.toList.length := by simp; omega
    have hlt := hsn.lt sn.toList[i] (by simp)
    have hlp : sn.toList[i] < ps.length := by omega
    have := hent i sn.toList[i] ss[i] ps[sn.toList[i]] (by simp) (by simp) (by simp)
    rw [List.getElem?_map, List.getElem?_eq_getElem hi, List.getElem?_eq_getElem hi2, Option.map_some, List.getD_eq_getElem?_getD, List.getElem?_map, List.getElem?_eq_getElem hlp]
    simp [this]
   ·rw [List.getElem?_eq_none (by omega), List.getElem?_eq_none (by simp; omega)]
  have hssp : ss.Perm (ps.map fun p => p.1.text) := by
   rw [hsse]
   refine (hperm.map _).trans (List.Perm.of_eq ?_)
   refine List.ext_getElem? fun i => ?_
   by_cases hi : i < es.size
   ·have : i < (ps.map fun p => p.1.text).length := by simp; omega
    rw [List.getElem?_map, List.getElem?_range hi, Option.map_some, List.getD_eq_getElem?_getD, List.getElem?_eq_getElem this]
    rfl
   ·rw [List.getElem?_eq_none (by simp; omega), List.getElem?_eq_none (by simp; omega)]
  refine G ?_
  refine Cx [] ?_ [900]
  refine sortStrings_law (by omega) fun ss' hp => ?_
  obtain ⟨ps', hpp, hse⟩ := perm_map_inv (hp.trans hssp) rfl
  have hl' : ss'.length = ss.length := hp.length_eq
  have hlp' : ps'.length = es.size := by rw [hpp.length_eq]; omega
  have hls : ss.length = es.size := by rw [← hl', hse, List.length_map]; omega
  conv => whnf
  intro J1 hJ1 ⟨n, hn, hsl⟩
  obtain rfl : ss.length = n := hn
  have hJI := hJ.trans hJ1
  refine G ?_
  refine ⟨⟨[27, 8], [], [(901, 6)], fun m vs cs R2 J2 => ∃ (i : Nat) (kb2 : Option Addr) (kc2 : Nat) (ys : List V) (cells : List (List Value)), vs = [.int .i64 (i : Nat), .slice kb2 (i * 2) kc2] ∧ cs = [] ∧ i ≤ ss.length ∧ m = ss.length - i ∧
    R2 = [(14, .iter it (some r) es.size sn es.size), (901, .vec (.slice kb2 (i * 2) kc2) 6 cells.flatten)] ∧ cells.length = i * 2 ∧ ys.length = i * 2 ∧ (∀ (j : Nat) (y : V) (d : List Value), ys[j]? = some y → cells[j]? = some d → VRep J2 y d) ∧
    (∀ (j : Nat) (p : V × V), j < i → ps'[j]? = some p → ∃ y, ys[2 * j]? = some (.mk kind 0 p.1.text [] 0 []) ∧ ys[2 * j + 1]? = some y ∧ Back p.2 y), ss.length, _, _, rfl, rfl,
   ⟨0, none, 0, [], [], rfl, rfl, by omega, rfl, rfl, rfl, rfl, by simp, fun j p hj => by omega⟩, ?_⟩⟩
  rintro m vs cs R2 J2 hJ2 _ _ ⟨i, kb2, kc2, ys, cells, rfl, rfl, hi, rfl, rfl, hcl, hyl, hrep, hbk⟩
  replace hJ2 : J1.le J2 := hJ2
  refine G ?_
  split
  ·rename_i hlt _
   have hi' : i < ss.length := by omega
   have his : i < ss'.length := by omega
   have hip : i < ps'.length := by omega
   have hs0 : ss'[i] = ps'[i].1.text := by simp [hse]
   obtain ⟨vb, vo, hvb, _, _, _, hcells⟩ := slAt_some hsl (by omega)
   cases hvb
   have hload : CellsAt J1 vb (vo + i * 1) [strV ps'[i].1.text] := fun j y e => by
    cases j with
    | zero =>
     simp at e
     subst e
     rw [Nat.mul_one]
     refine hcells i _ ?_
     rw [List.getElem?_map, List.getElem?_eq_getElem his, hs0]; rfl
    | succ j => simp at e
   have hpm : ps'[i] ∈ ps := hpp.mem_iff.1 (by simp)
   obtain ⟨pj, hpj⟩ := List.mem_iff_getElem?.1 hpm
   have hpjl := (List.getElem?_eq_some_iff.1 hpj).1
   have hej : es.toList[pj]? = some (es.toList[pj]'(by simp; omega)) := by simp
   have hkj := hm.key pj _ _ hpj hej
   have hvj := hm.val pj _ _ hpj hej
   have hfind := find_str (kt := 164) (by kernel_rfl) hej hkj fun l x hl hx => by
    have hxl := (List.getElem?_eq_some_iff.1 hx).1
    simp only [Array.length_toList] at hxl
    have hpl : ps[l]? = some (ps[l]'(by omega)) := by simp
    exact ⟨_, hm.key l _ x hpl hx, hm.dist l pj _ _ hpl hpj (by omega)⟩
   generalize es.toList[pj]'(by simp; omega) = e at hej hkj hvj hfind
   have htl := hm.text _ hpm
   have hvp := hv _ hpm
   refine G ?_
   refine ⟨_, _, _, _, i, rfl, rfl, hi', ?_⟩
   refine G ?_
   refine ⟨_, .imm (hload.mono hJ2), ?_⟩
   refine G ?_
   refine ⟨es, _, some (pj, e.val), (hJI.trans hJ2).m hm.at', hfind, ?_⟩
   have hga := hvj.mono (hJI.trans hJ2)
   rcases hga.form with hg0 | ⟨ty, p, hg0⟩
   all_goals
    rw [hg0] at hga ⊢
    refine G ?_
    refine Cx [] ?_
    refine hvp J2 _ _ (hu.mono (hJI.trans hJ2)) hga fun J3 y c1 hi1 hb1 hr1 => ?_
    have hr1' := hr1
    obtain ⟨xb, xc, xd, xe, rfl, _⟩ := hr1.inv2
    refine G ?_
    intro b11
    refine G ?_
    refine .inl fun be J4 hi2 hce => ?_
    refine G ?_
    refine .own 901 (i * 2) 2 cells.flatten (textC kind ps'[i].1.text ++ cellsOf y xb xc xd xe) rfl rfl ⟨rfl, by omega, rfl, hce⟩ rfl (by rw [show ti79.bytes = 88 by kernel_rfl]; omega) fun nb nc => ?_
    refine G ?_
    refine ⟨ss.length - (i + 1), _, _, by omega, rfl, rfl, rfl, rfl, .inl ⟨i + 1, nb, nc, ys ++ [.mk kind 0 ps'[i].1.text [] 0 [], y], cells ++ [textC kind ps'[i].1.text, cellsOf y xb xc xd xe], by rw [Nat.succ_mul]; rfl, rfl, hi', rfl, ?_, by simp [hcl, Nat.succ_mul], by simp [hyl, Nat.succ_mul], fun j z d hy hd => ?_, fun j p hj hp1 => ?_⟩⟩
    ·rw [List.flatten_append, Nat.succ_mul]; rfl
    ·by_cases hji : j < i * 2
     ·rw [List.getElem?_append_left (by omega)] at hd hy
      exact (hrep j z d hy hd).mono (hi1.trans hi2)
     ·rw [List.getElem?_append_right (by omega), hcl] at hd
      rw [List.getElem?_append_right (by omega), hyl] at hy
      have hj2 : j - i * 2 = 0 ∨ j - i * 2 = 1 := by
       have := (List.getElem?_eq_some_iff.1 hd).1
       simp at this
       omega
      rcases hj2 with hj2 | hj2
      ·rw [hj2] at hd hy
       simp at hd hy
       subst hd hy
       exact vText_rep hkr htl
      ·rw [hj2] at hd hy
       simp at hd hy
       subst hd hy
       exact hr1'.mono hi2
    ·by_cases hji : j < i
     ·obtain ⟨y1, q1, q2, q3⟩ := hbk j p hji hp1
      exact ⟨y1, by rw [List.getElem?_append_left (by omega)]; exact q1, by rw [List.getElem?_append_left (by omega)]; exact q2, q3⟩
     ·obtain rfl : j = i := by omega
      rw [List.getElem?_eq_getElem hip] at hp1
      cases hp1
      refine ⟨y, ?_, ?_, hb1⟩
      ·rw [List.getElem?_append_right (by omega), hyl, show 2 * j - j * 2 = 0 by omega]; rfl
      ·rw [List.getElem?_append_right (by omega), hyl, show 2 * j + 1 - j * 2 = 1 by omega]; rfl
  ·rename_i hge _
   obtain rfl : i = ss.length := by omega
   refine G ?_
   refine ⟨⟨[], [], [], [901], ?_⟩⟩
   intro J3 hJ3 ⟨n2, hn2, hsl2⟩
   obtain rfl : ss.length * 2 = n2 := hn2
   conv => whnf
   refine h J3 ps' ys _ ((hJI.trans hJ2).trans hJ3) hpp ⟨by omega, fun i p hp => hbk i p (by have := (List.getElem?_eq_some_iff.1 hp).1; omega) hp⟩ ?_
   exact ⟨by omega, cells, by rw [hyl]; exact hsl2, by omega, fun j y d hy hd => (hrep j y d hy hd).mono hJ3⟩
 ·have hlt := hmem e he
  have hg := hb.get he
  have hfd := hb.find he
  have hpb : ps[e.born]? = some (ps[e.born]'(by omega)) := by simp
  have hk := hm.key _ _ e hpb hg
  have hroom := hsn.room hlt hns
  generalize ps[e.born]'(by omega) = p at hpb hk
  obtain ⟨key, val, born⟩ := e
  obtain rfl : key = strV p.1.text := hk
  refine G ?_
  refine ⟨14, r, es.size, sn.push born, ⟨strV p.1.text, val, born⟩, es, rfl, hJ.m hm.at', by simp, hfd, ?_⟩
  refine G ?_
  refine .inl fun be J2 hi2 hce => ?_
  refine G ?_
  refine .own 900 ss.length 1 (ss.map strV) [strV p.1.text] rfl rfl ⟨rfl, by omega, rfl, hce⟩ rfl (by rw [show ti9.bytes = 16 by kernel_rfl]; omega) fun nb nc => ?_
  refine G ?_
  refine ⟨es.size - (sn.push born).size, _, _, by simp; omega, rfl, rfl, rfl, rfl, .inl ⟨sn.push born, nb, nc, ss ++ [p.1.text], by rw [List.length_append]; rfl, rfl, rfl, hJ.trans hi2, by rw [List.length_append, List.map_append]; rfl, hsn.push hlt hns, by simp [hss], fun i bo s q h1 h2 h3 => ?_⟩⟩
  by_cases hi : i < ss.length
  ·rw [List.getElem?_append_left hi] at h1
   rw [Array.toList_push, List.getElem?_append_left (by simp; omega)] at h2
   exact hent i bo s q h1 h2 h3
  ·have hi2' : i = ss.length := by
    have := (List.getElem?_eq_some_iff.1 h1).1
    simp at this
    omega
   subst hi2'
   rw [List.getElem?_append_right (Nat.le_refl _)] at h1
   rw [Array.toList_push, List.getElem?_append_right (by simp; omega)] at h2
   simp [hss] at h1 h2
   subst h1 h2
   rw [hpb] at h3
   cases h3
   rfl
end tp
end Go.Proofs.YtcfglgelckjpmaaGreatDoor
