/- Own machinery, and laws of the functions that the statement reaches (part 40). -/
import Derived.Test.YtcfglgelckjpmaaGreatDoorB21
import Derived.Test.YtcfglgelckjpmaaGreatDoorB26
import Derived.Test.YtcfglgelckjpmaaGreatDoorB27
import Derived.Test.YtcfglgelckjpmaaGreatDoorB29
import Derived.Test.YtcfglgelckjpmaaGreatDoorB31
import Derived.Test.YtcfglgelckjpmaaGreatDoorB34
import Derived.Test.YtcfglgelckjpmaaGreatDoorB38
import Derived.Test.YtcfglgelckjpmaaGreatDoorB39
set_option linter.all false
namespace Go.Proofs.YtcfglgelckjpmaaGreatDoor
set_option maxRecDepth 100000
set_option maxHeartbeats 8000000
structure PMap (I : Imm) (ps : List (V × V)) (r : Nat) (es : Array MapEntry) : Prop where
 at' : I.m r = some (es, es.size)
 born : Born es
 len : es.size = ps.length
 key : ∀ (i : Nat) (p : V × V) (e : MapEntry), ps[i]? = some p → es.toList[i]? = some e → e.key = goV p.1.kind p.1.num p.1.text
 val : ∀ (i : Nat) (p : V × V) (e : MapEntry), ps[i]? = some p → es.toList[i]? = some e → GoAny I p.2 e.val
 plain : ∀ p ∈ ps, ∃ k n t o, p.1 = .mk k n t [] o [] ∧ Scal k n t ∧ keyK k
 small : ps.length < 549755813888
def PairIs (I : Imm) (p : V × V) (pe : PE) : Prop := ∃ y z c d, pe.r = c ++ d ∧ Back p.1 y ∧ Back p.2 z ∧ VRep I y c ∧ VRep I z d
theorem PairIs.mono {I J : Imm} (hi : I.le J) {p : V × V} {pe : PE} (h : PairIs I p pe) : PairIs J p pe := by
 obtain ⟨y, z, c, d, h1, h2, h3, h4, h5⟩ := h
 exact ⟨y, z, c, d, h1, h2, h3, h4.mono hi, h5.mono hi⟩
theorem cellsOf_one {y : V} {b : Option Addr} {c : Nat} {d : Option Addr} {e : Nat} : ∀ v ∈ cellsOf y b c d e, v.oneCell' = true := by
 intro v hv
 simp only [cellsOf, List.mem_cons, List.not_mem_nil, or_false] at hv
 rcases hv with rfl | rfl | rfl | rfl | rfl | rfl <;> rfl
section tq
variable {I : Imm} {Q : Qt}
theorem aligned {I : Imm} {qs : List (V × V)} {pes pes' : List PE} (hl : qs.length = pes.length) (h : ∀ (i : Nat) (q : V × V) (pe : PE), qs[i]? = some q → pes[i]? = some pe → PairIs I q pe) (hp : pes'.Perm pes) :
  ∃ qs' : List (V × V), qs'.Perm qs ∧ qs'.length = pes'.length ∧ ∀ (i : Nat) (q : V × V) (pe : PE), qs'[i]? = some q → pes'[i]? = some pe → PairIs I q pe := by
 have e1 : pes = (qs.zip pes).map Prod.snd := by rw [List.map_snd_zip]; omega
 have e2 : qs = (qs.zip pes).map Prod.fst := by rw [List.map_fst_zip]; omega
 obtain ⟨zs, hz, rfl⟩ := perm_map_inv hp e1
 refine ⟨zs.map Prod.fst, (hz.map _).trans (List.Perm.of_eq e2.symm), by simp, fun i q pe hq hpe => ?_⟩
 simp only [List.getElem?_map, Option.map_eq_some_iff] at hq hpe
 obtain ⟨z, hz1, rfl⟩ := hq
 obtain ⟨z', hz2, rfl⟩ := hpe
 rw [hz1] at hz2
 cases hz2
 obtain ⟨j, hj⟩ := List.mem_iff_getElem?.1 (hz.mem_iff.1 (List.mem_of_getElem? hz1))
 obtain ⟨h1, h2⟩ := List.getElem?_zip_eq_some.1 hj
 exact h j _ _ h1 h2
theorem key_go {I : Imm} {k : Int} {n : Nat} {t : List UInt8} {o : Int} (hs : Scal k n t) (hk : keyK k) : GoAny I (.mk k n t [] o []) (.iface (goT k) (goP k n t)) := by
 rw [← goV_key hk]
 exact .sc hs (by rintro rfl; unfold keyK at hk; omega)
theorem marshaled_key' {k : Int} {n : Nat} {t : List UInt8} (hu : Utf I) (hs : Scal k n t) (hk : keyK k) (h : ∀ I' (ys : List UInt8) sv, I.le I' → BytesAt I' ys sv → Q (.tuple #[sv, .bool true]) [] [] I') : WP Tryz.prog 213 #[.iface (goT k) (goP k n t)] [] [] I Q := by
 rw [← goV_key hk]
 exact marshaled_key hu hs hk h
theorem pairs_law {ps : List (V × V)} {r : Nat} {es : Array MapEntry} (hu : Utf I) (hm : PMap I ps r es) (hv : ∀ p ∈ ps, VdP p.2)
  (h : ∀ (I' : Imm) (ps' : List (V × V)) (ks' : List V) (v' : Value), I.le I' → ps'.Perm ps → ks'.length = 2 * ps'.length → (∀ (i : Nat) (p : V × V), ps'[i]? = some p → ∃ a b, ks'[2 * i]? = some a ∧ ks'[2 * i + 1]? = some b ∧ Back p.1 a ∧ Back p.2 b) → VsRep I' ks' v' → Q (.tuple #[v', .bool true]) [] [] I') :
  WP Tryz.prog 143 #[.map (some r)] [] [] I Q := by
 have hb := hm.born
 have hmem := hb.lt
 have hlen := hm.len
 have hsmall := hm.small
 refine law (kp := [0,2,3,4,5,6,7,8,9,10,11,12,13,15,17,19,47,60,61,62,63,10059]) [] (args := [.map (some r)]) Tryz.func143 (by kernel_rfl) (by kernel_rfl) trivial ?_
 refine G ?_
 intro b4
 refine G ?_
 refine ⟨es, _, hm.at', fun it => ?_⟩
 refine G ?_
 refine ⟨⟨[], [4], [(900, 13)], fun m vs cs R J => ∃ (sn : Array Nat) (kb : Option Addr) (kc : Nat) (pes : List PE), vs = [] ∧ cs = [[.slice kb pes.length kc]] ∧ m = es.size - sn.size ∧ I.le J ∧
   R = [(17, .iter it (some r) es.size sn es.size), (900, .vec (.slice kb pes.length kc) 13 (pes.map encP).flatten)] ∧ Seen es.size sn ∧ pes.length = sn.size ∧
   (∀ (i bo : Nat) (pe : PE) (p : V × V), pes[i]? = some pe → sn.toList[i]? = some bo → ps[bo]? = some p → PairIs J p pe), es.size, _, _, rfl, rfl,
  ⟨#[], none, 0, [], rfl, rfl, rfl, .refl I, rfl, .nil _, rfl, by simp⟩, ?_⟩⟩
 rintro m vs cs R J hJ0 _ _ ⟨sn, kb, kc, pes, rfl, rfl, rfl, hJ, rfl, hsn, hss, hent⟩
 clear hJ0
 have hle := hsn.le
 refine G ?_
 refine ⟨17, some r, es.size, sn, es.size, rfl, es, hJ.m hm.at', rfl, hmem, fun hall => ?_, fun e he hns => ?_⟩
 ·have hperm : sn.toList.Perm (List.range es.size) := by
   refine (List.perm_ext_iff_of_nodup hsn.nodup List.nodup_range).2 fun a => ⟨fun h => List.mem_range.2 (hsn.lt a h), fun h => ?_⟩
   have hlt := List.mem_range.1 h
   have hg : es.toList[a]? = some es.toList[a] := by simp [hlt]
   have := hall _ (List.mem_of_getElem? hg)
   rw [hb a _ hg] at this
   simpa using this
  have hqs : (sn.toList.map fun b => ps.getD b (vNull, vNull)).Perm ps := by
   refine (hperm.map _).trans (List.Perm.of_eq ?_)
   refine List.ext_getElem? fun i => ?_
   by_cases hi : i < es.size
   ·have : i < ps.length := by omega
    rw [List.getElem?_map, List.getElem?_range hi, Option.map_some, List.getD_eq_getElem?_getD, List.getElem?_eq_getElem this]
    rfl
   ·rw [List.getElem?_eq_none (by simp; omega), List.getElem?_eq_none (by omega)]
  have hpes : ∀ (i : Nat) (q : V × V) (pe : PE), (sn.toList.map fun b => ps.getD b (vNull, vNull))[i]? = some q → pes[i]? = some pe → PairIs J q pe := fun i q pe hq hp => by
   rw [List.getElem?_map, Option.map_eq_some_iff] at hq
   obtain ⟨bo, h1, h2⟩ := hq
   have hlt := hsn.lt bo (List.mem_of_getElem? h1)
   rw [List.getD_eq_getElem?_getD, List.getElem?_eq_getElem (by omega)] at h2
   exact hent i bo pe q hp h1 (by rw [List.getElem?_eq_getElem (by omega)]; exact congrArg some h2)
  have hql : (sn.toList.map fun b => ps.getD b (vNull, vNull)).length = pes.length := by simp [hss]
  generalize (sn.toList.map fun b => ps.getD b (vNull, vNull)) = qs at hqs hpes hql
  have hels : pes.length = es.size := by rw [← hql, hqs.length_eq]; omega
  refine G ?_
  refine Cx [4] ?_ [900]
  refine sortSlice_law (by omega) fun pes' hp => ?_
  obtain ⟨ps', hpp, hpi⟩ := aligned hql hpes hp
  have hpl' : ps'.length = pes'.length := hpi.1
  have hl' : pes'.length = pes.length := hp.length_eq
  have hlp' : ps'.length = es.size := by omega
  conv => whnf
  intro J1 hJ1 ⟨n, hn, hsl⟩
  obtain rfl : pes.length = n := hn
  have hJI := hJ.trans hJ1
  refine G ?_
  refine ⟨⟨[62, 13], [], [(901, 6)], fun m vs cs R2 J2 => ∃ (i : Nat) (kb2 : Option Addr) (kc2 : Nat) (ys : List V) (cells : List (List Value)), vs = [.int .i64 (i : Nat), .slice kb2 (i * 2) kc2] ∧ cs = [] ∧ i ≤ pes.length ∧ m = pes.length - i ∧
    R2 = [(17, .iter it (some r) es.size sn es.size), (901, .vec (.slice kb2 (i * 2) kc2) 6 cells.flatten)] ∧ cells.length = i * 2 ∧ ys.length = i * 2 ∧ (∀ (j : Nat) (y : V) (d : List Value), ys[j]? = some y → cells[j]? = some d → VRep J2 y d) ∧
    (∀ (j : Nat) (p : V × V), j < i → ps'[j]? = some p → ∃ a b, ys[2 * j]? = some a ∧ ys[2 * j + 1]? = some b ∧ Back p.1 a ∧ Back p.2 b), pes.length, _, _, rfl, rfl,
   ⟨0, none, 0, [], [], rfl, rfl, by omega, rfl, rfl, rfl, rfl, by simp, fun j p hj => by omega⟩, ?_⟩⟩
  rintro m vs cs R2 J2 hJ2 _ _ ⟨i, kb2, kc2, ys, cells, rfl, rfl, hi, rfl, rfl, hcl, hyl, hrep, hbk⟩
  replace hJ2 : J1.le J2 := hJ2
  refine G ?_
  split
  ·rename_i hlt _
   have hi' : i < pes.length := by omega
   have his : i < pes'.length := by omega
   have hip : i < ps'.length := by omega
   obtain ⟨vb, vo, hvb, _, _, _, hcells⟩ := slAt_some hsl (by omega)
   cases hvb
   have hg0 : (pes'.map encP)[i]? = some (encP pes'[i]) := by rw [List.getElem?_map, List.getElem?_eq_getElem his]; rfl
   have hload : CellsAt J1 vb (vo + i * 13) (encP pes'[i]) := fun j y e => by
    rw [Nat.add_assoc]
    exact hcells (i * 13 + j) _ (flatten_get (fun c hc => by
     obtain ⟨p, _, rfl⟩ := List.mem_map.1 hc
     exact encP_len p) hg0 j _ e)
   have hpr := (hpi.2 i ps'[i] pes'[i] (by simp) (by simp)).mono (hJ1.trans hJ2)
   have hp1 : ps'[i]? = some ps'[i] := by simp
   generalize pes'[i] = pe at hload hpr
   generalize ps'[i] = p at hpr hp1
   obtain ⟨pt, pr, pl, po⟩ := pe
   obtain ⟨y, z, c1, c2, e1, hb1, hb2, hr1, hr2⟩ := hpr
   have hr1' := hr1
   have hr2' := hr2
   obtain ⟨xb, xc, xd, xe, rfl, _⟩ := hr1.inv2
   obtain ⟨zb, zc, zd, ze, rfl, _⟩ := hr2.inv2
   obtain rfl : pr = _ := e1
   refine G ?_
   refine ⟨_, _, _, _, i, rfl, rfl, hi', ?_⟩
   refine G ?_
   refine ⟨_, .imm (hload.mono hJ2), ?_⟩
   refine G ?_
   refine ⟨rfl, ?_⟩
   refine G ?_
   intro b15
   refine G ?_
   refine .inl fun be J4 hi2 hce => ?_
   refine G ?_
   refine .own 901 (i * 2) 2 cells.flatten (cellsOf y xb xc xd xe ++ cellsOf z zb zc zd ze) rfl rfl ⟨rfl, by omega, rfl, hce⟩ rfl (by rw [show ti79.bytes = 88 by kernel_rfl]; omega) fun nb nc => ?_
   refine G ?_
   refine ⟨pes.length - (i + 1), _, _, by omega, rfl, rfl, rfl, rfl, .inl ⟨i + 1, nb, nc, ys ++ [y, z], cells ++ [cellsOf y xb xc xd xe, cellsOf z zb zc zd ze], by rw [Nat.succ_mul]; rfl, rfl, hi', rfl, ?_, by simp [hcl, Nat.succ_mul], by simp [hyl, Nat.succ_mul], fun j w d hy hd => ?_, fun j q hj hq => ?_⟩⟩
   ·rw [List.flatten_append, Nat.succ_mul]; rfl
   ·by_cases hji : j < i * 2
    ·rw [List.getElem?_append_left (by omega)] at hd hy
     exact (hrep j w d hy hd).mono hi2
    ·rw [List.getElem?_append_right (by omega), hcl] at hd
     rw [List.getElem?_append_right (by omega), hyl] at hy
     have hj2 : j - i * 2 = 0 ∨ j - i * 2 = 1 := by
      have := (List.getElem?_eq_some_iff.1 hd).1
      simp at this
      omega
     rcases hj2 with hj2 | hj2
     ·rw [hj2] at hd hy
      simp at hd hy
      subst hd hy
      exact hr1'.mono hi2
     ·rw [hj2] at hd hy
      simp at hd hy
      subst hd hy
      exact hr2'.mono hi2
   ·by_cases hji : j < i
    ·obtain ⟨a1, a2, q1, q2, q3⟩ := hbk j q hji hq
     exact ⟨a1, a2, by rw [List.getElem?_append_left (by omega)]; exact q1, by rw [List.getElem?_append_left (by omega)]; exact q2, q3⟩
    ·obtain rfl : j = i := by omega
     rw [hp1] at hq
     cases hq
     refine ⟨y, z, ?_, ?_, hb1, hb2⟩
     ·rw [List.getElem?_append_right (by omega), hyl, show 2 * j - j * 2 = 0 by omega]; rfl
     ·rw [List.getElem?_append_right (by omega), hyl, show 2 * j + 1 - j * 2 = 1 by omega]; rfl
  ·rename_i hge _
   obtain rfl : i = pes.length := by omega
   refine G ?_
   refine ⟨⟨[], [], [], [901], ?_⟩⟩
   intro J3 hJ3 ⟨n2, hn2, hsl2⟩
   obtain rfl : pes.length * 2 = n2 := hn2
   conv => whnf
   refine h J3 ps' ys _ ((hJI.trans hJ2).trans hJ3) (hpp.trans hqs) (by omega) (fun i p hp => hbk i p (by have := (List.getElem?_eq_some_iff.1 hp).1; omega) hp) ?_
   exact ⟨by omega, cells, by rw [hyl]; exact hsl2, by omega, fun j y d hy hd => (hrep j y d hy hd).mono hJ3⟩
 ·have hlt := hmem e he
  have hg := hb.get he
  have hfd := hb.find he
  have hpb : ps[e.born]? = some (ps[e.born]'(by omega)) := by simp
  have hk := hm.key _ _ e hpb hg
  have hvl := hm.val _ _ e hpb hg
  have hpm : ps[e.born]'(by omega) ∈ ps := by simp
  have hroom := hsn.room hlt hns
  generalize ps[e.born]'(by omega) = p at hpb hk hvl hpm
  obtain ⟨k, n, t, o, hp1, hsc, hkk⟩ := hm.plain p hpm
  rw [hp1] at hk
  replace hk : e.key = .iface (goT k) (goP k n t) := hk.trans (goV_key hkk n t)
  obtain ⟨key, val, born⟩ := e
  obtain rfl : key = .iface (goT k) (goP k n t) := hk
  refine G ?_
  refine ⟨17, r, es.size, sn.push born, ⟨.iface (goT k) (goP k n t), val, born⟩, es, rfl, hJ.m hm.at', by simp, hfd, ?_⟩
  have hga := hvl.mono hJ
  change GoAny J p.2 val at hga
  rcases hga.form with rfl | ⟨ty, pv, rfl⟩
  all_goals
   refine G ?_
   refine Cx [] ?_
   refine vd_sc (o := o) hsc J _ _ (hu.mono hJ) (key_go hsc hkk) fun J1 y c1 hi1 hb1 hr1 => ?_
   have hr1' := hr1
   obtain ⟨xb, xc, xd, xe, rfl, _⟩ := hr1.inv2
   refine G ?_
   intro b7
   refine G ?_
   refine Cx [] ?_
   refine hv p hpm J1 _ _ (hu.mono (hJ.trans hi1)) (hga.mono hi1) fun J2 z c2 hi2 hb2 hr2 => ?_
   have hr2' := hr2
   obtain ⟨zb, zc, zd, ze, rfl, _⟩ := hr2.inv2
   refine G ?_
   intro b9
   refine G ?_
   refine Cx [] ?_
   refine marshaled_key' (hu.mono ((hJ.trans hi1).trans hi2)) hsc hkk fun J3 ys sv hi3 hy3 => ?_
   obtain ⟨sb, sc, rfl⟩ := bytes_form hy3
   refine G ?_
   refine ⟨_, .imm hy3, ?_⟩
   refine G ?_
   refine .inl fun be J4 hi4 hce => ?_
   refine G ?_
   refine .own 900 pes.length 1 (pes.map encP).flatten (strV ys :: (cellsOf y xb xc xd xe ++ cellsOf z zb zc zd ze)) rfl rfl ⟨rfl, by omega, rfl, hce⟩ rfl (by rw [show ti416.bytes = 192 by kernel_rfl]; omega) fun nb nc => ?_
   refine G ?_
   refine ⟨es.size - (sn.push born).size, _, _, by simp; omega, rfl, rfl, rfl, rfl, .inl ⟨sn.push born, nb, nc, pes ++ [⟨ys, cellsOf y xb xc xd xe ++ cellsOf z zb zc zd ze, rfl, fun v hv => by rcases List.mem_append.1 hv with hv | hv <;> exact cellsOf_one v hv⟩], rfl, by rw [List.length_append]; rfl, rfl, hJ.trans (hi1.trans (hi2.trans (hi3.trans hi4))), ?_, hsn.push hlt hns, by simp [hss], fun i bo pe q h1 h2 h3 => ?_⟩⟩
   ·rw [List.length_append, List.map_append, List.flatten_append]; rfl
   ·by_cases hi : i < pes.length
    ·rw [List.getElem?_append_left hi] at h1
     rw [Array.toList_push, List.getElem?_append_left (by simp; omega)] at h2
     exact (hent i bo pe q h1 h2 h3).mono (hi1.trans (hi2.trans (hi3.trans hi4)))
    ·have hi2' : i = pes.length := by
      have := (List.getElem?_eq_some_iff.1 h1).1
      simp at this
      omega
     subst hi2'
     rw [List.getElem?_append_right (Nat.le_refl _)] at h1
     rw [Array.toList_push, List.getElem?_append_right (by simp; omega)] at h2
     simp [hss] at h1 h2
     subst h1 h2
     rw [hpb] at h3
     cases h3
     exact ⟨y, z, _, _, rfl, hp1 ▸ hb1, hb2, hr1'.mono (hi2.trans (hi3.trans hi4)), hr2'.mono (hi3.trans hi4)⟩
end tq
inductive Lt : V → Prop where
 | mk {k : Int} {n : Nat} {t : List UInt8} {ks : List V} {o : Int} {ds : List V} (hk : ks.length < 1099511627776) (h : ∀ (i : Nat) (x : V), ks[i]? = some x → Lt x) (hn : n < 18446744073709551616) : Lt (.mk k n t ks o ds)
theorem VRep.lt {I : Imm} {x : V} {c : List Value} (h : VRep I x c) : Lt x := by
 induction h with
 | mk hk hn ho ht hkl hdl h1 h2 h3 h4 h5 h6 ih1 ih2 =>
  refine .mk hkl (fun i x hx => ?_) hn
  have hi := (List.getElem?_eq_some_iff.1 hx).1
  exact ih1 i x _ hx (List.getElem?_eq_getElem (by omega))
def TextNe (p q : V × V) : Prop := (p.1.kind = 19 ∨ p.1.kind = 20) → (q.1.kind = 19 ∨ q.1.kind = 20) → p.1.text ≠ q.1.text
theorem text_dist {ks : List V} {o : Int} (hx : Kv (.mk 22 0 [] ks o [])) : (prs ks).Pairwise TextNe := by
 have hx' : (∀ (i : Nat) (x : V), i % 2 = 0 → ks[i]? = some x → ∃ k n t o, x = .mk k n t [] o [] ∧ Scal k n t ∧ keyK k) ∧
   (∀ (i j : Nat) (x y : V), i % 2 = 0 → j % 2 = 0 → j < i → ks[i]? = some x → ks[j]? = some y → ¬ Same (asKey y) (asKey x)) := by
  cases hx with
  | sc hs => cases hs
  | map he h hk hd => exact ⟨hk, hd⟩
 obtain ⟨hkey, hdist⟩ := hx'
 rw [List.pairwise_iff_getElem]
 intro i j hi hj hij h1 h2 he
 obtain ⟨a1, _⟩ := prs_mem (l := ks) (i := i) (p := (prs ks)[i]) (by simp)
 obtain ⟨b1, _⟩ := prs_mem (l := ks) (i := j) (p := (prs ks)[j]) (by simp)
 obtain ⟨k, n, t, o1, e1, s1, _⟩ := hkey (2 * i) _ (by omega) a1
 obtain ⟨k', n', t', o2, e2, s2, _⟩ := hkey (2 * j) _ (by omega) b1
 refine hdist (2 * j) (2 * i) _ _ (by omega) (by omega) (by omega) b1 a1 ?_
 rw [e1] at h1 he ⊢
 rw [e2] at h2 he ⊢
 obtain rfl : t = t' := he
 have n0 : n = 0 := by rcases h1 with h1 | h1 <;> (simp only [V.kind] at h1; subst h1; cases s1; rfl)
 have n0' : n' = 0 := by rcases h2 with h2 | h2 <;> (simp only [V.kind] at h2; subst h2; cases s2; rfl)
 have k0 : asKind k = 19 := by rcases h1 with h1 | h1 <;> (simp only [V.kind] at h1; subst h1; rfl)
 have k0' : asKind k' = 19 := by rcases h2 with h2 | h2 <;> (simp only [V.kind] at h2; subst h2; rfl)
 subst n0 n0'
 simp only [asKey, V.kind, V.num, V.text, V.of, V.desc, k0, k0']
 exact same_sc
theorem text_dist' {ks : List V} {o : Int} {ps : List (V × V)} (hx : Kv (.mk 22 0 [] ks o [])) (hp : ps.Perm (prs ks)) (i j : Nat) (p q : V × V) (h1 : ps[i]? = some p) (h2 : ps[j]? = some q) (hij : i ≠ j) : TextNe p q := by
 have hs : ∀ {a b}, TextNe a b → TextNe b a := fun h h1 h2 e => h h2 h1 e.symm
 have hw : ps.Pairwise TextNe := (hp.pairwise_iff hs).2 (text_dist hx)
 rw [List.pairwise_iff_getElem] at hw
 obtain ⟨hi, rfl⟩ := List.getElem?_eq_some_iff.1 h1
 obtain ⟨hj, rfl⟩ := List.getElem?_eq_some_iff.1 h2
 rcases Nat.lt_or_gt_of_ne hij with h | h
 ·exact hw i j hi hj h
 ·exact hs (hw j i hj hi h)
theorem vd_map {ks : List V} {o : Int} (hk : ∀ (i : Nat) (y : V), ks[i]? = some y → VdP y) (hx : Kv (.mk 22 0 [] ks o [])) (hn : ks.length < 1099511627776) : VdP (.mk 22 0 [] ks o []) := by
 have hx' : ks.length % 2 = 0 ∧ (∀ (i : Nat) (x : V), i % 2 = 0 → ks[i]? = some x → ∃ k n t o, x = .mk k n t [] o [] ∧ Scal k n t ∧ keyK k) := by
  cases hx with
  | sc hs => cases hs
  | map he h hk hd => exact ⟨he, hk⟩
 obtain ⟨heven, hkey⟩ := hx'
 intro I g Q hu hg h
 have hpl := prs_len ks
 have mem : ∀ {ps : List (V × V)}, ps.Perm (prs ks) → ∀ p ∈ ps, VdP p.2 ∧ ∃ k n t o, p.1 = .mk k n t [] o [] ∧ Scal k n t ∧ keyK k := fun hp p hpm => by
  obtain ⟨i, hi⟩ := List.mem_iff_getElem?.1 (hp.mem_iff.1 hpm)
  obtain ⟨h1, h2⟩ := prs_mem hi
  exact ⟨hk _ _ h2, hkey _ _ (by omega) h1⟩
 cases hg with
 | sc hsc => cases hsc
 | map hm hb hp hl hkk hgo =>
  rename_i r es ps
  have hpl2 := hp.length_eq
  have hpm : PMap I ps r es := ⟨hm, hb, hl, hkk, hgo, fun p hpp => (mem hp p hpp).2, by omega⟩
  refine lw K86 [] [.iface 291 (.map (some r))] Tryz.func86 ?_
  refine G ?_
  intro b1
  refine G ?_
  refine Cx [] ?_
  refine pairs_law hu hpm (fun p hpp => (mem hp p hpp).1) fun I1 ps' ks' v' hi1 hpp hl hb hr => ?_
  have hr' := hr
  obtain ⟨xb, xc, rfl⟩ := hr.form
  refine G ?_
  refine L0 ?_
  refine h I1 (.mk 22 0 [] ks' 0 []) _ hi1 (.map (hpp.trans hp) hl (fun i p a b hi ha hb1 => ?_) (fun i p a b hi ha hb1 => ?_)) (.intro (n := 0) (t := []) (by omega) (by decide) (by omega) (by decide) hr' (.nil I1))
  ·obtain ⟨a', b', e1, e2, e3, e4⟩ := hb i p hi
   rw [ha] at e1; cases e1; exact e3
  ·obtain ⟨a', b', e1, e2, e3, e4⟩ := hb i p hi
   rw [hb1] at e2; cases e2; exact e4
 | smap hm hb hp hl hkk hgo =>
  rename_i r es ps
  have hpl2 := hp.length_eq
  have knd : ∀ (i : Nat) (p : V × V), ps[i]? = some p → p.1.kind = 19 ∨ p.1.kind = 20 := fun i p hi => by
   have hil := (List.getElem?_eq_some_iff.1 hi).1
   exact (hkk i p (es.toList[i]'(by simp; omega)) hi (by simp)).1
  have hpm : TxtMap I ps r es := ⟨hm, hb, hl, fun i p e h1 h2 => (hkk i p e h1 h2).2, hgo, fun i j p q h1 h2 hij => text_dist' hx hp i j p q h1 h2 hij (knd i p h1) (knd j q h2), by omega, fun p hpp => by
   obtain ⟨k, n, t, o, e1, e2, _⟩ := (mem hp p hpp).2
   rw [e1]
   have := scal_text e2
   simp only [V.text]; omega⟩
  refine lw K86 [] [.iface 135 (.map (some r))] Tryz.func86 ?_
  refine G ?_
  intro b1
  refine G ?_
  refine Cx [] ?_
  refine textPairs_law_60 hu (by omega) hpm (fun p hpp => (mem hp p hpp).1) fun I1 ps' ks' v' hi1 hpp hb hr => ?_
  have hr' := hr
  obtain ⟨xb, xc, rfl⟩ := hr.form
  refine G ?_
  refine L0 ?_
  refine h I1 (.mk 22 0 [] ks' 0 []) _ hi1 (.map (hpp.trans hp) hb.1 (fun i p a b hi ha hb1 => ?_) (fun i p a b hi ha hb1 => ?_)) (.intro (n := 0) (t := []) (by omega) (by decide) (by omega) (by decide) hr' (.nil I1))
  ·obtain ⟨y, e1, e2, e3⟩ := hb.2 i p hi
   rw [ha] at e1; cases e1
   obtain ⟨i', hi'⟩ := List.mem_iff_getElem?.1 (hpp.mem_iff.1 (List.mem_of_getElem? hi))
   obtain ⟨k, n, t, o, e5, e6, _⟩ := (mem hp p (List.mem_of_getElem? hi')).2
   have hkd := knd i' p hi'
   rw [e5] at hkd ⊢
   simp only [V.kind] at hkd
   rcases hkd with rfl | rfl <;> (cases e6; exact .sc rfl)
  ·obtain ⟨y, e1, e2, e3⟩ := hb.2 i p hi
   rw [hb1] at e2; cases e2; exact e3
theorem valued_law {x : V} (hx : Kv x) (hl : Lt x) : VdP x := by
 induction hx with
 | sc hs => exact vd_sc hs
 | list h ih =>
  cases hl with
  | mk hn hl => exact vd_list (fun i y hy => ih i y hy (hl i y hy)) hn
 | arr hk hn h => exact vd_arr hk hn h
 | map he h hk hd ih =>
  cases hl with
  | mk hn hl => exact vd_map (fun i y hy => ih i y hy (hl i y hy)) (.map he h hk hd) hn
structure TextMap (ks : List V) : Prop where
 kv : Kv (.mk 22 0 [] ks 0 [])
 key : ∀ (i : Nat) (x : V), i % 2 = 0 → ks[i]? = some x → ∃ k t o, x = .mk k 0 t [] o [] ∧ Scal k 0 t ∧ (k = 19 ∨ k = 20)
 even : ks.length % 2 = 0
theorem TextMap.dist {ks : List V} (h : TextMap ks) {i j : Nat} {p q : V × V} (hp : (prs ks)[i]? = some p) (hq : (prs ks)[j]? = some q) (hij : i ≠ j) : p.1.text ≠ q.1.text := by
 obtain ⟨k, t, o, e1, _, e2⟩ := h.key (2 * i) p.1 (by omega) (prs_mem hp).1
 obtain ⟨k', t', o', e3, _, e4⟩ := h.key (2 * j) q.1 (by omega) (prs_mem hq).1
 exact text_dist' h.kv (.refl _) i j p q hp hq hij (by rw [e1]; exact e2) (by rw [e3]; exact e4)
theorem MapIs.txt {I : Imm} {ks : List V} {r : Nat} {es : Array MapEntry} (h : MapIs I textV ks r es) (ht : TextMap ks) (hn : ks.length < 1099511627776) : TxtMap I (prs ks) r es :=
 ⟨h.at', h.born, h.plen, fun i p e hp he => (h.pat hp he).1, fun i p e hp he => (h.pat hp he).2, fun i j p q hp hq hij => ht.dist hp hq hij, by rw [prs_len]; omega, fun p hp => by
  obtain ⟨i, hi⟩ := List.mem_iff_getElem?.1 hp
  obtain ⟨k, t, o, e1, e2, e3⟩ := ht.key (2 * i) p.1 (by omega) (prs_mem hi).1
  rw [e1]
  have := scal_text e2
  simp only [V.text]; omega⟩
theorem enc_text {k : Int} {t : List UInt8} {o : Int} {e : List UInt8} (h : Enc (.mk k 0 t [] o []) e) (hk : k = 19 ∨ k = 20) : TextE 0xa1 0xb1 t e ∨ TextE 0xa3 0xb3 t e := by
 rcases hk with rfl | rfl
 ·cases h with
  | sc h => cases h with
   | str h => exact .inl h
 ·cases h with
  | sc h => cases h with
   | sym h => exact .inr h
section un
variable {I : Imm} {b bx k : Nat} {bs : List UInt8} {v : Value} {off : Nat} {cs : List Value} {e r : List UInt8} {Q : Qt}
theorem mapText_law_133 {ks : List V} {es : List (List UInt8)} {hd r : List UInt8} (hk : k < cs.length) (hrd : ∀ (i : Nat) (y : V), i % 2 = 1 → ks[i]? = some y → RdP y) (hx : TextMap ks) (hv : BufAt I bs v) (hl : es.length = ks.length)
  (he : ∀ (i : Nat) (x : V) (e : List UInt8), ks[i]? = some x → es[i]? = some e → Enc x e) (hh : HeadE 0xc1 0xd1 ks.length hd es.flatten) (hdr : bs.drop off = hd ++ (es.flatten ++ r))
  (h : ∀ I' m me, I.le I' → MapIs I' textV ks m me → bs.drop (off + hd.length + es.flatten.length) = r → Q .nilIface [bufC v (off + hd.length + es.flatten.length), splice cs k [.map (some m)]] [] I') :
  WP Tryz.prog 133 #[pt bx k, ptr b] [(b, bufC v off), (bx, cs)] [] I Q := by
 have hsm := hv.small
 have hn : ks.length ≤ 65536 := (head_pos hh).2
 have hev := hx.even
 refine lw K133 [(1,1000)] _ Tryz.func133 ?_
 refine G ?_
 refine Cx [1000] ?_
 refine readMapHeader_law hv hh hdr fun hr => ?_
 refine G ?_
 refine ⟨by decide, _, rfl, ?_⟩
 refine G ?_
 intro m
 refine G ?_
 refine ⟨⟨[8], [1000], [], fun me vs css R J => ∃ (i : Nat) (ms : Array MapEntry), vs = [.int .u32 ((i * 2 : Nat) : Int)] ∧ css = [bufC v (off + hd.length + (es.take (i * 2)).flatten.length)] ∧ i * 2 ≤ ks.length ∧ me = ks.length - i * 2 ∧
   R = [(22, .map m ms ms.size)] ∧ ms.size = i ∧
   (∀ (j : Nat) (k x : V) (e : MapEntry), ks[2 * j]? = some k → ks[2 * j + 1]? = some x → ms.toList[j]? = some e → e.key = textV k ∧ e.born = j ∧ GoAny J x e.val), ks.length, _, _, rfl, rfl,
  ⟨0, #[], rfl, by simp, by omega, rfl, rfl, rfl, fun j k x e _ _ he => by simp at he⟩, ?_⟩⟩
 rintro me vs css R J hJ _ _ ⟨i, ms, rfl, rfl, hi, rfl, rfl, hms, hent⟩
 replace hJ : I.le J := hJ
 refine G ?_
 split
 ·rename_i hlt _
  have hi1 : i * 2 < ks.length := by omega
  have hi2 : i * 2 + 1 < ks.length := by omega
  have hie : i * 2 < es.length := by omega
  have hie2 : i * 2 + 1 < es.length := by omega
  have hd1 := drop_flat hr hie
  have hd2 := drop_flat hr hie2
  have htf := take_flat hie
  have htf2 := take_flat hie2
  obtain ⟨kk, kt, ko, hkx, hks, hkk⟩ := hx.key (i * 2) ks[i * 2] (by omega) (by simp [hi1])
  have henk := he (i * 2) ks[i * 2] es[i * 2] (by simp [hi1]) (by simp [hie])
  rw [hkx] at henk
  refine G ?_
  refine Cx [1000] ?_
  refine ReadString_law (hv.mono hJ) (enc_text henk hkk) hd1 fun hr1 => ?_
  refine G ?_
  rw [show off + hd.length + (es.take (i * 2)).flatten.length + es[i * 2].length = off + hd.length + (es.take (i * 2 + 1)).flatten.length by rw [htf]; omega]
  refine Cx [1000] ?_
  refine hrd (i * 2 + 1) ks[i * 2 + 1] (by omega) (by simp [hi2]) J b bs v _ es[i * 2 + 1] _ _ (hv.mono hJ) (he (i * 2 + 1) ks[i * 2 + 1] es[i * 2 + 1] (by simp [hi2]) (by simp [hie2])) hd2 fun J2 g2 hJ2 hg2 hr2 => ?_
  have hnew : NewKey Tryz.prog 9 (strV kt) ms := by
   refine newKey_str (by kernel_rfl) fun e he => ?_
   obtain ⟨j, hj⟩ := List.mem_iff_getElem?.1 he
   have hjl : j < i := by have := (List.getElem?_eq_some_iff.1 hj).1; simp at this; omega
   have g1 : ks[2 * j]? = some (ks[2 * j]'(by omega)) := by simp
   have g2 : ks[2 * j + 1]? = some (ks[2 * j + 1]'(by omega)) := by simp
   refine ⟨_, (hent j _ _ e g1 g2 hj).1, ?_⟩
   have := hx.dist (prs_get g1 g2) (prs_get (show ks[2 * i]? = some ks[i * 2] by rw [Nat.mul_comm]; simp [hi1]) (show ks[2 * i + 1]? = some ks[i * 2 + 1] by rw [Nat.mul_comm 2]; simp [hi2])) (by omega)
   rw [hkx] at this
   exact this
  rcases hg2.form with rfl | ⟨ty, p, rfl⟩
  all_goals
   refine G ?_
   refine ⟨22, _, _, rfl, hnew, ?_⟩
   refine G ?_
   refine ⟨ks.length - (i + 1) * 2, _, _, by omega, rfl, rfl, rfl, rfl, .inl ⟨i + 1, _, by rw [Nat.succ_mul]; rfl, ?_, by omega, rfl, by rw [Array.size_push], by rw [Array.size_push, hms], fun j k x e hk1 hk2 he1 => ?_⟩⟩
   ·rw [show (i + 1) * 2 = i * 2 + 1 + 1 by omega, htf2, Nat.add_assoc]
   ·rcases arr_push he1 with ⟨hj, he2⟩ | ⟨hj, rfl⟩
    ·obtain ⟨q1, q2, q3⟩ := hent j k x e hk1 hk2 he2
     exact ⟨q1, q2, q3.mono hJ2⟩
    ·subst hj
     rw [hms, show 2 * i = i * 2 by omega] at hk1 hk2
     simp [hi1] at hk1
     simp [hi2] at hk2
     subst hk1 hk2
     exact ⟨by rw [hkx]; rfl, rfl, hg2⟩
 ·rename_i hge _
  have hik : i * 2 = ks.length := by omega
  have hfl : (es.take (i * 2)).flatten.length = es.flatten.length := by rw [List.take_of_length_le (by omega)]
  rw [hfl]
  refine G ?_
  refine .loc 1001 cs rfl hk ?_
  refine G ?_
  refine ⟨⟨[], [], [], [22], ?_⟩⟩
  intro J1 hJ1 hm
  conv => whnf
  refine h J1 m ms (hJ.trans hJ1) ⟨hm, by omega, fun j k x e h1 h2 h3 => ?_⟩ (take_of_drop hr).2.2
  obtain ⟨q1, q2, q3⟩ := hent j k x e h1 h2 h3
  exact ⟨q1, q2, q3.mono hJ1⟩
theorem unm_map_282 {ks : List V} {o : Int} (hk : k < cs.length) (hrd : ∀ (i : Nat) (y : V), i % 2 = 1 → ks[i]? = some y → RdP y) (hx : TextMap ks) (hv : BufAt I bs v) (hz : ∃ z zt, e = z :: zt ∧ z ≠ 0x40) (he : Enc (.mk 22 0 [] ks o []) e) (hdr : bs.drop off = e ++ r)
  (h : ∀ I' m me, I.le I' → MapIs I' textV ks m me → bs.drop (off + e.length) = r → Q .nilIface [bufC v (off + e.length), splice cs k [.map (some m)]] [] I') : WP Tryz.prog 84 #[ptr b, .iface 282 (pt bx k)] [(b, bufC v off), (bx, cs)] [] I Q := by
 cases he with
 | sc hs => cases hs
 | map hl hen hh =>
  rename_i es hd
  obtain ⟨z, zt, hz1, hz2⟩ := hz
  have hoff := drop_le (y := z) (r := zt ++ r) (hdr.trans (by rw [hz1]; rfl))
  refine lw K84 [(0,1000)] _ Tryz.func84 ?_
  refine G ?_
  refine Cx [1000] ?_
  refine tryReadNull_law hv (Nat.le_of_lt hoff) hdr (fun z' r' hz => by rw [hz1] at hz; cases hz; exact hz2) ?_
  refine G ?_
  refine Cx [1000,1001] ?_
  have hdr' := hdr
  rw [List.append_assoc] at hdr'
  refine mapText_law_133 hk hrd hx hv hl hen hh hdr' fun I1 m me hi1 hm hr => ?_
  refine G ?_
  refine L0 ?_
  rw [List.length_append, ← Nat.add_assoc] at h
  exact h I1 m me hi1 hm hr
theorem mapText_law_134 {ks : List V} {es : List (List UInt8)} {hd r : List UInt8} (hk : k < cs.length) (hrd : ∀ (i : Nat) (y : V), i % 2 = 1 → ks[i]? = some y → RdP y) (hx : TextMap ks) (hv : BufAt I bs v) (hl : es.length = ks.length)
  (he : ∀ (i : Nat) (x : V) (e : List UInt8), ks[i]? = some x → es[i]? = some e → Enc x e) (hh : HeadE 0xc1 0xd1 ks.length hd es.flatten) (hdr : bs.drop off = hd ++ (es.flatten ++ r))
  (h : ∀ I' m me, I.le I' → MapIs I' textV ks m me → bs.drop (off + hd.length + es.flatten.length) = r → Q .nilIface [bufC v (off + hd.length + es.flatten.length), splice cs k [.map (some m)]] [] I') :
  WP Tryz.prog 134 #[pt bx k, ptr b] [(b, bufC v off), (bx, cs)] [] I Q := by
 have hsm := hv.small
 have hn : ks.length ≤ 65536 := (head_pos hh).2
 have hev := hx.even
 refine lw K134 [(1,1000)] _ Tryz.func134 ?_
 refine G ?_
 refine Cx [1000] ?_
 refine readMapHeader_law hv hh hdr fun hr => ?_
 refine G ?_
 refine ⟨by decide, _, rfl, ?_⟩
 refine G ?_
 intro m
 refine G ?_
 refine ⟨⟨[8], [1000], [], fun me vs css R J => ∃ (i : Nat) (ms : Array MapEntry), vs = [.int .u32 ((i * 2 : Nat) : Int)] ∧ css = [bufC v (off + hd.length + (es.take (i * 2)).flatten.length)] ∧ i * 2 ≤ ks.length ∧ me = ks.length - i * 2 ∧
   R = [(22, .map m ms ms.size)] ∧ ms.size = i ∧
   (∀ (j : Nat) (k x : V) (e : MapEntry), ks[2 * j]? = some k → ks[2 * j + 1]? = some x → ms.toList[j]? = some e → e.key = textV k ∧ e.born = j ∧ GoAny J x e.val), ks.length, _, _, rfl, rfl,
  ⟨0, #[], rfl, by simp, by omega, rfl, rfl, rfl, fun j k x e _ _ he => by simp at he⟩, ?_⟩⟩
 rintro me vs css R J hJ _ _ ⟨i, ms, rfl, rfl, hi, rfl, rfl, hms, hent⟩
 replace hJ : I.le J := hJ
 refine G ?_
 split
 ·rename_i hlt _
  have hi1 : i * 2 < ks.length := by omega
  have hi2 : i * 2 + 1 < ks.length := by omega
  have hie : i * 2 < es.length := by omega
  have hie2 : i * 2 + 1 < es.length := by omega
  have hd1 := drop_flat hr hie
  have hd2 := drop_flat hr hie2
  have htf := take_flat hie
  have htf2 := take_flat hie2
  obtain ⟨kk, kt, ko, hkx, hks, hkk⟩ := hx.key (i * 2) ks[i * 2] (by omega) (by simp [hi1])
  have henk := he (i * 2) ks[i * 2] es[i * 2] (by simp [hi1]) (by simp [hie])
  rw [hkx] at henk
  refine G ?_
  refine Cx [1000] ?_
  refine ReadString_law (hv.mono hJ) (enc_text henk hkk) hd1 fun hr1 => ?_
  refine G ?_
  rw [show off + hd.length + (es.take (i * 2)).flatten.length + es[i * 2].length = off + hd.length + (es.take (i * 2 + 1)).flatten.length by rw [htf]; omega]
  refine Cx [1000] ?_
  refine hrd (i * 2 + 1) ks[i * 2 + 1] (by omega) (by simp [hi2]) J b bs v _ es[i * 2 + 1] _ _ (hv.mono hJ) (he (i * 2 + 1) ks[i * 2 + 1] es[i * 2 + 1] (by simp [hi2]) (by simp [hie2])) hd2 fun J2 g2 hJ2 hg2 hr2 => ?_
  have hnew : NewKey Tryz.prog 164 (strV kt) ms := by
   refine newKey_str (by kernel_rfl) fun e he => ?_
   obtain ⟨j, hj⟩ := List.mem_iff_getElem?.1 he
   have hjl : j < i := by have := (List.getElem?_eq_some_iff.1 hj).1; simp at this; omega
   have g1 : ks[2 * j]? = some (ks[2 * j]'(by omega)) := by simp
   have g2 : ks[2 * j + 1]? = some (ks[2 * j + 1]'(by omega)) := by simp
   refine ⟨_, (hent j _ _ e g1 g2 hj).1, ?_⟩
   have := hx.dist (prs_get g1 g2) (prs_get (show ks[2 * i]? = some ks[i * 2] by rw [Nat.mul_comm]; simp [hi1]) (show ks[2 * i + 1]? = some ks[i * 2 + 1] by rw [Nat.mul_comm 2]; simp [hi2])) (by omega)
   rw [hkx] at this
   exact this
  rcases hg2.form with rfl | ⟨ty, p, rfl⟩
  all_goals
   refine G ?_
   refine ⟨22, _, _, rfl, hnew, ?_⟩
   refine G ?_
   refine ⟨ks.length - (i + 1) * 2, _, _, by omega, rfl, rfl, rfl, rfl, .inl ⟨i + 1, _, by rw [Nat.succ_mul]; rfl, ?_, by omega, rfl, by rw [Array.size_push], by rw [Array.size_push, hms], fun j k x e hk1 hk2 he1 => ?_⟩⟩
   ·rw [show (i + 1) * 2 = i * 2 + 1 + 1 by omega, htf2, Nat.add_assoc]
   ·rcases arr_push he1 with ⟨hj, he2⟩ | ⟨hj, rfl⟩
    ·obtain ⟨q1, q2, q3⟩ := hent j k x e hk1 hk2 he2
     exact ⟨q1, q2, q3.mono hJ2⟩
    ·subst hj
     rw [hms, show 2 * i = i * 2 by omega] at hk1 hk2
     simp [hi1] at hk1
     simp [hi2] at hk2
     subst hk1 hk2
     exact ⟨by rw [hkx]; rfl, rfl, hg2⟩
 ·rename_i hge _
  have hik : i * 2 = ks.length := by omega
  have hfl : (es.take (i * 2)).flatten.length = es.flatten.length := by rw [List.take_of_length_le (by omega)]
  rw [hfl]
  refine G ?_
  refine .loc 1001 cs rfl hk ?_
  refine G ?_
  refine ⟨⟨[], [], [], [22], ?_⟩⟩
  intro J1 hJ1 hm
  conv => whnf
  refine h J1 m ms (hJ.trans hJ1) ⟨hm, by omega, fun j k x e h1 h2 h3 => ?_⟩ (take_of_drop hr).2.2
  obtain ⟨q1, q2, q3⟩ := hent j k x e h1 h2 h3
  exact ⟨q1, q2, q3.mono hJ1⟩
theorem unm_map_161 {ks : List V} {o : Int} (hk : k < cs.length) (hrd : ∀ (i : Nat) (y : V), i % 2 = 1 → ks[i]? = some y → RdP y) (hx : TextMap ks) (hv : BufAt I bs v) (hz : ∃ z zt, e = z :: zt ∧ z ≠ 0x40) (he : Enc (.mk 22 0 [] ks o []) e) (hdr : bs.drop off = e ++ r)
  (h : ∀ I' m me, I.le I' → MapIs I' textV ks m me → bs.drop (off + e.length) = r → Q .nilIface [bufC v (off + e.length), splice cs k [.map (some m)]] [] I') : WP Tryz.prog 84 #[ptr b, .iface 161 (pt bx k)] [(b, bufC v off), (bx, cs)] [] I Q := by
 cases he with
 | sc hs => cases hs
 | map hl hen hh =>
  rename_i es hd
  obtain ⟨z, zt, hz1, hz2⟩ := hz
  have hoff := drop_le (y := z) (r := zt ++ r) (hdr.trans (by rw [hz1]; rfl))
  refine lw K84 [(0,1000)] _ Tryz.func84 ?_
  refine G ?_
  refine Cx [1000] ?_
  refine tryReadNull_law hv (Nat.le_of_lt hoff) hdr (fun z' r' hz => by rw [hz1] at hz; cases hz; exact hz2) ?_
  refine G ?_
  refine Cx [1000,1001] ?_
  have hdr' := hdr
  rw [List.append_assoc] at hdr'
  refine mapText_law_134 hk hrd hx hv hl hen hh hdr' fun I1 m me hi1 hm hr => ?_
  refine G ?_
  refine L0 ?_
  rw [List.length_append, ← Nat.add_assoc] at h
  exact h I1 m me hi1 hm hr
end un
def InfoV (I : Imm) (l : List V) (mv : Value) : Prop := (l = [] ∧ mv = .map none) ∨ ∃ r es, mv = .map (some r) ∧ MapIs I textV l r es
theorem MapIs.mono {I J : Imm} {K : V → Value} {ks : List V} {r : Nat} {es : Array MapEntry} (hi : I.le J) (h : MapIs I K ks r es) : MapIs J K ks r es :=
 ⟨hi.m h.at', h.len, fun i k v e h1 h2 h3 => by obtain ⟨q1, q2, q3⟩ := h.ent i k v e h1 h2 h3; exact ⟨q1, q2, q3.mono hi⟩⟩
theorem InfoV.mono {I J : Imm} (hi : I.le J) {l : List V} {mv : Value} (h : InfoV I l mv) : InfoV J l mv := by
 rcases h with h | ⟨r, es, e, h⟩
 ·exact .inl h
 ·exact .inr ⟨r, es, e, h.mono hi⟩
structure MapRd (l : List V) : Prop where
 txt : l ≠ [] → TextMap l
 rv : ∀ (i : Nat) (y : V), i % 2 = 1 → l[i]? = some y → Rv y
 lt : ∀ (i : Nat) (y : V), l[i]? = some y → Lt y
 small : l.length < 1099511627776
structure FaultRd (f : Fault) : Prop where
 cond : Scal 20 0 f.cond
 descr : Scal 19 0 f.descr
 info : MapRd f.info
def errS (f : Fault) (i : Nat) (cs : List Value) (J : Imm) : Prop := ∃ mv, cs = [if 1 ≤ i then strV f.cond else strV [], if 2 ≤ i then strV f.descr else strV [], mv] ∧ if 3 ≤ i then InfoV J f.info mv else mv = .map none
def errF (b : Nat) : List (Value × Value) := [(.iface 456 (pt b 0), .func (.func 253) #[] #[]), (.iface 155 (pt b 1), .nilFunc), (.iface 282 (pt b 2), .nilFunc)]
def errKids (f : Fault) : List V := [.mk 20 0 f.cond [] 0 [], (textFieldV 19 f.descr).1, (mapFieldV f.info).1]
section up
variable {I : Imm} {br bx k : Nat} {bs : List UInt8} {v : Value} {off : Nat} {cs : List Value} {e r : List UInt8} {Q : Qt}
theorem err_flds {f : Fault} (hf : FaultRd f) : Flds br bx bs v (errF bx) (errKids f) (errS f) := {
 mono := by
  rintro i cs I J hi ⟨mv, rfl, h⟩
  refine ⟨mv, rfl, ?_⟩
  split
  ·rename_i h3; rw [if_pos h3] at h; exact h.mono hi
  ·rename_i h3; rw [if_neg h3] at h; exact h
 form := by
  intro p hp
  simp only [errF, List.mem_cons, List.not_mem_nil, or_false] at hp
  rcases hp with rfl | rfl | rfl
  ·exact ⟨⟨_, _, rfl⟩, .inr ⟨_, _, _, rfl⟩⟩
  ·exact ⟨⟨_, _, rfl⟩, .inl rfl⟩
  ·exact ⟨⟨_, _, rfl⟩, .inl rfl⟩
 field := by
  rintro i p y J cs off e r Q hp hk hy ⟨mv, rfl, hmv⟩ hv he hd h
  match i, hp, hk with
  | 0, hp, hk =>
   simp only [errF, errKids, List.getElem?_cons_zero, Option.some.injEq] at hp hk
   subst hp hk
   refine unm_cond (show 0 < 3 by decide) hv (enc_first he hy) (enc_text he (.inr rfl)) hd fun hr => ?_
   exact h J _ (.refl J) ⟨mv, rfl, hmv⟩
  | 1, hp, hk =>
   simp only [errF, errKids, List.getElem?_cons_succ, List.getElem?_cons_zero, Option.some.injEq] at hp hk
   subst hp hk
   unfold textFieldV at he hy
   split at he
   ·rename_i h0; rw [if_pos h0] at hy; exact absurd rfl hy
   ·refine unm_str (show 1 < 3 by decide) hv (enc_first he (by simp [V.kind])) (enc_text he (.inl rfl)) hd fun hr => ?_
    exact h J _ (.refl J) ⟨mv, rfl, hmv⟩
  | 2, hp, hk =>
   simp only [errF, errKids, List.getElem?_cons_succ, List.getElem?_cons_zero, Option.some.injEq] at hp hk
   subst hp hk
   unfold mapFieldV at he hy
   split at he
   ·rename_i h0; rw [if_pos h0] at hy; exact absurd rfl hy
   ·rename_i h0
    refine unm_map_282 (show 2 < 3 by decide) (fun i y h1 h2 => ReadAny_law (hf.info.rv i y h1 h2)) (hf.info.txt h0) hv (enc_first he (by simp [V.kind])) he hd fun I1 m me hi1 hm hr => ?_
    exact h I1 _ hi1 ⟨_, rfl, .inr ⟨m, me, rfl, hm⟩⟩
  | i + 3, hp, hk => simp [errF] at hp
 null := by
  rintro i p J cs hp hk ⟨mv, rfl, hmv⟩
  match i, hp, hk with
  | 0, hp, hk => exact absurd (hk _ rfl) (by simp [V.kind])
  | 1, hp, hk =>
   simp only [errF, List.getElem?_cons_succ, List.getElem?_cons_zero, Option.some.injEq] at hp
   subst hp
   have h0 := hk _ rfl
   unfold textFieldV at h0
   split at h0
   ·rename_i h1
    exact .inl ⟨rfl, mv, by rw [h1]; rfl, hmv⟩
   ·simp [V.kind] at h0
  | 2, hp, hk =>
   simp only [errF, List.getElem?_cons_succ, List.getElem?_cons_zero, Option.some.injEq] at hp
   subst hp
   have h0 := hk _ rfl
   unfold mapFieldV at h0
   split at h0
   ·rename_i h1
    exact .inl ⟨rfl, mv, rfl, .inl ⟨h1, hmv⟩⟩
   ·simp [V.kind] at h0
  | i + 3, hp, hk => simp [errF] at hp }
def ErrC (I : Imm) (f : Fault) (cs : List Value) : Prop := ∃ mv, cs = [strV f.cond, strV f.descr, mv] ∧ InfoV I f.info mv
theorem error_law {f : Fault} {o : Int} (hf : FaultRd f) (hv : BufAt I bs v) (he : Enc (.mk 21 0 [] (errKids f) o [vNum 5 29]) e) (hdr : bs.drop off = e ++ r)
  (h : ∀ I' cs', I.le I' → ErrC I' f cs' → bs.drop (off + e.length) = r → Q .nilIface [bufC v (off + e.length), cs'] [] I') :
  WP Tryz.prog 229 #[pt bx 0, ptr br] [(br, bufC v off), (bx, [strV [], strV [], .map none])] [] I Q := by
 refine lw K229 [(1,1000)] _ Tryz.func229 ?_
 refine G ?_
 refine ⟨[0,1,2,3,4,5,6,7,8,9,10,11,12,13,14,15,16,17,18], [1000,1001], [], [], by kernel_rfl, ?_⟩
 refine G ?_
 refine .inl fun bl I1 hi1 hce => ?_
 refine G ?_
 refine .inr ?_
 refine G ?_
 refine UnmarshalComposite_law (err_flds hf) (row_lit (css := [[.iface 456 (pt bx 0), .func (.func 253) #[] #[]], [.iface 155 (pt bx 1), .nilFunc], [.iface 282 (pt bx 2), .nilFunc]]) hce rfl (show 3 < 1099511627776 by decide) rfl (rowsC ⟨rfl, rfl⟩ (rowsC ⟨rfl, rfl⟩ (rowsC ⟨rfl, rfl⟩ rows0)))) (hv.mono hi1) (show (29 : Nat) < 256 by decide) (show 3 ≤ 3 from Nat.le_refl _) he hdr ⟨_, rfl, rfl⟩ fun I2 cs2 hi2 hS hr => ?_
 refine G ?_
 refine L0 ?_
 obtain ⟨mv, rfl, hmv⟩ := hS
 exact h I2 _ (hi1.trans hi2) ⟨mv, rfl, hmv⟩ hr
theorem unm_err {f : Fault} {o : Int} (hf : FaultRd f) (hv : BufAt I bs v) (hz : ∃ z zt, e = z :: zt ∧ z ≠ 0x40) (he : Enc (.mk 21 0 [] (errKids f) o [vNum 5 29]) e) (hdr : bs.drop off = e ++ r)
  (h : ∀ I' cs', I.le I' → ErrC I' f cs' → bs.drop (off + e.length) = r → Q .nilIface [bufC v (off + e.length), cs'] [] I') :
  WP Tryz.prog 84 #[ptr br, .iface 69 (pt bx 0)] [(br, bufC v off), (bx, [strV [], strV [], .map none])] [] I Q := by
 obtain ⟨z, zt, hz1, hz2⟩ := hz
 have hoff := drop_le (y := z) (r := zt ++ r) (hdr.trans (by rw [hz1]; rfl))
 refine lw K84 [(0,1000)] _ Tryz.func84 ?_
 refine G ?_
 refine Cx [1000] ?_
 refine tryReadNull_law hv (Nat.le_of_lt hoff) hdr (fun z' r' hz => by rw [hz1] at hz; cases hz; exact hz2) ?_
 refine G ?_
 refine ⟨true, missing_is (by kernel_rfl), ?_⟩
 refine G ?_
 refine ⟨229, (pt bx 0), fun w => by kernel_rfl, ?_⟩
 refine G ?_
 refine Cx [1000,1001] ?_
 refine error_law hf hv he hdr fun I1 cs1 hi1 hc hr => ?_
 obtain ⟨mv, rfl, hmv⟩ := hc
 refine G ?_
 refine L0 ?_
 exact h I1 _ hi1 ⟨mv, rfl, hmv⟩ hr
def ErrAt (I : Imm) (f : Fault) (x : Value) : Prop := ∃ b cs, x = pt b 0 ∧ CellsAt I b 0 cs ∧ ErrC I f cs
theorem ErrAt.mono {I J : Imm} (hi : I.le J) {f : Fault} {x : Value} (h : ErrAt I f x) : ErrAt J f x := by
 obtain ⟨b, cs, e, h1, mv, h2, h3⟩ := h
 exact ⟨b, cs, e, h1.mono hi, mv, h2, h3.mono hi⟩
theorem pointer_law {f : Fault} {o : Int} (hf : FaultRd f) (hv : BufAt I bs v) (hz : ∃ z zt, e = z :: zt ∧ z ≠ 0x40) (he : Enc (.mk 21 0 [] (errKids f) o [vNum 5 29]) e) (hdr : bs.drop off = e ++ r)
  (h : ∀ I' x, I.le I' → ErrAt I' f x → bs.drop (off + e.length) = r → Q .nilIface [bufC v (off + e.length), [x]] [] I') :
  WP Tryz.prog 366 #[.agg #[pt bx 0], ptr br] [(br, bufC v off), (bx, [.pointer none])] [] I Q := by
 refine lw K366 [(1,1000)] _ Tryz.func366 ?_
 refine G ?_
 intro b2
 refine G ?_
 refine ⟨_, .loc 1001 _ rfl fun j x h => by cases j with | zero => exact h | succ j => simp at h, ?_⟩
 refine G ?_
 intro b12
 refine G ?_
 refine .loc 1001 _ rfl (Nat.le_refl 1) ?_
 refine G ?_
 refine ⟨_, .loc 1001 _ rfl fun j x h => by cases j with | zero => exact h | succ j => simp at h, ?_⟩
 refine G ?_
 refine Cx [1000,12] ?_
 refine unm_err hf hv hz he hdr fun I1 cs1 hi1 hc hr => ?_
 obtain ⟨mv, rfl, hmv⟩ := hc
 refine G ?_
 refine ⟨⟨[], [], [12], [], ?_⟩⟩
 intro I2 hi2 hce
 conv => whnf
 exact h I2 _ (hi1.trans hi2) ⟨b12, _, rfl, hce, mv, rfl, hmv.mono hi2⟩ hr
theorem unm_ptr {f : Fault} {o : Int} (hf : FaultRd f) (hv : BufAt I bs v) (hz : ∃ z zt, e = z :: zt ∧ z ≠ 0x40) (he : Enc (.mk 21 0 [] (errKids f) o [vNum 5 29]) e) (hdr : bs.drop off = e ++ r)
  (h : ∀ I' x, I.le I' → ErrAt I' f x → bs.drop (off + e.length) = r → Q .nilIface [bufC v (off + e.length), [x]] [] I') :
  WP Tryz.prog 84 #[ptr br, .iface 184 (.agg #[pt bx 0])] [(br, bufC v off), (bx, [.pointer none])] [] I Q := by
 have hz' := hz
 obtain ⟨z, zt, hz1, hz2⟩ := hz
 have hoff := drop_le (y := z) (r := zt ++ r) (hdr.trans (by rw [hz1]; rfl))
 refine lw K84 [(0,1000)] _ Tryz.func84 ?_
 refine G ?_
 refine Cx [1000] ?_
 refine tryReadNull_law hv (Nat.le_of_lt hoff) hdr (fun z' r' hz => by rw [hz1] at hz; cases hz; exact hz2) ?_
 refine G ?_
 refine ⟨true, missing_is (by kernel_rfl), ?_⟩
 refine G ?_
 refine ⟨366, (.agg #[pt bx 0]), fun w => by kernel_rfl, ?_⟩
 refine G ?_
 refine Cx [1000,1001] ?_
 refine pointer_law hf hv hz' he hdr fun I1 x hi1 hx hr => ?_
 have hx' := hx
 obtain ⟨b, cs, rfl, _⟩ := hx'
 refine G ?_
 refine L0 ?_
 exact h I1 _ hi1 hx hr
theorem new_law {b : Nat} (h : Q (.iface 184 (.agg #[pt b 0])) [] [] I) : WP Tryz.prog 59 #[pt b 0] [] [] I Q := by
 refine lw K59 [] _ Tryz.func59 ?_
 refine G ?_
 refine L0 ?_
 exact h
end up
theorem Variant.null {c : C} {kids : List V} (h : Variant c kids) {i : Nat} {f : V × V} (hf : c.fields[i]? = some f) (hk : ∀ k, kids[i]? = some k → k.kind = 0) : ∃ y, FieldVar f y ∧ y.kind = 0 := by
 by_cases hi : i < kids.length
 ·have hg : kids[i]? = some kids[i] := by simp [hi]
  exact ⟨_, h.fld i f _ hf hg, hk _ hg⟩
 ·exact h.rest i f (by omega) hf
theorem FieldVar.plain {f : V × V} {y : V} (h : FieldVar f y) (h1 : f.2.kind = 0) (h2 : f.1.kind ≠ 23) : y = f.1 := by
 obtain ⟨z, rfl | ⟨rfl, _, h3, _⟩, hi⟩ := h
 ·rcases hi with rfl | ⟨h4, _⟩
  ·rfl
  ·exact absurd h4 h2
 ·exact absurd h1 h3
def ErrsAt (I : Imm) (l : List Fault) (x : Value) : Prop := (l = [] ∧ x = .pointer none) ∨ ∃ f t, l = f :: t ∧ ErrAt I f x
theorem ErrsAt.mono {I J : Imm} (hi : I.le J) {l : List Fault} {x : Value} (h : ErrsAt I l x) : ErrsAt J l x := by
 rcases h with h | ⟨f, t, e, h⟩
 ·exact .inl h
 ·exact .inr ⟨f, t, e, h.mono hi⟩
def oneS (l : List Fault) (i : Nat) (cs : List Value) (J : Imm) : Prop := ∃ x, cs = [x] ∧ if 1 ≤ i then ErrsAt J l x else x = .pointer none
def oneF (b : Nat) : List (Value × Value) := [(.iface 184 (.agg #[pt b 0]), .nilFunc)]
section uq
variable {I : Imm} {br bx k : Nat} {bs : List UInt8} {v : Value} {off : Nat} {cs : List Value} {e r : List UInt8} {Q : Qt}
theorem one_flds {l : List Fault} {kids : List V} (hl : ∀ f ∈ l, FaultRd f) (h1 : ∀ k, kids[0]? = some k → FieldVar (faultsV l) k) (h0 : (∀ k, kids[0]? = some k → k.kind = 0) → ∃ y, FieldVar (faultsV l) y ∧ y.kind = 0) :
  Flds br bx bs v (oneF bx) kids (oneS l) := {
 mono := by
  rintro i cs I J hi ⟨x, rfl, h⟩
  refine ⟨x, rfl, ?_⟩
  split
  ·rename_i h3; rw [if_pos h3] at h; exact h.mono hi
  ·rename_i h3; rw [if_neg h3] at h; exact h
 form := by
  intro p hp
  simp only [oneF, List.mem_cons, List.not_mem_nil, or_false] at hp
  subst hp
  exact ⟨⟨_, _, rfl⟩, .inl rfl⟩
 field := by
  rintro i p y J cs off e r Q hp hk hy ⟨x, rfl, hx⟩ hv he hd h
  match i, hp, hk with
  | 0, hp, hk =>
   simp only [oneF, List.getElem?_cons_zero, Option.some.injEq] at hp
   subst hp
   obtain rfl : x = .pointer none := hx
   have hfv := h1 y hk
   match l, hl, hfv with
   | [], hl, hfv =>
    have := hfv.plain rfl (by simp [faultsV, vNull, V.kind])
    rw [this] at hy
    exact absurd rfl hy
   | f :: t, hl, hfv =>
    have := hfv.plain rfl (by simp [faultsV, whole, V.kind])
    rw [this] at he
    refine unm_ptr (o := 0) (hl f (by simp)) hv (enc_first he (by simp [faultsV, whole, V.kind])) he hd fun I1 x hi1 hx hr => ?_
    exact h I1 _ hi1 ⟨x, rfl, .inr ⟨f, t, rfl, hx⟩⟩
  | i + 1, hp, hk => simp [oneF] at hp
 null := by
  rintro i p J cs hp hk ⟨x, rfl, hx⟩
  match i, hp, hk with
  | 0, hp, hk =>
   simp only [oneF, List.getElem?_cons_zero, Option.some.injEq] at hp
   subst hp
   obtain rfl : x = .pointer none := hx
   obtain ⟨y, hfv, hy⟩ := h0 hk
   match l, hfv with
   | [], hfv => exact .inl ⟨rfl, _, rfl, .inl ⟨rfl, rfl⟩⟩
   | f :: t, hfv =>
    have := hfv.plain rfl (by simp [faultsV, whole, V.kind])
    rw [this] at hy
    simp [faultsV, whole, V.kind] at hy
  | i + 1, hp, hk => simp [oneF] at hp }
theorem close_law {l : List Fault} {kids : List V} (hl : ∀ f ∈ l, FaultRd f) (hvar : Variant (closeOf l) kids) (hv : BufAt I bs v) (he : Enc (.mk 21 0 [] kids 0 [vNum 5 24]) e) (hdr : bs.drop off = e ++ r)
  (h : ∀ I' x, I.le I' → ErrsAt I' l x → bs.drop (off + e.length) = r → Q .nilIface [bufC v (off + e.length), [x]] [] I') :
  WP Tryz.prog 24 #[pt bx 0, ptr br] [(br, bufC v off), (bx, [.pointer none])] [] I Q := by
 have hfl : Flds br bx bs v (oneF bx) kids (oneS l) := one_flds hl (fun k hk => hvar.fld 0 _ k rfl hk) (fun h0 => hvar.null rfl h0)
 have hlen : kids.length ≤ (oneF bx).length := hvar.len
 refine lw K24 [(1,1000)] _ Tryz.func24 ?_
 refine G ?_
 refine Cx [] ?_
 refine new_law ?_
 refine G ?_
 refine .inl fun bl I1 hi1 hce => ?_
 refine G ?_
 refine Cx [1000,1001] ?_
 refine UnmarshalComposite_law (S := oneS l) (l := oneF bx) (o := 0) (kids := kids) (c := 24) hfl (row_lit (css := [[.iface 184 (.agg #[pt bx 0]), .nilFunc]]) hce rfl (show 1 < 1099511627776 by decide) rfl (rowsC ⟨rfl, rfl⟩ rows0)) (hv.mono hi1) (show (24 : Nat) < 256 by decide) hlen he hdr ⟨_, rfl, rfl⟩ fun I2 cs2 hi2 hS hr => ?_
 refine G ?_
 refine L0 ?_
 obtain ⟨x, rfl, hx⟩ := hS
 exact h I2 x (hi1.trans hi2) hx hr
theorem rejected_law {l : List Fault} {kids : List V} (hl : ∀ f ∈ l, FaultRd f) (hk : kids = [(faultsV l).1]) (hv : BufAt I bs v) (he : Enc (.mk 21 0 [] kids 0 [vNum 5 37]) e) (hdr : bs.drop off = e ++ r)
  (h : ∀ I' x, I.le I' → ErrsAt I' l x → bs.drop (off + e.length) = r → Q .nilIface [bufC v (off + e.length), [x]] [] I') :
  WP Tryz.prog 234 #[pt bx 0, ptr br] [(br, bufC v off), (bx, [.pointer none])] [] I Q := by
 subst hk
 have hself : FieldVar (faultsV l) (faultsV l).1 := ⟨_, .inl rfl, .inl rfl⟩
 have hfl : Flds br bx bs v (oneF bx) [(faultsV l).1] (oneS l) := one_flds hl (fun k hk => by cases hk; exact hself) (fun h0 => ⟨_, hself, h0 _ rfl⟩)
 have hlen : [(faultsV l).1].length ≤ (oneF bx).length := Nat.le_refl _
 have he : Enc (.mk 21 0 [] [(faultsV l).1] 0 [vNum 5 37]) e := he
 generalize [(faultsV l).1] = kids at hfl hlen he
 refine lw K234 [(1,1000)] _ Tryz.func234 ?_
 refine G ?_
 refine Cx [] ?_
 refine new_law ?_
 refine G ?_
 refine .inl fun bl I1 hi1 hce => ?_
 refine G ?_
 refine Cx [1000,1001] ?_
 refine UnmarshalComposite_law (S := oneS l) (l := oneF bx) (o := 0) (kids := kids) (c := 37) hfl (row_lit (css := [[.iface 184 (.agg #[pt bx 0]), .nilFunc]]) hce rfl (show 1 < 1099511627776 by decide) rfl (rowsC ⟨rfl, rfl⟩ rows0)) (hv.mono hi1) (show (37 : Nat) < 256 by decide) hlen he hdr ⟨_, rfl, rfl⟩ fun I2 cs2 hi2 hS hr => ?_
 refine G ?_
 refine L0 ?_
 obtain ⟨x, rfl, hx⟩ := hS
 exact h I2 x (hi1.trans hi2) hx hr
end uq
def InfoBack (kind : Int) (l l' : List V) : Prop := ∃ ps', ps'.Perm (prs l) ∧ BackT kind ps' l'
theorem MapRd.vd {l : List V} (h : MapRd l) : ∀ p ∈ prs l, VdP p.2 := fun p hp => by
 obtain ⟨i, hi⟩ := List.mem_iff_getElem?.1 hp
 obtain ⟨h1, h2⟩ := prs_mem hi
 have hne : l ≠ [] := by rintro rfl; simp [prs] at hp
 have hkv := (h.txt hne).kv
 refine valued_law ?_ (h.lt _ _ h2)
 cases hkv with
 | sc hs => cases hs
 | map he hk _ _ => exact hk _ _ h2
def FaultBack (f f' : Fault) : Prop := f'.cond = f.cond ∧ f'.descr = f.descr ∧ InfoBack 19 f.info f'.info
def FaultsBack (l l' : List Fault) : Prop := (l = [] ∧ l' = []) ∨ ∃ f t f', l = f :: t ∧ l' = [f'] ∧ FaultBack f f'
section ur
variable {I : Imm} {Q : Qt}
theorem info_law {kind : Int} {l : List V} {mv : Value} (hu : Utf I) (hkr : -9223372036854775808 ≤ kind ∧ kind < 9223372036854775808) (hm : MapRd l) (hv : InfoV I l mv)
  (h : ∀ I' l' v', I.le I' → InfoBack kind l l' → VsRep I' l' v' → Q (.tuple #[v', .bool true]) [] [] I') : WP Tryz.prog 60 #[.int .i64 kind, mv] [] [] I Q := by
 rcases hv with ⟨rfl, rfl⟩ | ⟨r, es, rfl, hmi⟩
 ·exact textPairs_nil_60 (h I [] _ (.refl I) ⟨[], .refl _, rfl, by simp⟩ (.nil I))
 ·by_cases hne : l = []
  ·subst hne
   refine textPairs_law_60 (ps := []) hu hkr ⟨hmi.at', hmi.born, hmi.plen, by simp, by simp, by simp, by decide, by simp⟩ (by simp) fun I1 ps' ks' v' hi1 hp hb hr => ?_
   exact h I1 ks' v' hi1 ⟨ps', hp, hb⟩ hr
  ·refine textPairs_law_60 hu hkr (hmi.txt (hm.txt hne) hm.small) hm.vd fun I1 ps' ks' v' hi1 hp hb hr => ?_
   exact h I1 ks' v' hi1 ⟨ps', hp, hb⟩ hr
theorem faulted_law {l : List Fault} {x : Value} (hu : Utf I) (hl : ∀ f ∈ l, FaultRd f) (hx : ErrsAt I l x) (h : ∀ I' l' v', I.le I' → FaultsBack l l' → Row 3 (FaultRep I') I' l' v' → Q (.tuple #[v', .bool true]) [] [] I') :
  WP Tryz.prog 25 #[x] [] [] I Q := by
 rcases hx with ⟨rfl, rfl⟩ | ⟨f, t, rfl, b, cs, rfl, hce, mv, rfl, hmv⟩
 ·refine lw K25 [] [.pointer none] Tryz.func25 ?_
  refine G ?_
  refine L0 ?_
  exact h I [] _ (.refl I) (.inl ⟨rfl, rfl⟩) .nil
 ·have hf := hl f (by simp)
  refine lw K25 [] [pt b 0] Tryz.func25 ?_
  refine G ?_
  refine ⟨_, .imm (cell_of hce 2 rfl), ?_⟩
  refine G ?_
  refine Cx [] ?_
  refine info_law hu (by omega) hf.info hmv fun I1 l' v' hi1 hb hr => ?_
  have hr' := hr
  obtain ⟨xb, xc, rfl⟩ := hr.form
  refine G ?_
  refine ⟨[0,1,2,3,4,5,6,7,8,9,11,10,12,13], [], [], [], by kernel_rfl, ?_⟩
  refine G ?_
  refine ⟨_, (cell_of (hce.mono hi1) 0 rfl), ?_⟩
  refine G ?_
  refine ⟨_, (cell_of (hce.mono hi1) 1 rfl), ?_⟩
  refine G ?_
  refine .inl fun be I2 hi2 hc2 => ?_
  refine G ?_
  refine L0 ?_
  have h1 := scal_text hf.cond
  have h2 := scal_text hf.descr
  exact h I2 [⟨f.cond, f.descr, l'⟩] _ (hi1.trans hi2) (.inr ⟨f, t, _, rfl, rfl, rfl, rfl, hb⟩) (row_lit (css := [_]) hc2 rfl (show 1 < 1099511627776 by decide) rfl (rowsC ⟨⟨_, rfl, hr'.mono hi2, by simp only; omega, by simp only; omega⟩, rfl⟩ rows0))
end ur
theorem Lt.num {x : V} (h : Lt x) : x.num < 18446744073709551616 := by cases h; assumption
theorem Lt.kid {x : V} (h : Lt x) : ∀ (i : Nat) (y : V), x.kids[i]? = some y → Lt y := by cases h; assumption
theorem scal_of {lv : Nat} {x : V} (hf : Fit lv x) (hn : x.num < 18446744073709551616) (h21 : x.kind < 21) (hk : ¬ (12 ≤ x.kind ∧ x.kind ≤ 15)) : Scal x.kind x.num x.text := by
 cases lv with
 | zero => exact hf.elim
 | succ lv =>
  obtain ⟨⟨k0, k24⟩, _, ht, hnn, _, _, hlen, _, _, hc⟩ := hf
  obtain ⟨k, n, t, ks, o, ds⟩ := x
  simp only [V.kind, V.num, V.text] at *
  have ht' : ¬ (17 ≤ k ∧ k ≤ 20) → t = [] := fun h => ht (by omega)
  have hn' : ¬ (1 ≤ k ∧ k ≤ 16 ∧ k ≠ 14) → n = 0 := hnn
  have hcs : k = 0 ∨ k = 1 ∨ k = 2 ∨ k = 3 ∨ k = 4 ∨ k = 5 ∨ k = 6 ∨ k = 7 ∨ k = 8 ∨ k = 9 ∨ k = 10 ∨ k = 11 ∨ k = 16 ∨ k = 17 ∨ k = 18 ∨ k = 19 ∨ k = 20 := by omega
  rcases hcs with rfl | rfl | rfl | rfl | rfl | rfl | rfl | rfl | rfl | rfl | rfl | rfl | rfl | rfl | rfl | rfl | rfl
  ·obtain rfl := ht' (by omega); obtain rfl := hn' (by omega); exact .null
  ·obtain rfl := ht' (by omega); exact .bool (by have := hc.bool rfl; simp only [V.num] at this; omega)
  ·obtain rfl := ht' (by omega); exact .ubyte (hc.n1 rfl)
  ·obtain rfl := ht' (by omega); exact .ushort (hc.n2 rfl)
  ·obtain rfl := ht' (by omega); exact .uint (hc.n4 (.inl rfl))
  ·obtain rfl := ht' (by omega); exact .ulong hn
  ·obtain rfl := ht' (by omega); exact .byte (by have := hc.s1 rfl; simp only [V.num] at this; omega)
  ·obtain rfl := ht' (by omega); exact .short (by have := hc.s2 rfl; simp only [V.num] at this; omega)
  ·obtain rfl := ht' (by omega); exact .int (by have := hc.s4 rfl; simp only [V.num] at this; omega)
  ·obtain rfl := ht' (by omega); exact .long hn
  ·obtain rfl := ht' (by omega); exact .float (hc.n4 (.inr rfl))
  ·obtain rfl := ht' (by omega); exact .double hn
  ·obtain rfl := ht' (by omega); exact .time hn
  ·obtain rfl := hn' (by omega); exact .uuid (hc.uuid rfl)
  ·obtain rfl := hn' (by omega); exact .bin hlen
  ·obtain rfl := hn' (by omega); exact .str hlen (hc.str rfl)
  ·obtain rfl := hn' (by omega); exact .sym hlen (hc.sym rfl)
theorem nil_of_len {α : Type} {l : List α} (h : l.length = 0) : l = [] := List.eq_nil_of_length_eq_zero h
structure Fine (x : V) : Prop where
 kv : Kv x
 rv : Rv x
 nd : NoD x
 pv : Pv x
theorem fine_sc {k : Int} {n : Nat} {t : List UInt8} {o : Int} (h : Scal k n t) : Fine (.mk k n t [] o []) := ⟨.sc h, .sc h, .mk rfl (by simp [V.kids]), .sc h⟩
theorem fine_of {lv : Nat} {x : V} (hf : Fit lv x) (hs : Say x) (hl : Lt x) : Fine x := by
 induction hs generalizing lv with
 | mk hd hk ha hs hm ih =>
  rename_i x
  cases lv with
  | zero => exact hf.elim
  | succ lv =>
   have hf0 := hf
   obtain ⟨⟨k0, k24⟩, hkids, ht, hnn, _, hk1000, hlen, _, hfk, hc⟩ := hf
   have hnd := nil_of_len hd
   by_cases h21 : x.kind < 21
   ·have hsc := scal_of hf0 hl.num h21 hk
    have hk0 := nil_of_len (hkids (by omega))
    obtain ⟨k, n, t, ks, o, ds⟩ := x
    obtain rfl : ks = [] := hk0
    obtain rfl : ds = [] := hnd
    exact fine_sc hsc
   ·have htx : x.text = [] := ht (by omega)
    have hnm : x.num = 0 := hnn (by omega)
    have h3 : x.kind = 21 ∨ x.kind = 22 ∨ x.kind = 23 := by omega
    obtain ⟨k, n, t, ks, o, ds⟩ := x
    obtain rfl : ds = [] := hnd
    obtain rfl : t = [] := htx
    obtain rfl : n = 0 := hnm
    simp only [V.kind, V.kids] at *
    rcases h3 with rfl | rfl | rfl
    ·have hall : ∀ (i : Nat) (y : V), ks[i]? = some y → Fine y := fun i y hy => ih (by decide) i y hy (hfk i y hy) (hl.kid i y hy)
     exact ⟨.list fun i y hy => (hall i y hy).kv, .list fun i y hy => (hall i y hy).rv, .mk rfl fun i y hy => (hall i y hy).nd, .list fun i y hy => (hall i y hy).pv⟩
    ·have hall : ∀ (i : Nat) (y : V), ks[i]? = some y → Fine y := fun i y hy => ih (by decide) i y hy (hfk i y hy) (hl.kid i y hy)
     have hev : ks.length % 2 = 0 := hc.map rfl
     have hkey : ∀ (i : Nat) (y : V), i % 2 = 0 → ks[i]? = some y → ∃ k n t o, y = .mk k n t [] o [] ∧ Scal k n t ∧ keyK k := fun i y hi hy => by
      have hkk := (hm rfl i y hi hy).1
      have hkv := (hall i y hy).kv
      cases hkv with
      | sc h => exact ⟨_, _, _, _, rfl, h, hkk⟩
      | list => revert hkk; unfold keyK; simp [V.kind]
      | arr => revert hkk; unfold keyK; simp [V.kind]
      | map => revert hkk; unfold keyK; simp [V.kind]
     have hkv : Kv (.mk 22 0 [] ks o []) := .map hev (fun i y hy => (hall i y hy).kv) hkey fun i j y z hi hj hji hy hz => (hm rfl i y hi hy).2 j z hj hji hz
     exact ⟨hkv, .map hkv fun i y hy => (hall i y hy).rv, .mk rfl fun i y hy => (hall i y hy).nd, .map hev fun i y hy => (hall i y hy).pv⟩
    ·obtain ⟨hpos, hz, hne⟩ := ha rfl
     have hz0 : ks[0]? = some ks[0] := by simp [hpos]
     obtain ⟨hka, hzd⟩ := hz _ hz0
     replace hka : arrK ks[0].kind := hka
     have hel : ∀ (i : Nat) (y : V), ks[i]? = some y → ∃ n t o, y = .mk ks[0].kind n t [] o [] ∧ Scal ks[0].kind n t := fun i y hy => by
      obtain ⟨e1, e2⟩ := hc.arr rfl i y ks[0] hz0 hy
      have hka' := hka
      unfold arrK at hka'
      have hsc := scal_of (hfk i y hy) (hl.kid i y hy).num (by omega) (by omega)
      have hk0 : y.kids = [] := nil_of_len ((hfk i y hy).nokids (by omega))
      have hd0 : y.desc = [] := nil_of_len (by omega)
      obtain ⟨k, n, t, ks', o', ds⟩ := y
      obtain rfl : ks' = [] := hk0
      obtain rfl : ds = [] := hd0
      obtain rfl : k = ks[0].kind := e1
      exact ⟨n, t, o', rfl, hsc⟩
     refine ⟨.arr hka hpos hel, .arr hka hpos hel fun h18 i y hy => hne i y hy ?_, .mk rfl fun i y hy => ?_, .arr hka hpos hel⟩
     ·obtain ⟨n, t, o', rfl, hsc⟩ := hel i y hy
      refine ⟨h18, ?_⟩
      show ks[0].kind ≤ 20
      unfold arrK at hka
      omega
     ·obtain ⟨n, t, o', rfl, hsc⟩ := hel i y hy
      exact .mk rfl (by simp [V.kids])
theorem back_noD {x y : V} (h : Back x y) : NoD y := by
 induction h with
 | sc => exact .mk rfl (by simp [V.kids])
 | list hl h ih =>
  rename_i ks ks' o
  refine .mk rfl fun i y hy => ?_
  have hi := (List.getElem?_eq_some_iff.1 hy).1
  simp only [V.kids] at hi hy
  exact ih i ks[i] y (by simp) hy
 | arr hl h =>
  rename_i ks ks' o k
  refine .mk rfl fun i y hy => ?_
  have hi := (List.getElem?_eq_some_iff.1 hy).1
  simp only [V.kids] at hi hy
  rw [h i ks[i] y (by simp) hy]
  exact .mk rfl (by simp [V.kids])
 | map hp hl h h' ih ih' =>
  rename_i ks ks' o ps
  refine .mk rfl fun i y hy => ?_
  have hi := (List.getElem?_eq_some_iff.1 hy).1
  simp only [V.kids] at hi hy
  have hp2 : ps[i / 2]? = some ps[i / 2] := by simp
  rcases Nat.mod_two_eq_zero_or_one i with h0 | h1
  ·have e : 2 * (i / 2) = i := by omega
   exact ih (i / 2) _ y (ks'[2 * (i / 2) + 1]'(by omega)) hp2 (by rw [e]; exact hy) (by simp)
  ·have e : 2 * (i / 2) + 1 = i := by omega
   exact ih' (i / 2) _ (ks'[2 * (i / 2)]'(by omega)) y hp2 (by simp) (by rw [e]; exact hy)
theorem fit_kid {lv : Nat} {x : V} (h : Fit (lv + 1) x) {i : Nat} {y : V} (hy : x.kids[i]? = some y) : Fit lv y := h.2.2.2.2.2.2.2.2.1 i y hy
theorem loose_self {x : V} (h : Fine x) (hb : Back x x) : Loose (usual x) (usual x) := back_loose hb h.kv
theorem fine_null : Fine vNull := fine_sc .null
theorem sf_back {x y : V} (h : Fine x) (hb : Back x y) (h0 : x.kind ≠ 0) (h1 : y.kind ≠ 0) : SfP vNull x y := by
 refine sf_plain ?_ ?_ ?_
 ·rw [orZ, if_neg h0]; exact h.nd
 ·rw [orZ, if_neg h1]; exact back_noD hb
 ·rw [orZ, orZ, if_neg h0, if_neg h1]; exact back_loose hb h.kv
theorem sf_null : SfP vNull vNull vNull := by
 refine sf_plain fine_null.nd fine_null.nd ?_
 exact back_loose (x := vNull) (y := vNull) (.sc rfl) fine_null.kv
theorem back_info {kind : Int} {l l' : List V} (hk : kind = 19 ∨ kind = 20) (h : InfoBack kind l l') (ht : TextMap l) : Back (.mk 22 0 [] l 0 []) (.mk 22 0 [] l' 0 []) := by
 obtain ⟨ps', hp, hl, hb⟩ := h
 refine .map hp hl (fun i p a b hi ha hb1 => ?_) (fun i p a b hi ha hb1 => ?_)
 ·obtain ⟨y, e1, e2, e3⟩ := hb i p hi
  rw [ha] at e1; cases e1
  obtain ⟨j, hj⟩ := List.mem_iff_getElem?.1 (hp.mem_iff.1 (List.mem_of_getElem? hi))
  obtain ⟨k, t, o, e4, e5, e6⟩ := ht.key (2 * j) p.1 (by omega) (prs_mem hj).1
  rw [e4]
  rcases hk with rfl | rfl <;> rcases e6 with rfl | rfl <;> exact .sc rfl
 ·obtain ⟨y, e1, e2, e3⟩ := hb i p hi
  rw [hb1] at e2; cases e2; exact e3
theorem info_nil {kind : Int} {l l' : List V} (h : InfoBack kind l l') (he : l.length % 2 = 0) : l = [] ↔ l' = [] := by
 obtain ⟨ps', hp, hl, _⟩ := h
 have h1 := hp.length_eq
 rw [prs_len] at h1
 constructor
 ·rintro rfl
  have h2 : ps'.length = 0 := by rw [h1]; rfl
  exact nil_of_len (by omega)
 ·rintro rfl; exact nil_of_len (by simp at hl; omega)
theorem sf_map {kind : Int} {l l' : List V} (hk : kind = 19 ∨ kind = 20) (h : InfoBack kind l l') (hm : MapRd l) (hf : l ≠ [] → Fine (.mk 22 0 [] l 0 [])) : SfP vNull (mapFieldV l).1 (mapFieldV l').1 := by
 by_cases hl : l = []
 ·have hl' : l' = [] := (info_nil h (by rw [hl]; rfl)).1 hl
  rw [hl, hl']
  exact sf_null
 ·have hl' : l' ≠ [] := fun e => hl ((info_nil h (hm.txt hl).even).2 e)
  unfold mapFieldV
  rw [if_neg hl, if_neg hl']
  exact sf_back (hf hl) (back_info hk h (hm.txt hl)) (by simp [V.kind]) (by simp [V.kind])
theorem sf_text {k : Int} {t : List UInt8} (hs : Scal k 0 t) (h0 : k ≠ 0) : SfP vNull (textFieldV k t).1 (textFieldV k t).1 := by
 unfold textFieldV
 split
 ·exact sf_null
 ·exact sf_back (fine_sc hs) (.sc rfl) h0 h0
structure FaultOk (f : Fault) : Prop where
 rd : FaultRd f
 fine : f.info ≠ [] → Fine (.mk 22 0 [] f.info 0 [])
theorem sf_fault {f f' : Fault} (h : FaultOk f) (hb : FaultBack f f') : SfP vNull (whole (faultOf f)) (whole (faultOf f')) := by
 obtain ⟨e1, e2, e3⟩ := hb
 refine sf_comp (code := 29) known_29 (by decide) (show 3 ≤ 3 by decide) (show 3 ≤ 3 by decide) fun i g hg => ?_
 match i, hg with
 | 0, hg =>
  cases hg
  show SfP vNull (.mk 20 0 f.cond [] 0 []) (.mk 20 0 f'.cond [] 0 [])
  rw [e1]
  exact sf_back (fine_sc h.rd.cond) (.sc rfl) (by simp [V.kind]) (by simp [V.kind])
 | 1, hg =>
  cases hg
  show SfP vNull (textFieldV 19 f.descr).1 (textFieldV 19 f'.descr).1
  rw [e2]
  exact sf_text h.rd.descr (by decide)
 | 2, hg =>
  cases hg
  exact sf_map (.inl rfl) e3 h.rd.info h.fine
 | i + 3, hg => simp [known, faultOf] at hg
theorem sf_faults {l l' : List Fault} (h : ∀ f ∈ l, FaultOk f) (hb : FaultsBack l l') : SfP vNull (faultsV l).1 (faultsV l').1 := by
 rcases hb with ⟨rfl, rfl⟩ | ⟨f, t, f', rfl, rfl, hb⟩
 ·exact sf_null
 ·exact sf_fault (h f (by simp)) hb
theorem pv_text {k : Int} {t : List UInt8} (hs : Scal k 0 t) : Pv (textFieldV k t).1 := by
 unfold textFieldV
 split
 ·exact .sc .null
 ·exact .sc hs
theorem pv_map {l : List V} (hf : l ≠ [] → Fine (.mk 22 0 [] l 0 [])) : Pv (mapFieldV l).1 := by
 unfold mapFieldV
 split
 ·exact .sc .null
 ·rename_i h; exact (hf h).pv
theorem pv_faults {l : List Fault} (h : ∀ f ∈ l, FaultOk f) : Pv (faultsV l).1 := by
 match l, h with
 | [], _ => exact .sc .null
 | f :: t, h =>
  have hf := h f (by simp)
  refine .comp (c := 29) (by decide) fun i x hx => ?_
  match i, hx with
  | 0, hx => cases hx; exact .sc hf.rd.cond
  | 1, hx => cases hx; exact pv_text hf.rd.descr
  | 2, hx => cases hx; exact pv_map hf.fine
  | i + 3, hx => simp [faultOf] at hx
theorem faults_kind (l : List Fault) : (faultsV l).1.kind ≠ 23 := by
 match l with
 | [] => decide
 | f :: t => simp [faultsV, whole, V.kind]
theorem map_ok {I : Imm} {l : List V} {k : Int} {v : Value} (hk : k = 19 ∨ k = 20) (h : MapAsked l k) (hr : VsRep I l v) : MapRd l ∧ (l ≠ [] → Fine (.mk 22 0 [] l 0 [])) := by
 have hlt : ∀ (i : Nat) (y : V), l[i]? = some y → Lt y := fun i y hy => by
  obtain ⟨hl, cs, h1, h2, h3⟩ := hr
  have hi := (List.getElem?_eq_some_iff.1 hy).1
  exact (h3 i y _ hy (List.getElem?_eq_getElem (by omega))).lt
 rcases h with rfl | ⟨⟨hfit, _, hsay⟩, hkeys⟩
 ·exact ⟨⟨fun h => absurd rfl h, by simp, by simp, by simp⟩, fun h => absurd rfl h⟩
 ·have hfine : Fine (.mk 22 0 [] l 0 []) := fine_of hfit hsay (.mk hr.1 hlt (by decide))
  have hkv := hfine.kv
  have hrv := hfine.rv
  have htm : TextMap l := by
   cases hkv with
   | sc hs => cases hs
   | map he hh hkk hd =>
    refine ⟨.map he hh hkk hd, fun i x hi hx => ?_, he⟩
    obtain ⟨k', n, t, o, rfl, hs, _⟩ := hkk i x hi hx
    have hk2 : k' = k := hkeys i _ hi hx
    subst hk2
    rcases hk with rfl | rfl
    ·cases hs; exact ⟨_, _, _, rfl, .str ‹_› ‹_›, .inl rfl⟩
    ·cases hs; exact ⟨_, _, _, rfl, .sym ‹_› ‹_›, .inr rfl⟩
  refine ⟨⟨fun _ => htm, fun i y _ hy => ?_, hlt, hr.1⟩, fun _ => hfine⟩
  cases hrv with
  | sc hs => cases hs
  | map _ h => exact h i y hy
theorem fault_ok {I : Imm} {f : Fault} {cs : List Value} {lv : Nat} (ha : FaultAsked f) (hf : Fit (lv + 2) (whole (faultOf f))) (hr : FaultRep I f cs) : FaultOk f := by
 obtain ⟨iv, _, hiv, _, _⟩ := hr
 obtain ⟨h1, h2⟩ := map_ok (.inl rfl) ha hiv
 have k0 : Fit (lv + 1) (.mk 20 0 f.cond [] 0 []) := fit_kid hf (i := 0) rfl
 have k1 : Fit (lv + 1) (textFieldV 19 f.descr).1 := fit_kid hf (i := 1) rfl
 refine ⟨⟨scal_of k0 (by simp [V.num]) (by simp [V.kind]) (by simp [V.kind]), ?_, h1⟩, h2⟩
 by_cases hd : f.descr = []
 ·rw [hd]; exact .str (by decide) (by decide)
 ·unfold textFieldV at k1
  rw [if_neg hd] at k1
  exact scal_of k1 (by simp [V.num]) (by simp [V.kind]) (by simp [V.kind])
theorem faults_ok {I : Imm} {l : List Fault} {v : Value} {lv : Nat} (ha : FaultsAsked l) (hf : Fit (lv + 2) (faultsV l).1) (hr : Row 3 (FaultRep I) I l v) : ∀ f ∈ l, FaultOk f := by
 obtain ⟨h1, h2⟩ := ha
 match l, h1, h2, hf, hr with
 | [], _, _, _, _ => simp
 | [f], _, h2, hf, hr =>
  intro g hg
  obtain rfl := List.mem_singleton.1 hg
  obtain ⟨_, cs, hs, hl, hrep⟩ := hr
  refine fault_ok (h2 g (by simp)) hf (hrep 0 g _ rfl (List.getElem?_eq_getElem (by rw [hl]; simp))).1
 | f :: g :: t, h1, _, _, _ => simp at h1
theorem sample_ok : FaultOk ⟨[97], [], []⟩ :=
 ⟨⟨.sym (by decide) (by decide), .str (by decide) (by decide), ⟨fun h => absurd rfl h, by simp, by simp, by simp⟩⟩, fun h => absurd rfl h⟩
end Go.Proofs.YtcfglgelckjpmaaGreatDoor
