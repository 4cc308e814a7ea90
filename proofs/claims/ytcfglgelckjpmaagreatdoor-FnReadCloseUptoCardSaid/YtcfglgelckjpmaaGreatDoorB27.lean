/- Own machinery, and laws of the functions that the statement reaches (part 27). -/
import Derived.Test.YtcfglgelckjpmaaGreatDoorB23
import Derived.Test.YtcfglgelckjpmaaGreatDoorB26
set_option linter.all false
namespace Go.Proofs.YtcfglgelckjpmaaGreatDoor
set_option maxRecDepth 100000
set_option maxHeartbeats 8000000
def keyK (k : Int) : Prop := 1 ≤ k ∧ k ≤ 9 ∨ k = 16 ∨ k = 17 ∨ k = 19 ∨ k = 20
section laws
variable {I : Imm} {Q : Qt}
theorem keyKind_law {k : Int} (h : ∀ r : Bool, (r = true ↔ keyK k) → Q (.bool r) [] [] I) : WP Tryz.prog 185 #[.int .i64 k] [] [] I Q := by
 unfold keyK at h
 refine lw K185 [] _ Tryz.func185 ?_
 have hc : k < 1 ∨ (1 ≤ k ∧ k ≤ 9) ∨ (10 ≤ k ∧ k ≤ 15) ∨ k = 16 ∨ k = 17 ∨ k = 18 ∨ k = 19 ∨ k = 20 ∨ 21 ≤ k := by omega
 rcases hc with hc | hc | hc | hc | hc | hc | hc | hc | hc
 all_goals
 refine G ?_
 repeat ((first | (split; omega) | (split; rotate_left; omega)); refine G ?_)
 refine L0 ?_
 exact h _ (by simp; omega)
theorem arrayKind_law {k : Int} (h : ∀ r : Bool, (r = true ↔ arrK k) → Q (.bool r) [] [] I) : WP Tryz.prog 183 #[.int .i64 k] [] [] I Q := by
 unfold arrK at h
 refine lw K183 [] _ Tryz.func183 ?_
 have hc : k < 1 ∨ (1 ≤ k ∧ k ≤ 11) ∨ (12 ≤ k ∧ k ≤ 15) ∨ (16 ≤ k ∧ k ≤ 20) ∨ 21 ≤ k := by omega
 rcases hc with hc | hc | hc | hc | hc
 all_goals
 refine G ?_
 repeat ((first | (split; omega) | (split; rotate_left; omega)); refine G ?_)
 refine L0 ?_
 exact h _ (by simp; omega)
def asKey (x : V) : V := .mk (asKind x.kind) x.num x.text [] x.of x.desc
theorem AsRead_key {x : V} {cs : List Value} (hr : VRep I x cs) (hk : x.kids.length = 0) (h : ∀ cs', VRep I (asKey x) cs' → Q (.agg cs'.toArray) [] [] I) : WP Tryz.prog 186 #[.agg cs.toArray] [] [] I Q := by
 have hr' := hr
 obtain ⟨kb, kc, db, dc, rfl, hvk, hvd, hkr, hnr, hor, htr⟩ := hr.inv2
 have res : ∀ k, k = asKind x.kind → VRep I (asKey x) [.int .i64 k, .int .u64 (x.num : Nat), strV x.text, .slice none 0 0, .int .i64 x.of, .slice db x.desc.length dc] := fun k hk => by
  subst hk
  exact .intro (by unfold asKind; split <;> omega) hnr hor htr (.nil I) hvd
 refine lw K186 [] [.agg #[.int .i64 x.kind, .int .u64 (x.num : Nat), strV x.text, .slice kb x.kids.length kc, .int .i64 x.of, .slice db x.desc.length dc]] Tryz.func186 ?_
 rw [hk]
 refine G ?_
 intro b1
 refine G ?_
 intro b2
 refine G ?_
 intro b3
 refine G ?_
 split
 ·rename_i h20 _
  refine G ?_
  refine ⟨⟨[15], [], [], fun m vs cs R J => vs = [.int .i64 0] ∧ cs = [] ∧ R = [] ∧ J = I, 0, _, _, rfl, rfl, ⟨rfl, rfl, rfl, rfl⟩, ?_⟩⟩
  rintro m vs cs R J hJ _ _ ⟨rfl, rfl, rfl, rfl⟩
  refine G ?_
  refine L0 ?_
  exact h _ (res 19 (by unfold asKind; rw [if_pos h20]))
 ·rename_i h20 _
  refine G ?_
  refine ⟨⟨[15], [], [], fun m vs cs R J => vs = [.int .i64 0] ∧ cs = [] ∧ R = [] ∧ J = I, 0, _, _, rfl, rfl, ⟨rfl, rfl, rfl, rfl⟩, ?_⟩⟩
  rintro m vs cs R J hJ _ _ ⟨rfl, rfl, rfl, rfl⟩
  refine G ?_
  refine L0 ?_
  exact h _ (res x.kind (by unfold asKind; rw [if_neg h20]))
end laws
section laws
variable {I : Imm} {Q : Qt}
theorem ArrayAsked_law {l : List V} {v : Value} (hv : VsRep I l v) (h : ∀ r : Bool, (r = true → ∀ (i : Nat) (x : V), l[i]? = some x → 18 ≤ x.kind ∧ x.kind ≤ 20 → x.text ≠ []) → Q (.bool r) [] [] I) : WP Tryz.prog 184 #[v] [] [] I Q := by
 obtain ⟨base, cap, rfl⟩ := hv.form
 have hl := hv.1
 have bad : Q (.bool false) [] [] I := h false (by simp)
 refine lw K184 [] [.slice base l.length cap] Tryz.func184 ?_
 refine G ?_
 refine ⟨⟨[3, 4, 10], [], [], fun m vs cs R J => ∃ (i : Nat) (lo hi : Bool), vs = [.bool lo, .bool hi, .int .i64 (i : Nat)] ∧ cs = [] ∧ R = [] ∧ J = I ∧ i ≤ l.length ∧ m = l.length - i ∧
   (∀ (j : Nat) (x : V), j < i → l[j]? = some x → 18 ≤ x.kind ∧ x.kind ≤ 20 → x.text ≠ []), l.length, _, _, rfl, rfl, ⟨0, false, false, rfl, rfl, rfl, rfl, by omega, rfl, fun j x hj => by omega⟩, ?_⟩⟩
 rintro m vs cs R J hJ _ _ ⟨i, lo, hi, rfl, rfl, rfl, rfl, hil, rfl, hd⟩
 refine G ?_
 split
 ·rename_i hlt _
  have hi' : i < l.length := by omega
  obtain ⟨vb, vo, rfl, _⟩ := hv.some (by omega)
  obtain ⟨cx, hcx, hcc⟩ := hv.get (i := i) (x := l[i]) (by simp [hi'])
  obtain ⟨yb, yc, yd, ye, rfl, _, _, hkr, hnr, hor, htr⟩ := hcx.inv2
  have fin : (18 ≤ l[i].kind ∧ l[i].kind ≤ 20 → l[i].text ≠ []) → ∀ (j : Nat) (x : V), j < i + 1 → l[j]? = some x → 18 ≤ x.kind ∧ x.kind ≤ 20 → x.text ≠ [] := fun hc j x hj hx => by
   by_cases hji : j < i
   ·exact hd j x hji hx
   ·obtain rfl : j = i := by omega
    simp [hi'] at hx
    subst hx
    exact hc
  refine G ?_
  refine ⟨_, _, _, _, i, rfl, rfl, hi', ?_⟩
  refine G ?_
  refine ⟨_, .imm hcc, rfl, ?_⟩
  refine G ?_
  intro b6
  conv => whnf
  refine exO fun X hX => ?_
  clear hX
  have hcls : l[i].kind < 8 ∨ l[i].kind = 8 ∨ l[i].kind = 9 ∨ (10 ≤ l[i].kind ∧ l[i].kind ≤ 15) ∨ l[i].kind = 16 ∨ l[i].kind = 17 ∨ (18 ≤ l[i].kind ∧ l[i].kind ≤ 20) ∨ 20 < l[i].kind := by omega
  rcases hcls with hc | hc | hc | hc | hc | hc | hc | hc
  ·refine G ?_
   repeat ((first | (split; omega) | (split; rotate_left; omega)); refine G ?_)
   exact ⟨l.length - (i + 1), _, _, by omega, rfl, rfl, rfl, rfl, .inl ⟨i + 1, _, _, rfl, rfl, rfl, rfl, hi', rfl, fin fun h => (by omega)⟩⟩
  ·refine G ?_
   repeat ((first | (split; omega) | (split; rotate_left; omega)); refine G ?_)
   cases lo
   ·refine G ?_
    split
    ·cases hi
     ·refine G ?_
      split
      ·refine G ?_
       repeat ((first | (split; omega) | (split; rotate_left; omega)); refine G ?_)
       exact ⟨l.length - (i + 1), _, _, by omega, rfl, rfl, rfl, rfl, .inl ⟨i + 1, _, _, rfl, rfl, rfl, rfl, hi', rfl, fin fun h => (by omega)⟩⟩
      ·refine G ?_
       repeat ((first | (split; omega) | (split; rotate_left; omega)); refine G ?_)
       exact ⟨l.length - (i + 1), _, _, by omega, rfl, rfl, rfl, rfl, .inl ⟨i + 1, _, _, rfl, rfl, rfl, rfl, hi', rfl, fin fun h => (by omega)⟩⟩
     ·refine G ?_
      repeat ((first | (split; omega) | (split; rotate_left; omega)); refine G ?_)
      exact ⟨l.length - (i + 1), _, _, by omega, rfl, rfl, rfl, rfl, .inl ⟨i + 1, _, _, rfl, rfl, rfl, rfl, hi', rfl, fin fun h => (by omega)⟩⟩
    ·cases hi
     ·refine G ?_
      split
      ·refine G ?_
       repeat ((first | (split; omega) | (split; rotate_left; omega)); refine G ?_)
       exact ⟨l.length - (i + 1), _, _, by omega, rfl, rfl, rfl, rfl, .inl ⟨i + 1, _, _, rfl, rfl, rfl, rfl, hi', rfl, fin fun h => (by omega)⟩⟩
      ·refine G ?_
       repeat ((first | (split; omega) | (split; rotate_left; omega)); refine G ?_)
       exact ⟨l.length - (i + 1), _, _, by omega, rfl, rfl, rfl, rfl, .inl ⟨i + 1, _, _, rfl, rfl, rfl, rfl, hi', rfl, fin fun h => (by omega)⟩⟩
     ·refine G ?_
      repeat ((first | (split; omega) | (split; rotate_left; omega)); refine G ?_)
      exact ⟨l.length - (i + 1), _, _, by omega, rfl, rfl, rfl, rfl, .inl ⟨i + 1, _, _, rfl, rfl, rfl, rfl, hi', rfl, fin fun h => (by omega)⟩⟩
   ·cases hi
    ·refine G ?_
     split
     ·refine G ?_
      repeat ((first | (split; omega) | (split; rotate_left; omega)); refine G ?_)
      exact ⟨l.length - (i + 1), _, _, by omega, rfl, rfl, rfl, rfl, .inl ⟨i + 1, _, _, rfl, rfl, rfl, rfl, hi', rfl, fin fun h => (by omega)⟩⟩
     ·refine G ?_
      repeat ((first | (split; omega) | (split; rotate_left; omega)); refine G ?_)
      exact ⟨l.length - (i + 1), _, _, by omega, rfl, rfl, rfl, rfl, .inl ⟨i + 1, _, _, rfl, rfl, rfl, rfl, hi', rfl, fin fun h => (by omega)⟩⟩
    ·refine G ?_
     repeat ((first | (split; omega) | (split; rotate_left; omega)); refine G ?_)
     exact ⟨l.length - (i + 1), _, _, by omega, rfl, rfl, rfl, rfl, .inl ⟨i + 1, _, _, rfl, rfl, rfl, rfl, hi', rfl, fin fun h => (by omega)⟩⟩
  ·refine G ?_
   repeat ((first | (split; omega) | (split; rotate_left; omega)); refine G ?_)
   cases lo
   ·refine G ?_
    split
    ·cases hi
     ·refine G ?_
      split
      ·refine G ?_
       repeat ((first | (split; omega) | (split; rotate_left; omega)); refine G ?_)
       exact ⟨l.length - (i + 1), _, _, by omega, rfl, rfl, rfl, rfl, .inl ⟨i + 1, _, _, rfl, rfl, rfl, rfl, hi', rfl, fin fun h => (by omega)⟩⟩
      ·refine G ?_
       repeat ((first | (split; omega) | (split; rotate_left; omega)); refine G ?_)
       exact ⟨l.length - (i + 1), _, _, by omega, rfl, rfl, rfl, rfl, .inl ⟨i + 1, _, _, rfl, rfl, rfl, rfl, hi', rfl, fin fun h => (by omega)⟩⟩
     ·refine G ?_
      repeat ((first | (split; omega) | (split; rotate_left; omega)); refine G ?_)
      exact ⟨l.length - (i + 1), _, _, by omega, rfl, rfl, rfl, rfl, .inl ⟨i + 1, _, _, rfl, rfl, rfl, rfl, hi', rfl, fin fun h => (by omega)⟩⟩
    ·cases hi
     ·refine G ?_
      split
      ·refine G ?_
       repeat ((first | (split; omega) | (split; rotate_left; omega)); refine G ?_)
       exact ⟨l.length - (i + 1), _, _, by omega, rfl, rfl, rfl, rfl, .inl ⟨i + 1, _, _, rfl, rfl, rfl, rfl, hi', rfl, fin fun h => (by omega)⟩⟩
      ·refine G ?_
       repeat ((first | (split; omega) | (split; rotate_left; omega)); refine G ?_)
       exact ⟨l.length - (i + 1), _, _, by omega, rfl, rfl, rfl, rfl, .inl ⟨i + 1, _, _, rfl, rfl, rfl, rfl, hi', rfl, fin fun h => (by omega)⟩⟩
     ·refine G ?_
      repeat ((first | (split; omega) | (split; rotate_left; omega)); refine G ?_)
      exact ⟨l.length - (i + 1), _, _, by omega, rfl, rfl, rfl, rfl, .inl ⟨i + 1, _, _, rfl, rfl, rfl, rfl, hi', rfl, fin fun h => (by omega)⟩⟩
   ·cases hi
    ·refine G ?_
     split
     ·refine G ?_
      repeat ((first | (split; omega) | (split; rotate_left; omega)); refine G ?_)
      exact ⟨l.length - (i + 1), _, _, by omega, rfl, rfl, rfl, rfl, .inl ⟨i + 1, _, _, rfl, rfl, rfl, rfl, hi', rfl, fin fun h => (by omega)⟩⟩
     ·refine G ?_
      repeat ((first | (split; omega) | (split; rotate_left; omega)); refine G ?_)
      exact ⟨l.length - (i + 1), _, _, by omega, rfl, rfl, rfl, rfl, .inl ⟨i + 1, _, _, rfl, rfl, rfl, rfl, hi', rfl, fin fun h => (by omega)⟩⟩
    ·refine G ?_
     repeat ((first | (split; omega) | (split; rotate_left; omega)); refine G ?_)
     exact ⟨l.length - (i + 1), _, _, by omega, rfl, rfl, rfl, rfl, .inl ⟨i + 1, _, _, rfl, rfl, rfl, rfl, hi', rfl, fin fun h => (by omega)⟩⟩
  ·refine G ?_
   repeat ((first | (split; omega) | (split; rotate_left; omega)); refine G ?_)
   exact ⟨l.length - (i + 1), _, _, by omega, rfl, rfl, rfl, rfl, .inl ⟨i + 1, _, _, rfl, rfl, rfl, rfl, hi', rfl, fin fun h => (by omega)⟩⟩
  ·refine G ?_
   repeat ((first | (split; omega) | (split; rotate_left; omega)); refine G ?_)
   split; refine G ?_; refine ⟨⟨[], [], [], [], ?_⟩⟩; exact bad; refine G ?_
   split; refine G ?_; refine ⟨⟨[], [], [], [], ?_⟩⟩; exact bad; refine G ?_
   exact ⟨l.length - (i + 1), _, _, by omega, rfl, rfl, rfl, rfl, .inl ⟨i + 1, _, _, rfl, rfl, rfl, rfl, hi', rfl, fin fun h => (by omega)⟩⟩
  ·refine G ?_
   repeat ((first | (split; omega) | (split; rotate_left; omega)); refine G ?_)
   exact ⟨l.length - (i + 1), _, _, by omega, rfl, rfl, rfl, rfl, .inl ⟨i + 1, _, _, rfl, rfl, rfl, rfl, hi', rfl, fin fun h => (by omega)⟩⟩
  ·refine G ?_
   repeat ((first | (split; omega) | (split; rotate_left; omega)); refine G ?_)
   split
   ·refine G ?_
    refine L0 ?_
    exact bad
   ·rename_i hne _
    refine G ?_
    repeat ((first | (split; omega) | (split; rotate_left; omega)); refine G ?_)
    exact ⟨l.length - (i + 1), _, _, by omega, rfl, rfl, rfl, rfl, .inl ⟨i + 1, _, _, rfl, rfl, rfl, rfl, hi', rfl, fin fun _ => hne⟩⟩
  ·refine G ?_
   repeat ((first | (split; omega) | (split; rotate_left; omega)); refine G ?_)
   exact ⟨l.length - (i + 1), _, _, by omega, rfl, rfl, rfl, rfl, .inl ⟨i + 1, _, _, rfl, rfl, rfl, rfl, hi', rfl, fin fun h => (by omega)⟩⟩
 ·rename_i hge _
  have hall : ∀ (i : Nat) (x : V), l[i]? = some x → 18 ≤ x.kind ∧ x.kind ≤ 20 → x.text ≠ [] := fun j x hx => hd j x (by have := (List.getElem?_eq_some_iff.1 hx).1; omega) hx
  cases lo
  ·refine G ?_
   refine L0 ?_
   exact h _ fun _ => hall
  ·refine G ?_
   refine L0 ?_
   exact h _ fun _ => hall
end laws
inductive Say : V → Prop where
 | mk {x : V} (hd : x.desc.length = 0) (hk : ¬ (12 ≤ x.kind ∧ x.kind ≤ 15))
   (ha : x.kind = 23 → 0 < x.kids.length ∧ (∀ z, x.kids[0]? = some z → arrK z.kind ∧ z.desc.length = 0) ∧ ∀ (i : Nat) (y : V), x.kids[i]? = some y → 18 ≤ y.kind ∧ y.kind ≤ 20 → y.text ≠ [])
   (hs : x.kind ≠ 23 → ∀ (i : Nat) (y : V), x.kids[i]? = some y → Say y)
   (hm : x.kind = 22 → ∀ (i : Nat) (y : V), i % 2 = 0 → x.kids[i]? = some y → keyK y.kind ∧ ∀ (j : Nat) (z : V), j % 2 = 0 → j < i → x.kids[j]? = some z → ¬ Same (asKey z) (asKey y)) : Say x
theorem Fit.kids {lv : Nat} {x : V} (h : Fit lv x) : ∀ (i : Nat) (y : V), x.kids[i]? = some y → ∃ lv', Fit lv' y := by
 cases lv with
 | zero => exact h.elim
 | succ lv => exact fun i y hy => ⟨lv, h.2.2.2.2.2.2.2.2.1 i y hy⟩
theorem Fit.nokids {lv : Nat} {x : V} (h : Fit lv x) (hk : ¬ 21 ≤ x.kind) : x.kids.length = 0 := by
 cases lv with
 | zero => exact h.elim
 | succ lv => exact h.2.1 hk
theorem keyK_small {k : Int} (h : keyK k) : ¬ 21 ≤ k := by unfold keyK at h; omega
theorem Sayable_law : ∀ (m : Nat) (x : V) {lv : Nat} {cs : List Value} {I : Imm} {Q : Qt}, x.sz ≤ m → VRep I x cs → Fit lv x →
  (∀ r : Bool, (r = true → Say x) → Q (.bool r) [] [] I) → WP Tryz.prog 93 #[.agg cs.toArray] [] [] I Q := by
 intro m
 induction m with
 | zero => intro x lv cs I Q h; have := x.sz_pos; omega
 | succ m ih =>
  intro x lv cs I Q hsz hr hfit h
  obtain ⟨kb, kc, db, dc, rfl, hvk, hvd, hkr, hnr, hor, htr⟩ := hr.inv2
  have hkl := hvk.1
  have hdl := hvd.1
  have bad : Q (.bool false) [] [] I := h false (by simp)
  refine lw K93 [] [.agg #[.int .i64 x.kind, .int .u64 (x.num : Nat), strV x.text, .slice kb x.kids.length kc, .int .i64 x.of, .slice db x.desc.length dc]] Tryz.func93 ?_
  refine G ?_
  intro b1
  refine G ?_
  split
  ·refine G ?_
   refine L0 ?_
   exact bad
  rename_i hd _
  have hd0 : x.desc.length = 0 := by omega
  have hcls : (12 ≤ x.kind ∧ x.kind ≤ 15) ∨ x.kind = 23 ∨ (x.kind < 12 ∨ 15 < x.kind) ∧ x.kind ≠ 23 := by omega
  rcases hcls with hc | hc | ⟨hc, hn23⟩
  ·have : x.kind = 12 ∨ x.kind = 13 ∨ x.kind = 14 ∨ x.kind = 15 := by omega
   rcases this with hc | hc | hc | hc
   all_goals
   refine G ?_
   repeat ((first | (split; omega) | (split; rotate_left; omega)); refine G ?_)
   refine L0 ?_
   exact bad
  ·refine G ?_
   repeat ((first | (split; omega) | (split; rotate_left; omega)); refine G ?_)
   split
   ·rename_i hpos _
    obtain ⟨vb, vo, rfl, _⟩ := hvk.some (by omega)
    obtain ⟨c0, hc0, hcc0⟩ := hvk.get (i := 0) (x := x.kids[0]) (by simp)
    obtain ⟨yb, yc, yd, ye, rfl, _⟩ := hc0.inv2
    refine G ?_
    refine ⟨_, _, _, _, 0, rfl, rfl, by omega, ?_⟩
    refine G ?_
    refine ⟨.int .i64 x.kids[0].kind, .imm (cell_of hcc0 0 rfl), ?_⟩
    refine G ?_
    refine Cx [] ?_
    refine arrayKind_law fun r hr1 => ?_
    cases r with
    | false =>
     refine G ?_
     refine L0 ?_
     exact bad
    | true =>
     refine G ?_
     refine ⟨_, _, _, _, 0, rfl, rfl, by omega, ?_⟩
     refine G ?_
     refine plus0_mk ?_
     refine G ?_
     refine ⟨.slice yd x.kids[0].desc.length ye, .imm (cell_of hcc0 5 rfl), ?_⟩
     refine G ?_
     split
     ·rename_i hdd _
      refine G ?_
      refine Cx [] ?_
      refine ArrayAsked_law hvk fun r hr2 => ?_
      refine G ?_
      refine L0 ?_
      refine h r fun e => .mk hd0 (by omega) (fun _ => ⟨by omega, fun z hz => ?_, hr2 e⟩) (fun hne => absurd hc hne) (fun h22 => by omega)
      have : x.kids[0]? = some x.kids[0] := by simp
      rw [this] at hz
      cases hz
      exact ⟨hr1.1 rfl, by omega⟩
     ·refine G ?_
      refine L0 ?_
      exact bad
   ·refine G ?_
    refine L0 ?_
    exact bad
  ·refine G ?_
   repeat ((first | (split; omega) | (split; rotate_left; omega)); refine G ?_)
   refine ⟨⟨[62], [], [], fun m' vs cs R J => ∃ i : Nat, vs = [.int .i64 (i : Nat)] ∧ cs = [] ∧ R = [] ∧ J = I ∧ i ≤ x.kids.length ∧ m' = x.kids.length - i ∧ (∀ (j : Nat) (y : V), j < i → x.kids[j]? = some y → Say y) ∧
     (x.kind = 22 → ∀ (a : Nat) (y : V), a < i → a % 2 = 0 → x.kids[a]? = some y → keyK y.kind ∧ ∀ (j : Nat) (z : V), j % 2 = 0 → j < a → x.kids[j]? = some z → ¬ Same (asKey z) (asKey y)), x.kids.length, _, _, rfl, rfl,
    ⟨0, rfl, rfl, rfl, rfl, by omega, rfl, fun j y hj => by omega, fun _ a y ha => by omega⟩, ?_⟩⟩
   rintro m' vs cs R J hJ _ _ ⟨i, rfl, rfl, rfl, rfl, hi, rfl, hsay, hkey⟩
   refine G ?_
   split
   ·rename_i hlt _
    have hi' : i < x.kids.length := by omega
    obtain ⟨vb, vo, rfl, _⟩ := hvk.some (by omega)
    obtain ⟨cx, hcx, hcc⟩ := hvk.get (i := i) (x := x.kids[i]) (by simp [hi'])
    have hcx' := hcx
    obtain ⟨yb, yc, yd, ye, rfl, _⟩ := hcx.inv2
    obtain ⟨lv1, hfit1⟩ := hfit.kids i x.kids[i] (by simp [hi'])
    refine G ?_
    refine ⟨_, _, _, _, i, rfl, rfl, hi', ?_⟩
    refine G ?_
    refine ⟨_, .imm hcc, rfl, ?_⟩
    refine G ?_
    intro b4
    refine G ?_
    refine Cx [] ?_
    refine ih x.kids[i] (by have := V.sz_kid (a := x) (x := x.kids[i]) (by simp); omega) hcx' hfit1 fun r hr1 => ?_
    cases r with
    | false =>
     refine G ?_
     refine L0 ?_
     exact bad
    | true =>
     have hsay' : ∀ (j : Nat) (y : V), j < i + 1 → x.kids[j]? = some y → Say y := fun j y hj hy => by
      by_cases hji : j < i
      ·exact hsay j y hji hy
      ·obtain rfl : j = i := by omega
       simp [hi'] at hy
       subst hy
       exact hr1 rfl
     refine G ?_
     split
     ·rename_i h22 _
      refine G ?_
      refine ⟨by decide, exO fun X hX => ?_⟩
      rw [show ((i : Nat) : Int).tmod 2 = ((i % 2 : Nat) : Int) from rfl] at hX
      conv => whnf
      split
      ·rename_i hodd _
       refine G ?_
       refine ⟨x.kids.length - (i + 1), _, _, by omega, rfl, rfl, rfl, rfl, .inl ⟨i + 1, rfl, rfl, rfl, rfl, hi', rfl, hsay', fun e a y ha hae hy => ?_⟩⟩
       exact hkey e a y (by omega) hae hy
      ·rename_i hodd _
       have hev : i % 2 = 0 := by omega
       refine G ?_
       refine Cx [] ?_
       refine keyKind_law fun r hr2 => ?_
       cases r with
       | false =>
        refine G ?_
        refine L0 ?_
        exact bad
       | true =>
        have hkk := hr2.1 rfl
        refine G ?_
        refine ⟨⟨[5], [], [], fun m' vs cs R K => ∃ j : Nat, vs = [.int .i64 (j : Nat)] ∧ cs = [] ∧ R = [] ∧ K = J ∧ j % 2 = 0 ∧ j ≤ i ∧ m' = i - j ∧ (∀ (a : Nat) (z : V), a % 2 = 0 → a < j → x.kids[a]? = some z → ¬ Same (asKey z) (asKey x.kids[i])), i, _, _, rfl, rfl,
         ⟨0, rfl, rfl, rfl, rfl, rfl, by omega, rfl, fun a z _ ha => by omega⟩, ?_⟩⟩
        rintro m' vs cs R K hK _ _ ⟨j, rfl, rfl, rfl, rfl, hje, hji, rfl, hdiff⟩
        refine G ?_
        split
        ·rename_i hjlt _
         have hj' : j < x.kids.length := by omega
         obtain ⟨cz, hcz, hccz⟩ := hvk.get (i := j) (x := x.kids[j]) (by simp [hj'])
         obtain ⟨lv2, hfit2⟩ := hfit.kids j x.kids[j] (by simp [hj'])
         have hkj := (hkey h22 j x.kids[j] (by omega) hje (by simp [hj'])).1
         refine G ?_
         refine ⟨[0,1,2,3,4,6,5,7,8], [], [], [], by kernel_rfl, ?_⟩
         refine G ?_
         refine ⟨_, _, _, _, j, rfl, rfl, hj', ?_⟩
         refine G ?_
         refine ⟨cz, hccz, hcz.len, ?_⟩
         refine G ?_
         refine .inr ?_
         refine G ?_
         refine AsRead_key hcz (hfit2.nokids (keyK_small hkj)) fun cs1 hcs1 => ?_
         refine G ?_
         refine .inr ?_
         refine G ?_
         refine AsRead_key hcx' (hfit1.nokids (keyK_small hkk)) fun cs2 hcs2 => ?_
         refine G ?_
         refine .inr ?_
         refine G ?_
         refine SameValue_law _ _ _ (Nat.le_refl _) hcs1 hcs2 fun r hr3 => ?_
         cases r with
         | true =>
          refine G ?_
          refine L0 ?_
          exact bad
         | false =>
          refine G ?_
          refine ⟨i - (j + 2), _, _, by omega, rfl, rfl, rfl, rfl, .inl ⟨j + 2, rfl, rfl, rfl, rfl, by omega, by omega, rfl, fun a z hae ha hz => ?_⟩⟩
          by_cases haj : a < j
          ·exact hdiff a z hae haj hz
          ·obtain rfl : a = j := by omega
           simp [hj'] at hz
           subst hz
           exact fun hsame => by simpa using hr3.2 hsame
        ·rename_i hjge _
         obtain rfl : j = i := by omega
         refine G ?_
         refine ⟨x.kids.length - (j + 1), _, _, by omega, rfl, rfl, rfl, rfl, .inl ⟨j + 1, rfl, rfl, rfl, rfl, hi', rfl, hsay', fun e a y ha hae hy => ?_⟩⟩
         by_cases haj : a < j
         ·exact hkey e a y haj hae hy
         ·obtain rfl : a = j := by omega
          simp [hi'] at hy
          subst hy
          exact ⟨hkk, hdiff⟩
     ·rename_i h22 _
      refine G ?_
      exact ⟨x.kids.length - (i + 1), _, _, by omega, rfl, rfl, rfl, rfl, .inl ⟨i + 1, rfl, rfl, rfl, rfl, hi', rfl, hsay', fun e => absurd e h22⟩⟩
   ·rename_i hge _
    refine G ?_
    refine L0 ?_
    refine h true fun _ => .mk hd0 (by omega) (fun e => absurd e hn23) (fun _ i y hy => hsay i y (by have := (List.getElem?_eq_some_iff.1 hy).1; omega) hy) fun e i y hie hy => hkey e i y (by have := (List.getElem?_eq_some_iff.1 hy).1; omega) hie hy
section laws
variable {I : Imm} {Q : Qt}
theorem in_law {n k : Int} {v : Value} (hv : SlAt I 1 1 [.int .i64 k] v) (h : ∀ r : Bool, (r = true → n = k) → Q (.bool r) [] [] I) : WP Tryz.prog 94 #[.int .i64 n, v] [] [] I Q := by
 obtain ⟨base, cap, rfl⟩ := slAt_form hv
 obtain ⟨b, off, rfl, _, _, _, hc⟩ := slAt_some hv (by omega)
 refine lw K94 [] [.int .i64 n, .slice (some ⟨b, off, none⟩) 1 cap] Tryz.func94 ?_
 refine G ?_
 refine ⟨⟨[9], [], [], fun m vs cs R J => ∃ i : Nat, vs = [.int .i64 (i : Nat)] ∧ cs = [] ∧ R = [] ∧ J = I ∧ i ≤ 1 ∧ m = 1 - i, 1, _, _, rfl, rfl, ⟨0, rfl, rfl, rfl, rfl, by omega, rfl⟩, ?_⟩⟩
 rintro m vs cs R J hJ _ _ ⟨i, rfl, rfl, rfl, rfl, hi, rfl⟩
 have : i = 0 ∨ i = 1 := by omega
 rcases this with rfl | rfl
 ·refine G ?_
  refine ⟨_, _, _, _, 0, rfl, rfl, by omega, ?_⟩
  refine G ?_
  refine ⟨.int .i64 k, .imm (by simpa using hc), ?_⟩
  refine G ?_
  split
  ·rename_i e _
   refine G ?_
   refine L0 ?_
   exact h true fun _ => e.symm
  ·refine G ?_
   exact ⟨0, _, _, by omega, rfl, rfl, rfl, rfl, .inl ⟨1, rfl, rfl, rfl, rfl, by omega, rfl⟩⟩
 ·refine G ?_
  refine L0 ?_
  exact h false (by simp)
theorem KeysOf_law {x : V} {k : Int} {cs : List Value} {v : Value} (hr : VRep I x cs) (hv : SlAt I 1 1 [.int .i64 k] v)
  (h : ∀ r : Bool, (r = true → ∀ (i : Nat) (y : V), i % 2 = 0 → x.kids[i]? = some y → y.kind = k) → Q (.bool r) [] [] I) : WP Tryz.prog 74 #[.agg cs.toArray, v] [] [] I Q := by
 obtain ⟨kb, kc, db, dc, rfl, hvk, hvd, hkr, hnr, hor, htr⟩ := hr.inv2
 have hkl := hvk.1
 have hv' := hv
 obtain ⟨base, cap, rfl⟩ := slAt_form hv
 have bad : Q (.bool false) [] [] I := h false (by simp)
 refine lw K74 [] [.agg #[.int .i64 x.kind, .int .u64 (x.num : Nat), strV x.text, .slice kb x.kids.length kc, .int .i64 x.of, .slice db x.desc.length dc], .slice base 1 cap] Tryz.func74 ?_
 refine G ?_
 intro b2
 refine G ?_
 refine ⟨⟨[5], [], [], fun m vs cs R J => ∃ i : Nat, vs = [.int .i64 (i : Nat)] ∧ cs = [] ∧ R = [] ∧ J = I ∧ i % 2 = 0 ∧ i ≤ x.kids.length + 1 ∧ m = x.kids.length + 2 - i ∧ (∀ (j : Nat) (y : V), j < i → j % 2 = 0 → x.kids[j]? = some y → y.kind = k), x.kids.length + 2, _, _, rfl, rfl, ⟨0, rfl, rfl, rfl, rfl, rfl, by omega, rfl, fun j y hj => by omega⟩, ?_⟩⟩
 rintro m vs cs R J hJ _ _ ⟨i, rfl, rfl, rfl, rfl, hev, hi, rfl, hd⟩
 refine G ?_
 split
 ·rename_i hlt _
  have hi' : i < x.kids.length := by omega
  obtain ⟨vb, vo, rfl, _⟩ := hvk.some (by omega)
  obtain ⟨cx, hcx, hcc⟩ := hvk.get (i := i) (x := x.kids[i]) (by simp [hi'])
  obtain ⟨yb, yc, yd, ye, rfl, _⟩ := hcx.inv2
  refine G ?_
  refine ⟨_, _, _, _, i, rfl, rfl, hi', ?_⟩
  refine G ?_
  refine ⟨.int .i64 x.kids[i].kind, .imm (cell_of hcc 0 rfl), ?_⟩
  refine G ?_
  refine Cx [] ?_
  refine in_law hv' fun r hr1 => ?_
  cases r with
  | false =>
   refine G ?_
   refine L0 ?_
   exact bad
  | true =>
   refine G ?_
   refine ⟨x.kids.length + 2 - (i + 2), _, _, by omega, rfl, rfl, rfl, rfl, .inl ⟨i + 2, rfl, rfl, rfl, rfl, by omega, by omega, rfl, fun j y hj hje hy => ?_⟩⟩
   by_cases hji : j < i
   ·exact hd j y hji hje hy
   ·obtain rfl : j = i := by omega
    simp [hi'] at hy
    subst hy
    exact hr1 rfl
 ·rename_i hge _
  have hall : ∀ (j : Nat) (y : V), j % 2 = 0 → x.kids[j]? = some y → y.kind = k := fun j y hj hy => hd j y (by have := (List.getElem?_eq_some_iff.1 hy).1; omega) hj hy
  refine G ?_
  split
  ·refine G ?_
   refine L0 ?_
   exact h _ fun _ => hall
  ·refine G ?_
   refine L0 ?_
   exact h _ fun _ => hall
end laws
theorem SymbolArrays_law : ∀ (m : Nat) (x : V) {cs : List Value} {I : Imm} {Q : Qt}, x.sz ≤ m → VRep I x cs →
  (∀ r : Bool, Q (.bool r) [] [] I) → WP Tryz.prog 75 #[.agg cs.toArray] [] [] I Q := by
 intro m
 induction m with
 | zero => intro x cs I Q h; have := x.sz_pos; omega
 | succ m ih =>
  intro x cs I Q hsz hr h
  obtain ⟨kb, kc, db, dc, rfl, hvk, hvd, hkr, hnr, hor, htr⟩ := hr.inv2
  have hkl := hvk.1
  refine lw K75 [] [.agg #[.int .i64 x.kind, .int .u64 (x.num : Nat), strV x.text, .slice kb x.kids.length kc, .int .i64 x.of, .slice db x.desc.length dc]] Tryz.func75 ?_
  refine G ?_
  intro b1
  refine G ?_
  split
  ·rename_i h23 _
   refine G ?_
   split
   ·rename_i hpos _
    have hvk' := hvk
    obtain ⟨vb, vo, rfl, _⟩ := hvk.some (by omega)
    obtain ⟨c0, hc0, hcc0⟩ := hvk.get (i := 0) (x := x.kids[0]) (by simp)
    obtain ⟨yb, yc, yd, ye, rfl, _⟩ := hc0.inv2
    refine G ?_
    refine ⟨_, _, _, _, 0, rfl, rfl, by omega, ?_⟩
    refine G ?_
    refine ⟨.int .i64 x.kids[0].kind, .imm (cell_of hcc0 0 rfl), ?_⟩
    refine G ?_
    split
    ·refine G ?_
     refine L0 ?_
     exact h true
    ·refine G ?_
     refine ⟨⟨[25], [], [], fun m' vs cs R J => ∃ i : Nat, vs = [.int .i64 (i : Nat)] ∧ cs = [] ∧ R = [] ∧ J = I ∧ i ≤ x.kids.length ∧ m' = x.kids.length - i, x.kids.length, _, _, rfl, rfl, ⟨0, rfl, rfl, rfl, rfl, by omega, rfl⟩, ?_⟩⟩
     rintro m' vs cs R J hJ _ _ ⟨i, rfl, rfl, rfl, rfl, hi, rfl⟩
     refine G ?_
     split
     ·have hi' : i < x.kids.length := by omega
      obtain ⟨cx, hcx, hcc⟩ := hvk.get (i := i) (x := x.kids[i]) (by simp [hi'])
      have hcx' := hcx
      obtain ⟨yb, yc, yd, ye, rfl, _⟩ := hcx.inv2
      refine G ?_
      refine ⟨_, _, _, _, i, rfl, rfl, hi', ?_⟩
      refine G ?_
      refine ⟨_, .imm hcc, rfl, ?_⟩
      refine G ?_
      intro b4
      refine G ?_
      refine Cx [] ?_
      refine ih x.kids[i] (by have := V.sz_kid (a := x) (x := x.kids[i]) (by simp); omega) hcx' fun r => ?_
      cases r with
      | true =>
       refine G ?_
       refine L0 ?_
       exact h true
      | false =>
       refine G ?_
       exact ⟨x.kids.length - (i + 1), _, _, by omega, rfl, rfl, rfl, rfl, .inl ⟨i + 1, rfl, rfl, rfl, rfl, hi', rfl⟩⟩
     ·refine G ?_
      refine L0 ?_
      exact h false
   ·refine G ?_
    refine ⟨⟨[25], [], [], fun m' vs cs R J => ∃ i : Nat, vs = [.int .i64 (i : Nat)] ∧ cs = [] ∧ R = [] ∧ J = I ∧ i ≤ x.kids.length ∧ m' = x.kids.length - i, x.kids.length, _, _, rfl, rfl, ⟨0, rfl, rfl, rfl, rfl, by omega, rfl⟩, ?_⟩⟩
    rintro m' vs cs R J hJ _ _ ⟨i, rfl, rfl, rfl, rfl, hi, rfl⟩
    refine G ?_
    split
    ·have hi' : i < x.kids.length := by omega
     obtain ⟨vb, vo, e, _⟩ := hvk.some (by omega)
     subst e
     obtain ⟨cx, hcx, hcc⟩ := hvk.get (i := i) (x := x.kids[i]) (by simp [hi'])
     have hcx' := hcx
     obtain ⟨yb, yc, yd, ye, rfl, _⟩ := hcx.inv2
     refine G ?_
     refine ⟨_, _, _, _, i, rfl, rfl, hi', ?_⟩
     refine G ?_
     refine ⟨_, .imm hcc, rfl, ?_⟩
     refine G ?_
     intro b4
     refine G ?_
     refine Cx [] ?_
     refine ih x.kids[i] (by have := V.sz_kid (a := x) (x := x.kids[i]) (by simp); omega) hcx' fun r => ?_
     cases r with
     | true =>
      refine G ?_
      refine L0 ?_
      exact h true
     | false =>
      refine G ?_
      exact ⟨x.kids.length - (i + 1), _, _, by omega, rfl, rfl, rfl, rfl, .inl ⟨i + 1, rfl, rfl, rfl, rfl, hi', rfl⟩⟩
    ·refine G ?_
     refine L0 ?_
     exact h false
  ·refine G ?_
   refine ⟨⟨[25], [], [], fun m' vs cs R J => ∃ i : Nat, vs = [.int .i64 (i : Nat)] ∧ cs = [] ∧ R = [] ∧ J = I ∧ i ≤ x.kids.length ∧ m' = x.kids.length - i, x.kids.length, _, _, rfl, rfl, ⟨0, rfl, rfl, rfl, rfl, by omega, rfl⟩, ?_⟩⟩
   rintro m' vs cs R J hJ _ _ ⟨i, rfl, rfl, rfl, rfl, hi, rfl⟩
   refine G ?_
   split
   ·have hi' : i < x.kids.length := by omega
    obtain ⟨vb, vo, e, _⟩ := hvk.some (by omega)
    subst e
    obtain ⟨cx, hcx, hcc⟩ := hvk.get (i := i) (x := x.kids[i]) (by simp [hi'])
    have hcx' := hcx
    obtain ⟨yb, yc, yd, ye, rfl, _⟩ := hcx.inv2
    refine G ?_
    refine ⟨_, _, _, _, i, rfl, rfl, hi', ?_⟩
    refine G ?_
    refine ⟨_, .imm hcc, rfl, ?_⟩
    refine G ?_
    intro b4
    refine G ?_
    refine Cx [] ?_
    refine ih x.kids[i] (by have := V.sz_kid (a := x) (x := x.kids[i]) (by simp); omega) hcx' fun r => ?_
    cases r with
    | true =>
     refine G ?_
     refine L0 ?_
     exact h true
    | false =>
     refine G ?_
     exact ⟨x.kids.length - (i + 1), _, _, by omega, rfl, rfl, rfl, rfl, .inl ⟨i + 1, rfl, rfl, rfl, rfl, hi', rfl⟩⟩
   ·refine G ?_
    refine L0 ?_
    exact h false
def mapV (l : List V) : V := .mk 22 0 [] l 0 []
structure Sayable (x : V) : Prop where
 fit : Fit 6 x
 cnt : x.cnt ≤ 300
 say : Say x
def MapAsked (l : List V) (k : Int) : Prop := l = [] ∨ Sayable (mapV l) ∧ ∀ (i : Nat) (y : V), i % 2 = 0 → l[i]? = some y → y.kind = k
section laws
variable {I : Imm} {Q : Qt}
theorem sayable_law {x : V} {cs : List Value} (hu : Utf I) (hr : VRep I x cs) (h : ∀ I' (r : Bool), I.le I' → (r = true → Sayable x) → Q (.bool r) [] [] I') : WP Tryz.prog 73 #[.agg cs.toArray] [] [] I Q := by
 have hr' := hr
 obtain ⟨kb, kc, db, dc, rfl, _⟩ := hr.inv2
 refine lw K73 [] [.agg #[.int .i64 x.kind, .int .u64 (x.num : Nat), strV x.text, .slice kb x.kids.length kc, .int .i64 x.of, .slice db x.desc.length dc]] Tryz.func73 ?_
 refine G ?_
 intro b1
 refine G ?_
 refine Cx [] ?_
 refine ValueFits_law (lv := 6) hu hr' (by omega) fun I1 r hi1 hr1 => ?_
 cases r with
 | false =>
  refine G ?_
  refine L0 ?_
  exact h I1 false hi1 (by simp)
 | true =>
  obtain ⟨e1, e2⟩ := hr1 rfl
  refine G ?_
  refine Cx [] ?_
  refine Values_law _ x (Nat.le_refl _) (hr'.mono hi1) e2 fun I2 hi2 => ?_
  refine G ?_
  split
  ·rename_i hle _
   refine G ?_
   refine Cx [] ?_
   refine Sayable_law _ x (Nat.le_refl _) (hr'.mono (hi1.trans hi2)) e1 fun r hr2 => ?_
   refine G ?_
   refine L0 ?_
   exact h I2 r (hi1.trans hi2) fun e => ⟨e1, by omega, hr2 e⟩
  ·refine G ?_
   refine L0 ?_
   exact h I2 false (hi1.trans hi2) (by simp)
theorem mapAsked_law {l : List V} {v w : Value} {k : Int} (hu : Utf I) (hv : VsRep I l v) (hw : SlAt I 1 1 [.int .i64 k] w) (h : ∀ I' (r : Bool), I.le I' → (r = true → MapAsked l k) → Q (.bool r) [] [] I') : WP Tryz.prog 48 #[v, w] [] [] I Q := by
 have hv' := hv
 have hw' := hw
 obtain ⟨base, cap, rfl⟩ := hv.form
 obtain ⟨wb, wc, rfl⟩ := slAt_form hw
 have hl := hv.1
 have hr : VRep I (mapV l) [.int .i64 22, .int .u64 (0 : Nat), strV [], .slice base l.length cap, .int .i64 0, .slice none 0 0] := .intro (by omega) (by omega) (by omega) (by simp) hv' (.nil I)
 refine lw K48 [] [.slice base l.length cap, .slice wb 1 wc] Tryz.func48 ?_
 refine G ?_
 intro b5
 refine G ?_
 split
 ·rename_i hz _
  refine G ?_
  refine L0 ?_
  exact h I true (.refl I) fun _ => .inl (List.eq_nil_of_length_eq_zero (by omega))
 ·rename_i hz _
  refine G ?_
  refine Cx [] ?_
  refine sayable_law hu hr fun I1 r hi1 hr1 => ?_
  cases r with
  | false =>
   refine G ?_
   refine L0 ?_
   exact h I1 false hi1 (by simp)
  | true =>
   refine G ?_
   refine Cx [] ?_
   refine KeysOf_law (hr.mono hi1) (SlAt.mono hi1 hw') fun r hr2 => ?_
   cases r with
   | false =>
    refine G ?_
    refine L0 ?_
    exact h I1 false hi1 (by simp)
   | true =>
    refine G ?_
    refine Cx [] ?_
    refine SymbolArrays_law _ (mapV l) (Nat.le_refl _) (hr.mono hi1) fun r => ?_
    refine G ?_
    refine L0 ?_
    exact h I1 _ hi1 fun _ => .inr ⟨hr1 rfl, hr2 rfl⟩
theorem left_law {xs bs : List UInt8} {v w : Value} (hv : BytesAt I xs v) (hw : BytesAt I bs w) (h : ∀ r : Bool, (xs = bs → r = true) → Q (.bool r) [] [] I) : WP Tryz.prog 12 #[v, w] [] [] I Q := by
 have hv' := hv
 have hw' := hw
 obtain ⟨vb, vc, rfl⟩ := bytes_form hv
 obtain ⟨wb, wc, rfl⟩ := bytes_form hw
 refine lw K12 [] [.slice vb xs.length vc, .slice wb bs.length wc] Tryz.func12 ?_
 refine G ?_
 refine ⟨xs, .imm hv', ?_⟩
 refine G ?_
 refine ⟨bs, .imm hw', ?_⟩
 refine G ?_
 split
 ·refine G ?_
  refine L0 ?_
  exact h true fun _ => rfl
 ·rename_i hne _
  refine G ?_
  refine L0 ?_
  exact h false fun e => absurd e hne
def FaultAsked (f : Fault) : Prop := MapAsked f.info 19
theorem askedFault_law {f : Fault} {cs : List Value} (hu : Utf I) (hf : FaultRep I f cs) (h : ∀ I' (r : Bool), I.le I' → (r = true → FaultAsked f) → Q (.bool r) [] [] I') : WP Tryz.prog 34 #[.agg cs.toArray] [] [] I Q := by
 obtain ⟨iv, rfl, hiv, hc, hd⟩ := hf
 have hiv' := hiv
 obtain ⟨base, cap, rfl⟩ := hiv.form
 refine lw K34 [] [.agg #[strV f.cond, strV f.descr, .slice base f.info.length cap]] Tryz.func34 ?_
 refine G ?_
 intro b1
 refine G ?_
 split
 ·refine G ?_
  refine L0 ?_
  exact h I false (.refl I) (by simp)
 ·refine G ?_
  refine .inl fun bk I1 hi1 hck => ?_
  refine G ?_
  refine Cx [] ?_
  refine mapAsked_law (k := 19) (hu.mono hi1) (hiv'.mono hi1) ⟨rfl, Nat.le_refl _, rfl, hck⟩ fun I2 r hi2 hr => ?_
  refine G ?_
  refine L0 ?_
  exact h I2 r (hi1.trans hi2) hr
def FaultsAsked (l : List Fault) : Prop := l.length ≤ 1 ∧ ∀ f ∈ l, FaultAsked f
theorem askedFaults_law {l : List Fault} {v : Value} (hu : Utf I) (hl : Row 3 (FaultRep I) I l v) (h : ∀ I' (r : Bool), I.le I' → (r = true → FaultsAsked l) → Q (.bool r) [] [] I') : WP Tryz.prog 10 #[v] [] [] I Q := by
 obtain ⟨base, cap, rfl⟩ := hl.form
 have hlen := hl.1
 refine lw K10 [] [.slice base l.length cap] Tryz.func10 ?_
 refine G ?_
 split
 ·rename_i hz _
  obtain rfl : l = [] := List.eq_nil_of_length_eq_zero (by omega)
  refine G ?_
  refine L0 ?_
  exact h I true (.refl I) fun _ => ⟨by simp, by simp⟩
 ·refine G ?_
  split
  ·rename_i h1 _
   obtain ⟨vb, vo, rfl, _⟩ := hl.some (by omega)
   obtain ⟨cx, hcx, hcl, hcc⟩ := hl.get (i := 0) (x := l[0]) (by simp)
   have hcx' := hcx
   obtain ⟨iv, rfl, _⟩ := hcx
   refine G ?_
   refine ⟨_, _, _, _, 0, rfl, rfl, by omega, ?_⟩
   refine G ?_
   refine ⟨_, .imm hcc, rfl, ?_⟩
   refine G ?_
   refine Cx [] ?_
   refine askedFault_law hu hcx' fun I1 r hi1 hr => ?_
   refine G ?_
   refine L0 ?_
   refine h I1 r hi1 fun e => ⟨by omega, fun f hf => ?_⟩
   obtain ⟨i, hi⟩ := List.mem_iff_getElem?.1 hf
   have : i = 0 := by have := (List.getElem?_eq_some_iff.1 hi).1; omega
   subst this
   rw [List.getElem?_eq_getElem (by omega)] at hi
   cases hi
   exact hr e
  ·refine G ?_
   refine L0 ?_
   exact h I false (.refl I) (by simp)
end laws
mutual
def usual : V → V
 | .mk k n t ks o ds => if k = 20 then .mk 19 0 t (usualL ks) 0 ds else match k, ks with
  | 23, [.mk 20 _ s _ _ _] => .mk 19 0 s [] 0 []
  | k, ks => .mk k n t (usualL ks) o ds
def usualL : List V → List V
 | [] => []
 | v :: l => usual v :: usualL l
end
theorem usualL_map : ∀ l : List V, usualL l = l.map usual
 | [] => by simp [usualL]
 | v :: l => by simp [usualL, usualL_map l]
def OneSym (x : V) : Prop := x.kind = 23 ∧ ∃ z, x.kids = [z] ∧ z.kind = 20
theorem usual_sym {n : Nat} {t : List UInt8} {ks ds : List V} {o : Int} : usual (.mk 20 n t ks o ds) = .mk 19 0 t (ks.map usual) 0 ds := by
 rw [usual.eq_def, ← usualL_map]; simp
theorem usual_one {n : Nat} {t : List UInt8} {z : V} {o : Int} {ds : List V} (hz : z.kind = 20) : usual (.mk 23 n t [z] o ds) = .mk 19 0 z.text [] 0 [] := by
 obtain ⟨k, m, s, ks, p, es⟩ := z
 obtain rfl : k = 20 := hz
 rw [usual.eq_def]
 simp [V.text]
theorem usual_other {k : Int} {n : Nat} {t : List UInt8} {ks ds : List V} {o : Int} (h20 : k ≠ 20) (h : ¬ OneSym (.mk k n t ks o ds)) : usual (.mk k n t ks o ds) = .mk k n t (ks.map usual) o ds := by
 rw [usual.eq_def, ← usualL_map]
 simp only [if_neg h20]
 split
 ·rename_i k' ks' m s a b c
  exact absurd ⟨rfl, _, rfl, rfl⟩ h
 ·rfl
theorem usual_nokids {k : Int} {n : Nat} {t : List UInt8} {o : Int} {ds : List V} (h20 : k ≠ 20) : usual (.mk k n t [] o ds) = .mk k n t [] o ds := by
 rw [usual_other h20]
 ·simp
 ·rintro ⟨_, z, hz, _⟩
  simp [V.kids] at hz
inductive Loose : V → V → Prop where
 | leaf {a b : V} (hk : a.kind ≠ 21 ∧ a.kind ≠ 22) (h : Same a b) : Loose a b
 | list {a b : V} (ha : a.kind = 21) (hb : b.kind = 21) (hl : a.kids.length = b.kids.length) (h1 : a.desc.length = 0) (h2 : b.desc.length = 0) (h : ∀ (i : Nat) (x y : V), a.kids[i]? = some x → b.kids[i]? = some y → Loose x y) : Loose a b
 | map {a b : V} (f : Nat → Nat) (ha : a.kind = 22) (hb : b.kind = 22) (hl : a.kids.length = b.kids.length) (h1 : a.desc.length = 0) (h2 : b.desc.length = 0)
   (hk : ∀ (i : Nat) (k v : V), i % 2 = 0 → a.kids[i]? = some k → a.kids[i + 1]? = some v → f i % 2 = 0 ∧ ∃ k' v', b.kids[f i]? = some k' ∧ b.kids[f i + 1]? = some v' ∧ Same k k')
   (hv : ∀ (i : Nat) (k v v' : V), i % 2 = 0 → a.kids[i]? = some k → a.kids[i + 1]? = some v → b.kids[f i + 1]? = some v' → Loose v v') : Loose a b
theorem prs_get : ∀ {l : List V} {i : Nat} {a b : V}, l[2 * i]? = some a → l[2 * i + 1]? = some b → (prs l)[i]? = some (a, b)
 | [], i, a, b, h, _ => by simp at h
 | [x], i, a, b, h, h' => by
  cases i <;> simp at h h'
 | x :: y :: l, 0, a, b, h, h' => by
  simp at h h'
  subst h h'
  rfl
 | x :: y :: l, i + 1, a, b, h, h' => by
  rw [prs.eq_def]
  simp only [List.getElem?_cons_succ]
  exact prs_get (l := l) (by simpa [Nat.mul_add] using h) (by simpa [Nat.mul_add] using h')
theorem prs_mem : ∀ {l : List V} {i : Nat} {p : V × V}, (prs l)[i]? = some p → l[2 * i]? = some p.1 ∧ l[2 * i + 1]? = some p.2
 | [], i, p, h => by simp [prs] at h
 | [x], i, p, h => by simp [prs] at h
 | x :: y :: l, 0, p, h => by
  simp [prs] at h
  subst h
  simp
 | x :: y :: l, i + 1, p, h => by
  rw [prs.eq_def] at h
  simp only [List.getElem?_cons_succ] at h
  obtain ⟨h1, h2⟩ := prs_mem (l := l) h
  exact ⟨by simpa [Nat.mul_add] using h1, by simpa [Nat.mul_add] using h2⟩
theorem prs_len : ∀ (l : List V), (prs l).length = l.length / 2
 | [] => rfl
 | [x] => by simp [prs]
 | x :: y :: l => by
  rw [prs.eq_def]
  simp only [List.length_cons, prs_len l]
  omega
inductive Kv : V → Prop where
 | sc {k : Int} {n : Nat} {t : List UInt8} {o : Int} (h : Scal k n t) : Kv (.mk k n t [] o [])
 | list {ks : List V} {o : Int} (h : ∀ (i : Nat) (x : V), ks[i]? = some x → Kv x) : Kv (.mk 21 0 [] ks o [])
 | arr {ks : List V} {o k : Int} (hk : arrK k) (hn : 0 < ks.length) (h : ∀ (i : Nat) (x : V), ks[i]? = some x → ∃ n t o, x = .mk k n t [] o [] ∧ Scal k n t) : Kv (.mk 23 0 [] ks o [])
 | map {ks : List V} {o : Int} (he : ks.length % 2 = 0) (h : ∀ (i : Nat) (x : V), ks[i]? = some x → Kv x)
   (hk : ∀ (i : Nat) (x : V), i % 2 = 0 → ks[i]? = some x → ∃ k n t o, x = .mk k n t [] o [] ∧ Scal k n t ∧ keyK k)
   (hd : ∀ (i j : Nat) (x y : V), i % 2 = 0 → j % 2 = 0 → j < i → ks[i]? = some x → ks[j]? = some y → ¬ Same (asKey y) (asKey x)) : Kv (.mk 22 0 [] ks o [])
theorem same_sc {k : Int} {n : Nat} {t : List UInt8} {o o' : Int} : Same (.mk k n t [] o []) (.mk k n t [] o' []) := .mk rfl (by simp) rfl (by simp)
theorem scal20 {n : Nat} {t : List UInt8} (h : Scal 20 n t) : n = 0 := by cases h; rfl
theorem usual_key {k k' : Int} {n : Nat} {t : List UInt8} {o o' : Int} (hs : Scal k n t) (hk : asKind k' = asKind k) : Same (usual (.mk k n t [] o [])) (usual (.mk k' n t [] o' [])) := by
 unfold asKind at hk
 by_cases h1 : k = 20
 ·subst h1
  have hn := scal20 hs
  subst hn
  by_cases h2 : k' = 20
  ·subst h2
   rw [usual_sym, usual_sym]; exact same_sc
  ·rw [if_pos rfl, if_neg h2] at hk
   subst hk
   rw [usual_sym, usual_nokids (by decide)]
   exact same_sc
 ·rw [if_neg h1] at hk
  by_cases h2 : k' = 20
  ·subst h2
   rw [if_pos rfl] at hk
   subst hk
   cases hs
   rw [usual_sym, usual_nokids (by decide)]
   exact same_sc
  ·rw [if_neg h2] at hk
   subst hk
   rw [usual_nokids h1, usual_nokids h1]
   exact same_sc
theorem usual_kind (x : V) : (usual x).kind = x.kind ∨ (usual x).kind = 19 := by
 obtain ⟨k, n, t, ks, o, ds⟩ := x
 by_cases h1 : k = 20
 ·subst h1; rw [usual_sym]; exact .inr rfl
 ·by_cases h2 : OneSym (.mk k n t ks o ds)
  ·obtain ⟨h3, z, hz, hz2⟩ := h2
   obtain rfl : k = 23 := h3
   obtain rfl : ks = [z] := hz
   rw [usual_one hz2]
   exact .inr rfl
  ·rw [usual_other h1 h2]; exact .inl rfl
theorem scal_small {k : Int} {n : Nat} {t : List UInt8} (h : Scal k n t) : k < 21 := by cases h <;> decide
theorem usual_sc_small {k : Int} {n : Nat} {t : List UInt8} {o : Int} (h : k < 21) : (usual (.mk k n t [] o [])).kind ≠ 21 ∧ (usual (.mk k n t [] o [])).kind ≠ 22 := by
 rcases usual_kind (.mk k n t [] o []) with e | e
 ·rw [e]; simp only [V.kind]; omega
 ·rw [e]; decide
theorem back_loose {x y : V} (hb : Back x y) : Kv x → Loose (usual x) (usual y) := by
 induction hb with
 | sc hk =>
  intro hx
  cases hx with
  | sc hs => exact .leaf (usual_sc_small (scal_small hs)) (usual_key hs hk)
  | list => exact .list rfl (by revert hk; rename_i k' _ _; intro hk; unfold asKind at hk; rw [usual_nokids (by intro h; subst h; simp at hk)]; simp only [V.kind]; split at hk <;> simp_all) (by rw [usual_nokids (by decide)]; rename_i k' _ _; rw [usual_nokids (by intro h; subst h; revert hk; decide)]; rfl) (by rw [usual_nokids (by decide)]; rfl) (by rename_i k' _ _; rw [usual_nokids (by intro h; subst h; revert hk; decide)]; rfl) (by intro i a b ha; rw [usual_nokids (by decide)] at ha; simp [V.kids] at ha)
  | arr _ hn => exact absurd hn (by simp)
  | map => exact .map id rfl (by rename_i k' _ _ _ _ _; unfold asKind at hk; rw [usual_nokids (by intro h; subst h; simp at hk)]; simp only [V.kind]; split at hk <;> simp_all) (by rw [usual_nokids (by decide)]; rename_i k' _ _ _ _ _; rw [usual_nokids (by intro h; subst h; revert hk; decide)]; rfl) (by rw [usual_nokids (by decide)]; rfl) (by rename_i k' _ _ _ _ _; rw [usual_nokids (by intro h; subst h; revert hk; decide)]; rfl) (by intro i a b _ ha; rw [usual_nokids (by decide)] at ha; simp [V.kids] at ha) (by intro i a b c _ ha; rw [usual_nokids (by decide)] at ha; simp [V.kids] at ha)
 | list hl h ih =>
  intro hx
  rename_i ks ks' o
  have hks : ∀ (i : Nat) (x : V), ks[i]? = some x → Kv x := by
   cases hx with
   | sc hs => cases hs
   | list h => exact h
  have n1 : ¬ OneSym (.mk 21 0 [] ks o []) := fun h => by cases h.1
  have n2 : ¬ OneSym (.mk 21 0 [] ks' 0 []) := fun h => by cases h.1
  rw [usual_other (by decide) n1, usual_other (by decide) n2]
  refine .list rfl rfl (by simp [V.kids, hl]) rfl rfl fun i a b ha hb => ?_
  simp only [V.kids, List.getElem?_map, Option.map_eq_some_iff] at ha hb
  obtain ⟨a, ha, rfl⟩ := ha
  obtain ⟨b, hb, rfl⟩ := hb
  exact ih i a b ha hb (hks i a ha)
 | arr hl h =>
  intro hx
  rename_i ks ks' o k
  have hks : ∀ (i : Nat) (x : V), ks[i]? = some x → ∃ k n t o, x = .mk k n t [] o [] ∧ Scal k n t := by
   cases hx with
   | sc hs => cases hs
   | arr _ _ h => exact fun i x hx => by obtain ⟨n, t, o, e, hs⟩ := h i x hx; exact ⟨_, n, t, o, e, hs⟩
  have key : ∀ (i : Nat) (a b : V), ks[i]? = some a → ks'[i]? = some b → Same (usual a) (usual b) := fun i a b ha hb => by
   obtain ⟨k1, n, t, o1, rfl, hs⟩ := hks i a ha
   rw [h i _ b ha hb]
   exact usual_key hs rfl
  by_cases h1 : OneSym (.mk 23 0 [] ks o [])
  ·obtain ⟨_, z, hz, hz2⟩ := h1
   obtain rfl : ks = [z] := hz
   match ks', hl with
   | [w], _ =>
    have hw := h 0 z w rfl rfl
    rw [usual_one hz2, hw, usual_one (show (V.mk z.kind z.num z.text [] 0 []).kind = 20 from hz2)]
    exact .leaf (by simp [V.kind]) same_sc
  ·have h2 : ¬ OneSym (.mk 23 0 [] ks' k []) := by
    rintro ⟨_, w, hw, hw2⟩
    obtain rfl : ks' = [w] := hw
    match ks, hl with
    | [z], _ => exact h1 ⟨rfl, z, rfl, by have := h 0 z w rfl rfl; rw [this] at hw2; exact hw2⟩
   rw [usual_other (by decide) h1, usual_other (by decide) h2]
   refine .leaf (by simp [V.kind]) (.mk (by simp [hl]) (fun i a b ha hb => ?_) rfl (by simp))
   simp only [List.getElem?_map, Option.map_eq_some_iff] at ha hb
   obtain ⟨a, ha, rfl⟩ := ha
   obtain ⟨b, hb, rfl⟩ := hb
   exact key i a b ha hb
 | map hp hl h h' ih ih' =>
  intro hx
  rename_i ks ks' o ps
  have hks : (ks.length % 2 = 0) ∧ (∀ (i : Nat) (x : V), ks[i]? = some x → Kv x) ∧ (∀ (i : Nat) (x : V), i % 2 = 0 → ks[i]? = some x → ∃ k n t o, x = .mk k n t [] o [] ∧ Scal k n t ∧ keyK k) := by
   cases hx with
   | sc hs => cases hs
   | map he h hk hd => exact ⟨he, h, hk⟩
  have n1 : ¬ OneSym (.mk 22 0 [] ks o []) := fun h => by cases h.1
  have n2 : ¬ OneSym (.mk 22 0 [] ks' 0 []) := fun h => by cases h.1
  have hpl : ks'.length = ks.length := by rw [hl, hp.length_eq, prs_len]; omega
  rw [usual_other (by decide) n1, usual_other (by decide) n2]
  have pos : ∀ i, ∃ j, i % 2 = 0 → ∀ a b, ks[i]? = some a → ks[i + 1]? = some b → ps[j]? = some (a, b) := fun i => by
   by_cases h : i % 2 = 0 ∧ ∃ a b, ks[i]? = some a ∧ ks[i + 1]? = some b
   ·obtain ⟨hi, a, b, ha, hb⟩ := h
    have hm : (prs ks)[i / 2]? = some (a, b) := prs_get (by rw [show 2 * (i / 2) = i by omega]; exact ha) (by rw [show 2 * (i / 2) = i by omega]; exact hb)
    obtain ⟨j, hj⟩ := List.mem_iff_getElem?.1 (hp.mem_iff.2 (List.mem_of_getElem? hm))
    exact ⟨j, fun _ a' b' ha' hb' => by rw [ha] at ha'; rw [hb] at hb'; cases ha'; cases hb'; exact hj⟩
   ·exact ⟨0, fun hi a b ha hb => absurd ⟨hi, a, b, ha, hb⟩ h⟩
  have hg : ∀ i a b, i % 2 = 0 → ks[i]? = some a → ks[i + 1]? = some b → ps[(pos i).choose]? = some (a, b) := fun i a b hi ha hb => (pos i).choose_spec hi a b ha hb
  refine .map (fun i => 2 * (pos i).choose) rfl rfl (by simp [V.kids, hpl]) rfl rfl (fun i a b hi ha hb => ?_) (fun i a b c hi ha hb hc => ?_)
  ·simp only [V.kids, List.getElem?_map, Option.map_eq_some_iff] at ha hb
   obtain ⟨a, ha, rfl⟩ := ha
   obtain ⟨b, hb, rfl⟩ := hb
   have hj := hg i a b hi ha hb
   generalize (pos i).choose = j at hj ⊢
   have hjl : j < ps.length := (List.getElem?_eq_some_iff.1 hj).1
   have g1 : ks'[2 * j]? = some (ks'[2 * j]'(by omega)) := by simp
   have g2 : ks'[2 * j + 1]? = some (ks'[2 * j + 1]'(by omega)) := by simp
   obtain ⟨k, n, t, o1, rfl, hs, _⟩ := hks.2.2 i a hi ha
   refine ⟨by show 2 * j % 2 = 0; omega, _, _, by simp only [V.kids, List.getElem?_map, g1]; rfl, by simp only [V.kids, List.getElem?_map, g2]; rfl, ?_⟩
   have hbk := h j _ _ _ hj g1 g2
   generalize ks'[2 * j]'(by omega) = w at hbk
   cases hbk with
   | sc hk => exact usual_key hs hk
   | list => cases hs
   | arr => cases hs
   | map => cases hs
  ·simp only [V.kids, List.getElem?_map, Option.map_eq_some_iff] at ha hb hc
   obtain ⟨a, ha, rfl⟩ := ha
   obtain ⟨b, hb, rfl⟩ := hb
   obtain ⟨c, hc, rfl⟩ := hc
   have hj := hg i a b hi ha hb
   generalize (pos i).choose = j at hj hc
   have hjl : j < ps.length := (List.getElem?_eq_some_iff.1 hj).1
   have g1 : ks'[2 * j]? = some (ks'[2 * j]'(by omega)) := by simp
   exact ih' j _ _ _ hj g1 hc (hks.2.1 _ b hb)
theorem inv_6_51 {n : Nat} {t d : List UInt8} (h : EncS 6 n t (0x51 :: d)) : ∃ y0, d = [y0] ∧ sg n = IntKind.i8.wrap ((y0.toNat : Nat) : Int) := by
 generalize he : (0x51 : UInt8) :: d = e at h
 cases h with
 | byte h =>
  generalize sg n = m at h
  cases h <;> first | exact ⟨_, cons_eq he, rfl⟩ | cases he
section rd
variable {I : Imm} {b : Nat} {bs : List UInt8} {v : Value} {off : Nat} {Q : Qt}
theorem arr_6_51 {ks : List V} {data hd r : List UInt8} {bl : Nat} (hv : BufAt I bs v) (hn : 0 < ks.length) (ha : ArrE 6 ks 0x51 data) (hh : HeadE 0xe0 0xf0 ks.length hd (0x51 :: data)) (hdr : bs.drop off = hd ++ ((0x51 :: data) ++ r))
  (h : ∀ I' sv, I.le I' → Row 1 (fun (x : V) c => elemC I' 6 x.num x.text c) I' ks sv → bs.drop (off + (hd.length + 1 + data.length)) = r → Q .nilIface [[sv], bufC v (off + (hd.length + 1 + data.length))] [] I') :
  WP Tryz.prog 115 #[ptr bl, ptr b] [(bl, [.slice none 0 0]), (b, bufC v off)] [] I Q := by
 obtain ⟨hn1, hn2⟩ := head_pos hh
 have hsm := hv.small
 obtain ⟨ds, hf⟩ := arr_nonempty (w := 1) ha fun n t d he => by obtain ⟨y0, rfl, _⟩ := inv_6_51 he; rfl
 have hdl := hf.dlen
 rw [Nat.mul_one] at hdl
 refine lw K115 [(0,1000),(1,1001)] _ Tryz.func115 ?_
 refine G ?_
 refine Cx [1001] ?_
 refine readArrayHeader_law hv hh hdr fun hr => ?_
 refine G ?_
 refine Cx [1001] ?_
 refine readType_law hv hr fun hr => ?_
 replace hr : bs.drop (off + hd.length + 1) = data ++ r := hr
 obtain ⟨t1, t2, t3⟩ := take_of_drop hr
 have hlen := congrArg List.length hr
 rw [List.length_drop, List.length_append] at hlen
 refine G ?_
 refine Cx [1001] ?_
 refine Next_law (n := ks.length) hv (by omega) fun sv hsv => ?_
 rw [← hdl, t1] at hsv
 obtain ⟨base, cap, rfl⟩ := bytes_form hsv
 have hcap := (bytes_le hsv).2
 obtain ⟨vb, vo, rfl⟩ := bytes_some hsv (by omega)
 refine G ?_
 refine ⟨0, 0, rfl, rfl, by omega, by omega, ?_⟩
 intro sn hsn
 obtain rfl : sn = .slice none 0 0 := by rw [hsn]; rfl
 refine G ?_
 (first | (split; omega) | (split; rotate_left; omega)); refine G ?_
 refine ⟨by decide, ks.length, rfl, rfl, by omega, by rw [show ti207.bytes = 1 by kernel_rfl]; omega, fun bb => ?_⟩
 refine G ?_
 refine ⟨⟨[56], [], [], fun m vs cs R J => ∃ (i : Nat) (css : List (List Value)), vs = [.int .i64 (i : Nat)] ∧ cs = [] ∧ i ≤ ks.length ∧ m = ks.length - i ∧ I = J ∧
   R = [(50, .vec (.slice (some ⟨bb, 0, none⟩) ks.length ks.length) 1 css.flatten)] ∧ AR 1 (fun (x : V) c => elemC I 6 x.num x.text c) ks i css, ks.length, _, _, rfl, rfl,
  ⟨0, List.replicate ks.length (vcells ti207.zero), rfl, rfl, by omega, rfl, rfl, rfl, .init rfl⟩, ?_⟩⟩
 rintro m vs cs R J hJ _ _ ⟨i, css, rfl, rfl, hi, rfl, rfl, rfl, har⟩
 refine G ?_
 split
 ·rename_i hlt _
  have hi' : i < ks.length := by omega
  have hid : i < ds.length := by rw [hf.len]; exact hi'
  obtain ⟨y0, hd0, hs0⟩ := inv_6_51 (hf.enc i hi' hid)
  have := y0.toNat_lt
  have hp : elemC I 6 ks[i].num ks[i].text [.int .i8 (IntKind.i8.wrap ((y0.toNat : Nat) : Int))] := by
   refine elemC_of ?_ ?_ ?_ ?_ ?_ ?_ ?_ ?_ ?_ ?_ ?_ ?_ ?_ ?_ ?_ <;> intro hk <;> first | omega | skip
   rw [hs0]
  refine G ?_
  refine ⟨_, _, _, _, i, rfl, rfl, by omega, ?_⟩
  refine G ?_
  refine ⟨_, .imm (bytes_cell hsv (y := y0) (by have := hf.get (j := 0) hid (by rw [hd0]; rfl); simpa using this)), ?_⟩
  refine G ?_
  refine ⟨_, _, _, _, i, rfl, rfl, hi', ?_⟩
  refine G ?_
  refine .vec 50 _ _ 1 css.flatten rfl (by have := har.flen; show 0 + i * 1 + 1 ≤ css.flatten.length; omega) ?_
  refine G ?_
  have hsp := har.splice hi' (c := [.int .i8 (IntKind.i8.wrap ((y0.toNat : Nat) : Int))]) rfl
  refine ⟨ks.length - (i + 1), _, _, by omega, rfl, rfl, rfl, rfl, .inl ⟨i + 1, css.set i [.int .i8 (IntKind.i8.wrap ((y0.toNat : Nat) : Int))], rfl, rfl, hi', rfl, rfl, ?_, har.step hi' rfl hp⟩⟩
  rw [← hsp]
  show [(50, Res.vec _ _ (splice css.flatten (0 + i * 1) _))] = _
  rw [Nat.zero_add]; try rfl
 ·rename_i hge _
  obtain rfl : i = ks.length := by omega
  refine G ?_
  refine ⟨⟨[], [], [], [50], ?_⟩⟩
  intro J1 hJ1 ⟨n, hn, hsl⟩
  obtain rfl : ks.length = n := hn
  conv => whnf
  rw [show off + (hd.length + 1 + data.length) = off + hd.length + 1 + ks.length by omega] at h
  rw [hdl] at t3
  exact h J1 _ hJ1 (har.row (by omega) hsl fun x c h => h.mono hJ1) t3
end rd
theorem inv_3_60 {n : Nat} {t d : List UInt8} (h : EncS 3 n t (0x60 :: d)) : ∃ y0 y1, d = [y0, y1] ∧ n = y1.toNat + y0.toNat * 256 := by
 generalize he : (0x60 : UInt8) :: d = e at h
 cases h with
 | ushort h =>
  cases h <;> first | exact ⟨_, _, cons_eq he, rfl⟩ | cases he
section rd
variable {I : Imm} {b : Nat} {bs : List UInt8} {v : Value} {off : Nat} {Q : Qt}
theorem arr_3_60 {ks : List V} {data hd r : List UInt8} {bl : Nat} (hv : BufAt I bs v) (hn : 0 < ks.length) (ha : ArrE 3 ks 0x60 data) (hh : HeadE 0xe0 0xf0 ks.length hd (0x60 :: data)) (hdr : bs.drop off = hd ++ ((0x60 :: data) ++ r))
  (h : ∀ I' sv, I.le I' → Row 1 (fun (x : V) c => elemC I' 3 x.num x.text c) I' ks sv → bs.drop (off + (hd.length + 1 + data.length)) = r → Q .nilIface [[sv], bufC v (off + (hd.length + 1 + data.length))] [] I') :
  WP Tryz.prog 116 #[ptr bl, ptr b] [(bl, [.slice none 0 0]), (b, bufC v off)] [] I Q := by
 obtain ⟨hn1, hn2⟩ := head_pos hh
 have hsm := hv.small
 obtain ⟨ds, hf⟩ := arr_nonempty (w := 2) ha fun n t d he => by obtain ⟨y0, y1, rfl, _⟩ := inv_3_60 he; rfl
 have hdl := hf.dlen
 refine lw K116 [(0,1000),(1,1001)] _ Tryz.func116 ?_
 refine G ?_
 refine Cx [1001] ?_
 refine readArrayHeader_law hv hh hdr fun hr => ?_
 refine G ?_
 refine Cx [1001] ?_
 refine readType_law hv hr fun hr => ?_
 replace hr : bs.drop (off + hd.length + 1) = data ++ r := hr
 obtain ⟨t1, t2, t3⟩ := take_of_drop hr
 have hlen := congrArg List.length hr
 rw [List.length_drop, List.length_append] at hlen
 refine G ?_
 refine Cx [1001] ?_
 refine Next_law (n := ks.length * 2) hv (by omega) fun sv hsv => ?_
 rw [← hdl, t1] at hsv
 obtain ⟨base, cap, rfl⟩ := bytes_form hsv
 have hcap := (bytes_le hsv).2
 obtain ⟨vb, vo, rfl⟩ := bytes_some hsv (by omega)
 refine G ?_
 refine ⟨0, 0, rfl, rfl, by omega, by omega, ?_⟩
 intro sn hsn
 obtain rfl : sn = .slice none 0 0 := by rw [hsn]; rfl
 refine G ?_
 (first | (split; omega) | (split; rotate_left; omega)); refine G ?_
 refine ⟨by decide, ks.length, rfl, rfl, by omega, by rw [show ti44.bytes = 2 by kernel_rfl]; omega, fun bb => ?_⟩
 refine G ?_
 refine ⟨⟨[57, 11], [], [], fun m vs cs R J => ∃ (i : Nat) (css : List (List Value)), vs = [.int .i64 (i : Nat), .int .i64 ((i * 2 : Nat) : Int)] ∧ cs = [] ∧ i ≤ ks.length ∧ m = ks.length - i ∧ I = J ∧
   R = [(51, .vec (.slice (some ⟨bb, 0, none⟩) ks.length ks.length) 1 css.flatten)] ∧ AR 1 (fun (x : V) c => elemC I 3 x.num x.text c) ks i css, ks.length, _, _, rfl, rfl,
  ⟨0, List.replicate ks.length (vcells ti44.zero), rfl, rfl, by omega, rfl, rfl, rfl, .init rfl⟩, ?_⟩⟩
 rintro m vs cs R J hJ _ _ ⟨i, css, rfl, rfl, hi, rfl, rfl, rfl, har⟩
 refine G ?_
 split
 ·rename_i hlt _
  have hi' : i < ks.length := by omega
  have hid : i < ds.length := by rw [hf.len]; exact hi'
  obtain ⟨y0, y1, hd0, hs0⟩ := inv_3_60 (hf.enc i hi' hid)
  have := y0.toNat_lt
  have := y1.toNat_lt
  have hp : elemC I 3 ks[i].num ks[i].text [.int .u16 ((y1.toNat + y0.toNat * 256 : Nat) : Int)] := by
   refine elemC_of ?_ ?_ ?_ ?_ ?_ ?_ ?_ ?_ ?_ ?_ ?_ ?_ ?_ ?_ ?_ <;> intro hk <;> first | omega | skip
   rw [hs0]
  have hcut := bytes_cut hsv (l := i * 2) (u := data.length) (by omega) (by omega)
  have g0 : ((data.drop (i * 2)).take (data.length - i * 2))[0]? = some y0 := by rw [List.getElem?_take_of_lt (by omega), List.getElem?_drop]; exact hf.get hid (by rw [hd0]; rfl)
  have g1 : ((data.drop (i * 2)).take (data.length - i * 2))[1]? = some y1 := by rw [List.getElem?_take_of_lt (by omega), List.getElem?_drop]; exact hf.get hid (by rw [hd0]; rfl)
  refine G ?_
  refine ⟨[0,1,2,3,4,5,6,7,8], [], [], [], by kernel_rfl, ?_⟩
  refine G ?_
  refine ⟨i * 2, data.length, rfl, rfl, by omega, by omega, ?_⟩
  intro s1 hs1
  refine G ?_
  refine .inr ?_
  refine G ?_
  refine Uint16_law (hs1 ▸ hcut) g0 g1 ?_
  refine G ?_
  refine ⟨_, _, _, _, i, rfl, rfl, hi', ?_⟩
  refine G ?_
  refine .vec 51 _ _ 1 css.flatten rfl (by have := har.flen; show 0 + i * 1 + 1 ≤ css.flatten.length; omega) ?_
  refine G ?_
  have hsp := har.splice hi' (c := [.int .u16 ((y1.toNat + y0.toNat * 256 : Nat) : Int)]) rfl
  refine ⟨ks.length - (i + 1), _, _, by omega, rfl, rfl, rfl, rfl, .inl ⟨i + 1, css.set i [.int .u16 ((y1.toNat + y0.toNat * 256 : Nat) : Int)], (by rw [Nat.succ_mul]; rfl), rfl, hi', rfl, rfl, ?_, har.step hi' rfl hp⟩⟩
  rw [← hsp]
  show [(51, Res.vec _ _ (splice css.flatten (0 + i * 1) _))] = _
  rw [Nat.zero_add]; try rfl
 ·rename_i hge _
  obtain rfl : i = ks.length := by omega
  refine G ?_
  refine ⟨⟨[], [], [], [51], ?_⟩⟩
  intro J1 hJ1 ⟨n, hn, hsl⟩
  obtain rfl : ks.length = n := hn
  conv => whnf
  rw [show off + (hd.length + 1 + data.length) = off + hd.length + 1 + ks.length * 2 by omega] at h
  rw [hdl] at t3
  exact h J1 _ hJ1 (har.row (by omega) hsl fun x c h => h.mono hJ1) t3
end rd
theorem inv_7_61 {n : Nat} {t d : List UInt8} (h : EncS 7 n t (0x61 :: d)) : ∃ y0 y1, d = [y0, y1] ∧ sg n = IntKind.i16.wrap ((y1.toNat + y0.toNat * 256 : Nat) : Int) := by
 generalize he : (0x61 : UInt8) :: d = e at h
 cases h with
 | short h =>
  generalize sg n = m at h
  cases h <;> first | exact ⟨_, _, cons_eq he, rfl⟩ | cases he
section rd
variable {I : Imm} {b : Nat} {bs : List UInt8} {v : Value} {off : Nat} {Q : Qt}
theorem arr_7_61 {ks : List V} {data hd r : List UInt8} {bl : Nat} (hv : BufAt I bs v) (hn : 0 < ks.length) (ha : ArrE 7 ks 0x61 data) (hh : HeadE 0xe0 0xf0 ks.length hd (0x61 :: data)) (hdr : bs.drop off = hd ++ ((0x61 :: data) ++ r))
  (h : ∀ I' sv, I.le I' → Row 1 (fun (x : V) c => elemC I' 7 x.num x.text c) I' ks sv → bs.drop (off + (hd.length + 1 + data.length)) = r → Q .nilIface [[sv], bufC v (off + (hd.length + 1 + data.length))] [] I') :
  WP Tryz.prog 117 #[ptr bl, ptr b] [(bl, [.slice none 0 0]), (b, bufC v off)] [] I Q := by
 obtain ⟨hn1, hn2⟩ := head_pos hh
 have hsm := hv.small
 obtain ⟨ds, hf⟩ := arr_nonempty (w := 2) ha fun n t d he => by obtain ⟨y0, y1, rfl, _⟩ := inv_7_61 he; rfl
 have hdl := hf.dlen
 refine lw K117 [(0,1000),(1,1001)] _ Tryz.func117 ?_
 refine G ?_
 refine Cx [1001] ?_
 refine readArrayHeader_law hv hh hdr fun hr => ?_
 refine G ?_
 refine Cx [1001] ?_
 refine readType_law hv hr fun hr => ?_
 replace hr : bs.drop (off + hd.length + 1) = data ++ r := hr
 obtain ⟨t1, t2, t3⟩ := take_of_drop hr
 have hlen := congrArg List.length hr
 rw [List.length_drop, List.length_append] at hlen
 refine G ?_
 refine Cx [1001] ?_
 refine Next_law (n := ks.length * 2) hv (by omega) fun sv hsv => ?_
 rw [← hdl, t1] at hsv
 obtain ⟨base, cap, rfl⟩ := bytes_form hsv
 have hcap := (bytes_le hsv).2
 obtain ⟨vb, vo, rfl⟩ := bytes_some hsv (by omega)
 refine G ?_
 refine ⟨0, 0, rfl, rfl, by omega, by omega, ?_⟩
 intro sn hsn
 obtain rfl : sn = .slice none 0 0 := by rw [hsn]; rfl
 refine G ?_
 (first | (split; omega) | (split; rotate_left; omega)); refine G ?_
 refine ⟨by decide, ks.length, rfl, rfl, by omega, by rw [show ti211.bytes = 2 by kernel_rfl]; omega, fun bb => ?_⟩
 refine G ?_
 refine ⟨⟨[57, 11], [], [], fun m vs cs R J => ∃ (i : Nat) (css : List (List Value)), vs = [.int .i64 (i : Nat), .int .i64 ((i * 2 : Nat) : Int)] ∧ cs = [] ∧ i ≤ ks.length ∧ m = ks.length - i ∧ I = J ∧
   R = [(51, .vec (.slice (some ⟨bb, 0, none⟩) ks.length ks.length) 1 css.flatten)] ∧ AR 1 (fun (x : V) c => elemC I 7 x.num x.text c) ks i css, ks.length, _, _, rfl, rfl,
  ⟨0, List.replicate ks.length (vcells ti211.zero), rfl, rfl, by omega, rfl, rfl, rfl, .init rfl⟩, ?_⟩⟩
 rintro m vs cs R J hJ _ _ ⟨i, css, rfl, rfl, hi, rfl, rfl, rfl, har⟩
 refine G ?_
 split
 ·rename_i hlt _
  have hi' : i < ks.length := by omega
  have hid : i < ds.length := by rw [hf.len]; exact hi'
  obtain ⟨y0, y1, hd0, hs0⟩ := inv_7_61 (hf.enc i hi' hid)
  have := y0.toNat_lt
  have := y1.toNat_lt
  have hp : elemC I 7 ks[i].num ks[i].text [.int .i16 (IntKind.i16.wrap ((y1.toNat + y0.toNat * 256 : Nat) : Int))] := by
   refine elemC_of ?_ ?_ ?_ ?_ ?_ ?_ ?_ ?_ ?_ ?_ ?_ ?_ ?_ ?_ ?_ <;> intro hk <;> first | omega | skip
   rw [hs0]
  have hcut := bytes_cut hsv (l := i * 2) (u := i * 2 + 2) (by omega) (by omega)
  have g0 : ((data.drop (i * 2)).take (i * 2 + 2 - i * 2))[0]? = some y0 := by rw [List.getElem?_take_of_lt (by omega), List.getElem?_drop]; exact hf.get hid (by rw [hd0]; rfl)
  have g1 : ((data.drop (i * 2)).take (i * 2 + 2 - i * 2))[1]? = some y1 := by rw [List.getElem?_take_of_lt (by omega), List.getElem?_drop]; exact hf.get hid (by rw [hd0]; rfl)
  refine G ?_
  refine ⟨[0,1,2,3,4,5,6,7,8,9,10,11], [], [], [], by kernel_rfl, ?_⟩
  refine G ?_
  refine ⟨i * 2, i * 2 + 2, rfl, rfl, by omega, by omega, ?_⟩
  intro s1 hs1
  refine G ?_
  refine .inr ?_
  refine G ?_
  refine Uint16_law (hs1 ▸ hcut) g0 g1 ?_
  refine G ?_
  refine ⟨_, _, _, _, i, rfl, rfl, hi', ?_⟩
  refine G ?_
  refine .vec 51 _ _ 1 css.flatten rfl (by have := har.flen; show 0 + i * 1 + 1 ≤ css.flatten.length; omega) ?_
  refine G ?_
  have hsp := har.splice hi' (c := [.int .i16 (IntKind.i16.wrap ((y1.toNat + y0.toNat * 256 : Nat) : Int))]) rfl
  refine ⟨ks.length - (i + 1), _, _, by omega, rfl, rfl, rfl, rfl, .inl ⟨i + 1, css.set i [.int .i16 (IntKind.i16.wrap ((y1.toNat + y0.toNat * 256 : Nat) : Int))], (by rw [Nat.succ_mul]; rfl), rfl, hi', rfl, rfl, ?_, har.step hi' rfl hp⟩⟩
  rw [← hsp]
  show [(51, Res.vec _ _ (splice css.flatten (0 + i * 1) _))] = _
  rw [Nat.zero_add]; try rfl
 ·rename_i hge _
  obtain rfl : i = ks.length := by omega
  refine G ?_
  refine ⟨⟨[], [], [], [51], ?_⟩⟩
  intro J1 hJ1 ⟨n, hn, hsl⟩
  obtain rfl : ks.length = n := hn
  conv => whnf
  rw [show off + (hd.length + 1 + data.length) = off + hd.length + 1 + ks.length * 2 by omega] at h
  rw [hdl] at t3
  exact h J1 _ hJ1 (har.row (by omega) hsl fun x c h => h.mono hJ1) t3
end rd
theorem inv_10_72 {n : Nat} {t d : List UInt8} (h : EncS 10 n t (0x72 :: d)) : ∃ y0 y1 y2 y3, d = [y0, y1, y2, y3] ∧ n = y3.toNat + y2.toNat * 256 + y1.toNat * 65536 + y0.toNat * 16777216 := by
 generalize he : (0x72 : UInt8) :: d = e at h
 cases h with
 | float h =>
  cases h <;> first | exact ⟨_, _, _, _, cons_eq he, rfl⟩ | cases he
section rd
variable {I : Imm} {b : Nat} {bs : List UInt8} {v : Value} {off : Nat} {Q : Qt}
theorem arr_10_72 {ks : List V} {data hd r : List UInt8} {bl : Nat} (hv : BufAt I bs v) (hn : 0 < ks.length) (ha : ArrE 10 ks 0x72 data) (hh : HeadE 0xe0 0xf0 ks.length hd (0x72 :: data)) (hdr : bs.drop off = hd ++ ((0x72 :: data) ++ r))
  (h : ∀ I' sv, I.le I' → Row 1 (fun (x : V) c => elemC I' 10 x.num x.text c) I' ks sv → bs.drop (off + (hd.length + 1 + data.length)) = r → Q .nilIface [[sv], bufC v (off + (hd.length + 1 + data.length))] [] I') :
  WP Tryz.prog 122 #[ptr bl, ptr b] [(bl, [.slice none 0 0]), (b, bufC v off)] [] I Q := by
 obtain ⟨hn1, hn2⟩ := head_pos hh
 have hsm := hv.small
 obtain ⟨ds, hf⟩ := arr_nonempty (w := 4) ha fun n t d he => by obtain ⟨y0, y1, y2, y3, rfl, _⟩ := inv_10_72 he; rfl
 have hdl := hf.dlen
 refine lw K122 [(0,1000),(1,1001)] _ Tryz.func122 ?_
 refine G ?_
 refine Cx [1001] ?_
 refine readArrayHeader_law hv hh hdr fun hr => ?_
 refine G ?_
 refine Cx [1001] ?_
 refine readType_law hv hr fun hr => ?_
 replace hr : bs.drop (off + hd.length + 1) = data ++ r := hr
 obtain ⟨t1, t2, t3⟩ := take_of_drop hr
 have hlen := congrArg List.length hr
 rw [List.length_drop, List.length_append] at hlen
 refine G ?_
 refine Cx [1001] ?_
 refine Next_law (n := ks.length * 4) hv (by omega) fun sv hsv => ?_
 rw [← hdl, t1] at hsv
 obtain ⟨base, cap, rfl⟩ := bytes_form hsv
 have hcap := (bytes_le hsv).2
 obtain ⟨vb, vo, rfl⟩ := bytes_some hsv (by omega)
 refine G ?_
 refine ⟨0, 0, rfl, rfl, by omega, by omega, ?_⟩
 intro sn hsn
 obtain rfl : sn = .slice none 0 0 := by rw [hsn]; rfl
 refine G ?_
 (first | (split; omega) | (split; rotate_left; omega)); refine G ?_
 refine ⟨by decide, ks.length, rfl, rfl, by omega, by rw [show ti227.bytes = 4 by kernel_rfl]; omega, fun bb => ?_⟩
 refine G ?_
 refine ⟨⟨[58, 11], [], [], fun m vs cs R J => ∃ (i : Nat) (css : List (List Value)), vs = [.int .i64 (i : Nat), .int .i64 ((i * 4 : Nat) : Int)] ∧ cs = [] ∧ i ≤ ks.length ∧ m = ks.length - i ∧ I = J ∧
   R = [(52, .vec (.slice (some ⟨bb, 0, none⟩) ks.length ks.length) 1 css.flatten)] ∧ AR 1 (fun (x : V) c => elemC I 10 x.num x.text c) ks i css, ks.length, _, _, rfl, rfl,
  ⟨0, List.replicate ks.length (vcells ti227.zero), rfl, rfl, by omega, rfl, rfl, rfl, .init rfl⟩, ?_⟩⟩
 rintro m vs cs R J hJ _ _ ⟨i, css, rfl, rfl, hi, rfl, rfl, rfl, har⟩
 refine G ?_
 split
 ·rename_i hlt _
  have hi' : i < ks.length := by omega
  have hid : i < ds.length := by rw [hf.len]; exact hi'
  obtain ⟨y0, y1, y2, y3, hd0, hs0⟩ := inv_10_72 (hf.enc i hi' hid)
  have := y0.toNat_lt
  have := y1.toNat_lt
  have := y2.toNat_lt
  have := y3.toNat_lt
  have hp : elemC I 10 ks[i].num ks[i].text [.float .f32 (y3.toNat + y2.toNat * 256 + y1.toNat * 65536 + y0.toNat * 16777216)] := by
   refine elemC_of ?_ ?_ ?_ ?_ ?_ ?_ ?_ ?_ ?_ ?_ ?_ ?_ ?_ ?_ ?_ <;> intro hk <;> first | omega | skip
   rw [hs0]
  have hcut := bytes_cut hsv (l := i * 4) (u := data.length) (by omega) (by omega)
  have g0 : ((data.drop (i * 4)).take (data.length - i * 4))[0]? = some y0 := by rw [List.getElem?_take_of_lt (by omega), List.getElem?_drop]; exact hf.get hid (by rw [hd0]; rfl)
  have g1 : ((data.drop (i * 4)).take (data.length - i * 4))[1]? = some y1 := by rw [List.getElem?_take_of_lt (by omega), List.getElem?_drop]; exact hf.get hid (by rw [hd0]; rfl)
  have g2 : ((data.drop (i * 4)).take (data.length - i * 4))[2]? = some y2 := by rw [List.getElem?_take_of_lt (by omega), List.getElem?_drop]; exact hf.get hid (by rw [hd0]; rfl)
  have g3 : ((data.drop (i * 4)).take (data.length - i * 4))[3]? = some y3 := by rw [List.getElem?_take_of_lt (by omega), List.getElem?_drop]; exact hf.get hid (by rw [hd0]; rfl)
  refine G ?_
  refine ⟨[0,1,2,3,4,5], [], [], [], by kernel_rfl, ?_⟩
  refine G ?_
  refine ⟨i * 4, data.length, rfl, rfl, by omega, by omega, ?_⟩
  intro s1 hs1
  refine G ?_
  refine .inr ?_
  refine G ?_
  refine Uint32_law (hs1 ▸ hcut) g0 g1 g2 g3 ?_
  refine G ?_
  refine .inl ⟨_, f32_call _, ?_⟩
  refine G ?_
  refine ⟨_, _, _, _, i, rfl, rfl, hi', ?_⟩
  refine G ?_
  refine .vec 52 _ _ 1 css.flatten rfl (by have := har.flen; show 0 + i * 1 + 1 ≤ css.flatten.length; omega) ?_
  refine G ?_
  have hsp := har.splice hi' (c := [.float .f32 (y3.toNat + y2.toNat * 256 + y1.toNat * 65536 + y0.toNat * 16777216)]) rfl
  refine ⟨ks.length - (i + 1), _, _, by omega, rfl, rfl, rfl, rfl, .inl ⟨i + 1, css.set i [.float .f32 (y3.toNat + y2.toNat * 256 + y1.toNat * 65536 + y0.toNat * 16777216)], (by rw [Nat.succ_mul]; rfl), rfl, hi', rfl, rfl, ?_, har.step hi' rfl hp⟩⟩
  rw [← hsp]
  show [(52, Res.vec _ _ (splice css.flatten (0 + i * 1) _))] = _
  rw [Nat.zero_add]; try rfl
 ·rename_i hge _
  obtain rfl : i = ks.length := by omega
  refine G ?_
  refine ⟨⟨[], [], [], [52], ?_⟩⟩
  intro J1 hJ1 ⟨n, hn, hsl⟩
  obtain rfl : ks.length = n := hn
  conv => whnf
  rw [show off + (hd.length + 1 + data.length) = off + hd.length + 1 + ks.length * 4 by omega] at h
  rw [hdl] at t3
  exact h J1 _ hJ1 (har.row (by omega) hsl fun x c h => h.mono hJ1) t3
end rd
theorem inv_11_82 {n : Nat} {t d : List UInt8} (h : EncS 11 n t (0x82 :: d)) : ∃ y0 y1 y2 y3 y4 y5 y6 y7, d = [y0, y1, y2, y3, y4, y5, y6, y7] ∧ n = y7.toNat + y6.toNat * 256 + y5.toNat * 65536 + y4.toNat * 16777216 + y3.toNat * 4294967296 + y2.toNat * 1099511627776 + y1.toNat * 281474976710656 + y0.toNat * 72057594037927936 := by
 generalize he : (0x82 : UInt8) :: d = e at h
 cases h with
 | double h =>
  cases h <;> first | exact ⟨_, _, _, _, _, _, _, _, cons_eq he, rfl⟩ | cases he
section rd
variable {I : Imm} {b : Nat} {bs : List UInt8} {v : Value} {off : Nat} {Q : Qt}
theorem arr_11_82 {ks : List V} {data hd r : List UInt8} {bl : Nat} (hv : BufAt I bs v) (hn : 0 < ks.length) (ha : ArrE 11 ks 0x82 data) (hh : HeadE 0xe0 0xf0 ks.length hd (0x82 :: data)) (hdr : bs.drop off = hd ++ ((0x82 :: data) ++ r))
  (h : ∀ I' sv, I.le I' → Row 1 (fun (x : V) c => elemC I' 11 x.num x.text c) I' ks sv → bs.drop (off + (hd.length + 1 + data.length)) = r → Q .nilIface [[sv], bufC v (off + (hd.length + 1 + data.length))] [] I') :
  WP Tryz.prog 123 #[ptr bl, ptr b] [(bl, [.slice none 0 0]), (b, bufC v off)] [] I Q := by
 obtain ⟨hn1, hn2⟩ := head_pos hh
 have hsm := hv.small
 obtain ⟨ds, hf⟩ := arr_nonempty (w := 8) ha fun n t d he => by obtain ⟨y0, y1, y2, y3, y4, y5, y6, y7, rfl, _⟩ := inv_11_82 he; rfl
 have hdl := hf.dlen
 refine lw K123 [(0,1000),(1,1001)] _ Tryz.func123 ?_
 refine G ?_
 refine Cx [1001] ?_
 refine readArrayHeader_law hv hh hdr fun hr => ?_
 refine G ?_
 refine Cx [1001] ?_
 refine readType_law hv hr fun hr => ?_
 replace hr : bs.drop (off + hd.length + 1) = data ++ r := hr
 obtain ⟨t1, t2, t3⟩ := take_of_drop hr
 have hlen := congrArg List.length hr
 rw [List.length_drop, List.length_append] at hlen
 refine G ?_
 refine Cx [1001] ?_
 refine Next_law (n := ks.length * 8) hv (by omega) fun sv hsv => ?_
 rw [← hdl, t1] at hsv
 obtain ⟨base, cap, rfl⟩ := bytes_form hsv
 have hcap := (bytes_le hsv).2
 obtain ⟨vb, vo, rfl⟩ := bytes_some hsv (by omega)
 refine G ?_
 refine ⟨0, 0, rfl, rfl, by omega, by omega, ?_⟩
 intro sn hsn
 obtain rfl : sn = .slice none 0 0 := by rw [hsn]; rfl
 refine G ?_
 (first | (split; omega) | (split; rotate_left; omega)); refine G ?_
 refine ⟨by decide, ks.length, rfl, rfl, by omega, by rw [show ti231.bytes = 8 by kernel_rfl]; omega, fun bb => ?_⟩
 refine G ?_
 refine ⟨⟨[58, 11], [], [], fun m vs cs R J => ∃ (i : Nat) (css : List (List Value)), vs = [.int .i64 (i : Nat), .int .i64 ((i * 8 : Nat) : Int)] ∧ cs = [] ∧ i ≤ ks.length ∧ m = ks.length - i ∧ I = J ∧
   R = [(52, .vec (.slice (some ⟨bb, 0, none⟩) ks.length ks.length) 1 css.flatten)] ∧ AR 1 (fun (x : V) c => elemC I 11 x.num x.text c) ks i css, ks.length, _, _, rfl, rfl,
  ⟨0, List.replicate ks.length (vcells ti231.zero), rfl, rfl, by omega, rfl, rfl, rfl, .init rfl⟩, ?_⟩⟩
 rintro m vs cs R J hJ _ _ ⟨i, css, rfl, rfl, hi, rfl, rfl, rfl, har⟩
 refine G ?_
 split
 ·rename_i hlt _
  have hi' : i < ks.length := by omega
  have hid : i < ds.length := by rw [hf.len]; exact hi'
  obtain ⟨y0, y1, y2, y3, y4, y5, y6, y7, hd0, hs0⟩ := inv_11_82 (hf.enc i hi' hid)
  have := y0.toNat_lt
  have := y1.toNat_lt
  have := y2.toNat_lt
  have := y3.toNat_lt
  have := y4.toNat_lt
  have := y5.toNat_lt
  have := y6.toNat_lt
  have := y7.toNat_lt
  have hp : elemC I 11 ks[i].num ks[i].text [.float .f64 (y7.toNat + y6.toNat * 256 + y5.toNat * 65536 + y4.toNat * 16777216 + y3.toNat * 4294967296 + y2.toNat * 1099511627776 + y1.toNat * 281474976710656 + y0.toNat * 72057594037927936)] := by
   refine elemC_of ?_ ?_ ?_ ?_ ?_ ?_ ?_ ?_ ?_ ?_ ?_ ?_ ?_ ?_ ?_ <;> intro hk <;> first | omega | skip
   rw [hs0]
  have hcut := bytes_cut hsv (l := i * 8) (u := data.length) (by omega) (by omega)
  have g0 : ((data.drop (i * 8)).take (data.length - i * 8))[0]? = some y0 := by rw [List.getElem?_take_of_lt (by omega), List.getElem?_drop]; exact hf.get hid (by rw [hd0]; rfl)
  have g1 : ((data.drop (i * 8)).take (data.length - i * 8))[1]? = some y1 := by rw [List.getElem?_take_of_lt (by omega), List.getElem?_drop]; exact hf.get hid (by rw [hd0]; rfl)
  have g2 : ((data.drop (i * 8)).take (data.length - i * 8))[2]? = some y2 := by rw [List.getElem?_take_of_lt (by omega), List.getElem?_drop]; exact hf.get hid (by rw [hd0]; rfl)
  have g3 : ((data.drop (i * 8)).take (data.length - i * 8))[3]? = some y3 := by rw [List.getElem?_take_of_lt (by omega), List.getElem?_drop]; exact hf.get hid (by rw [hd0]; rfl)
  have g4 : ((data.drop (i * 8)).take (data.length - i * 8))[4]? = some y4 := by rw [List.getElem?_take_of_lt (by omega), List.getElem?_drop]; exact hf.get hid (by rw [hd0]; rfl)
  have g5 : ((data.drop (i * 8)).take (data.length - i * 8))[5]? = some y5 := by rw [List.getElem?_take_of_lt (by omega), List.getElem?_drop]; exact hf.get hid (by rw [hd0]; rfl)
  have g6 : ((data.drop (i * 8)).take (data.length - i * 8))[6]? = some y6 := by rw [List.getElem?_take_of_lt (by omega), List.getElem?_drop]; exact hf.get hid (by rw [hd0]; rfl)
  have g7 : ((data.drop (i * 8)).take (data.length - i * 8))[7]? = some y7 := by rw [List.getElem?_take_of_lt (by omega), List.getElem?_drop]; exact hf.get hid (by rw [hd0]; rfl)
  refine G ?_
  refine ⟨[0,1,2,3,4,5], [], [], [], by kernel_rfl, ?_⟩
  refine G ?_
  refine ⟨i * 8, data.length, rfl, rfl, by omega, by omega, ?_⟩
  intro s1 hs1
  refine G ?_
  refine .inr ?_
  refine G ?_
  refine Uint64_law (hs1 ▸ hcut) g0 g1 g2 g3 g4 g5 g6 g7 ?_
  refine G ?_
  refine .inl ⟨_, f64_call _, ?_⟩
  refine G ?_
  refine ⟨_, _, _, _, i, rfl, rfl, hi', ?_⟩
  refine G ?_
  refine .vec 52 _ _ 1 css.flatten rfl (by have := har.flen; show 0 + i * 1 + 1 ≤ css.flatten.length; omega) ?_
  refine G ?_
  have hsp := har.splice hi' (c := [.float .f64 (y7.toNat + y6.toNat * 256 + y5.toNat * 65536 + y4.toNat * 16777216 + y3.toNat * 4294967296 + y2.toNat * 1099511627776 + y1.toNat * 281474976710656 + y0.toNat * 72057594037927936)]) rfl
  refine ⟨ks.length - (i + 1), _, _, by omega, rfl, rfl, rfl, rfl, .inl ⟨i + 1, css.set i [.float .f64 (y7.toNat + y6.toNat * 256 + y5.toNat * 65536 + y4.toNat * 16777216 + y3.toNat * 4294967296 + y2.toNat * 1099511627776 + y1.toNat * 281474976710656 + y0.toNat * 72057594037927936)], (by rw [Nat.succ_mul]; rfl), rfl, hi', rfl, rfl, ?_, har.step hi' rfl hp⟩⟩
  rw [← hsp]
  show [(52, Res.vec _ _ (splice css.flatten (0 + i * 1) _))] = _
  rw [Nat.zero_add]; try rfl
 ·rename_i hge _
  obtain rfl : i = ks.length := by omega
  refine G ?_
  refine ⟨⟨[], [], [], [52], ?_⟩⟩
  intro J1 hJ1 ⟨n, hn, hsl⟩
  obtain rfl : ks.length = n := hn
  conv => whnf
  rw [show off + (hd.length + 1 + data.length) = off + hd.length + 1 + ks.length * 8 by omega] at h
  rw [hdl] at t3
  exact h J1 _ hJ1 (har.row (by omega) hsl fun x c h => h.mono hJ1) t3
end rd
theorem inv_4_43 {n : Nat} {t d : List UInt8} (h : EncS 4 n t (0x43 :: d)) : d = [] ∧ n = 0 := by
 generalize he : (0x43 : UInt8) :: d = e at h
 cases h with
 | uint h =>
  cases h <;> first | exact ⟨cons_eq he, rfl⟩ | cases he
section rd
variable {I : Imm} {b : Nat} {bs : List UInt8} {v : Value} {off : Nat} {Q : Qt}
theorem arr_4_43 {ks : List V} {data hd r : List UInt8} {bl : Nat} (hv : BufAt I bs v) (hn : 0 < ks.length) (ha : ArrE 4 ks 0x43 data) (hh : HeadE 0xe0 0xf0 ks.length hd (0x43 :: data)) (hdr : bs.drop off = hd ++ ((0x43 :: data) ++ r))
  (h : ∀ I' sv, I.le I' → Row 1 (fun (x : V) c => elemC I' 4 x.num x.text c) I' ks sv → bs.drop (off + (hd.length + 1 + data.length)) = r → Q .nilIface [[sv], bufC v (off + (hd.length + 1 + data.length))] [] I') :
  WP Tryz.prog 118 #[ptr bl, ptr b] [(bl, [.slice none 0 0]), (b, bufC v off)] [] I Q := by
 obtain ⟨hn1, hn2⟩ := head_pos hh
 have hsm := hv.small
 obtain ⟨ds, hf⟩ := arr_nonempty (w := 0) ha fun n t d he => by obtain ⟨rfl, _⟩ := inv_4_43 he; rfl
 have hdl := hf.dlen
 rw [Nat.mul_zero] at hdl
 obtain rfl : data = [] := List.eq_nil_of_length_eq_zero hdl
 have hone : ks.length = 1 := by simp only [List.length_cons, List.length_nil] at hn1; omega
 refine lw K118 [(0,1000),(1,1001)] _ Tryz.func118 ?_
 refine G ?_
 refine Cx [1001] ?_
 refine readArrayHeader_law hv hh hdr fun hr => ?_
 refine G ?_
 refine ⟨0, 0, rfl, rfl, by omega, by omega, ?_⟩
 intro sn hsn
 obtain rfl : sn = .slice none 0 0 := by rw [hsn]; rfl
 refine G ?_
 refine Cx [1001] ?_
 refine readType_law hv hr fun hr => ?_
 replace hr : bs.drop (off + hd.length + 1) = r := hr
 refine G ?_
 (first | (split; omega) | (split; rotate_left; omega)); refine G ?_
 refine ⟨by decide, ks.length, rfl, rfl, by omega, by rw [show ti43.bytes = 4 by kernel_rfl]; omega, fun bb => ?_⟩
 refine G ?_
 refine ⟨⟨[], [], [], [47], ?_⟩⟩
 intro J1 hJ1 ⟨n, hn3, hsl⟩
 obtain rfl : ks.length = n := hn3
 conv => whnf
 refine h J1 _ hJ1 ⟨by omega, List.replicate ks.length (vcells ti43.zero), hsl, by simp, fun i x c hx hc => ?_⟩ hr
 have hi : i < ks.length := (List.getElem?_eq_some_iff.1 hx).1
 have hid : i < ds.length := by rw [hf.len]; exact hi
 obtain ⟨hd0, hs0⟩ := inv_4_43 (hf.enc i hi hid)
 rw [List.getElem?_replicate, if_pos hi] at hc
 rw [List.getElem?_eq_getElem hi] at hx
 cases hx
 cases hc
 refine ⟨?_, rfl⟩
 refine elemC_of ?_ ?_ ?_ ?_ ?_ ?_ ?_ ?_ ?_ ?_ ?_ ?_ ?_ ?_ ?_ <;> intro hk <;> first | omega | skip
 rw [hs0]; rfl
end rd
theorem inv_4_52 {n : Nat} {t d : List UInt8} (h : EncS 4 n t (0x52 :: d)) : ∃ y0, d = [y0] ∧ n = y0.toNat := by
 generalize he : (0x52 : UInt8) :: d = e at h
 cases h with
 | uint h =>
  cases h <;> first | exact ⟨_, cons_eq he, rfl⟩ | cases he
section rd
variable {I : Imm} {b : Nat} {bs : List UInt8} {v : Value} {off : Nat} {Q : Qt}
theorem arr_4_52 {ks : List V} {data hd r : List UInt8} {bl : Nat} (hv : BufAt I bs v) (hn : 0 < ks.length) (ha : ArrE 4 ks 0x52 data) (hh : HeadE 0xe0 0xf0 ks.length hd (0x52 :: data)) (hdr : bs.drop off = hd ++ ((0x52 :: data) ++ r))
  (h : ∀ I' sv, I.le I' → Row 1 (fun (x : V) c => elemC I' 4 x.num x.text c) I' ks sv → bs.drop (off + (hd.length + 1 + data.length)) = r → Q .nilIface [[sv], bufC v (off + (hd.length + 1 + data.length))] [] I') :
  WP Tryz.prog 118 #[ptr bl, ptr b] [(bl, [.slice none 0 0]), (b, bufC v off)] [] I Q := by
 obtain ⟨hn1, hn2⟩ := head_pos hh
 have hsm := hv.small
 obtain ⟨ds, hf⟩ := arr_nonempty (w := 1) ha fun n t d he => by obtain ⟨y0, rfl, _⟩ := inv_4_52 he; rfl
 have hdl := hf.dlen
 rw [Nat.mul_one] at hdl
 refine lw K118 [(0,1000),(1,1001)] _ Tryz.func118 ?_
 refine G ?_
 refine Cx [1001] ?_
 refine readArrayHeader_law hv hh hdr fun hr => ?_
 refine G ?_
 refine ⟨0, 0, rfl, rfl, by omega, by omega, ?_⟩
 intro sn hsn
 obtain rfl : sn = .slice none 0 0 := by rw [hsn]; rfl
 refine G ?_
 refine Cx [1001] ?_
 refine readType_law hv hr fun hr => ?_
 replace hr : bs.drop (off + hd.length + 1) = data ++ r := hr
 obtain ⟨t1, t2, t3⟩ := take_of_drop hr
 have hlen := congrArg List.length hr
 rw [List.length_drop, List.length_append] at hlen
 refine G ?_
 refine Cx [1001] ?_
 refine Next_law (n := ks.length) hv (by omega) fun sv hsv => ?_
 rw [← hdl, t1] at hsv
 obtain ⟨base, cap, rfl⟩ := bytes_form hsv
 have hcap := (bytes_le hsv).2
 obtain ⟨vb, vo, rfl⟩ := bytes_some hsv (by omega)
 refine G ?_
 (first | (split; omega) | (split; rotate_left; omega)); refine G ?_
 refine ⟨by decide, ks.length, rfl, rfl, by omega, by rw [show ti43.bytes = 4 by kernel_rfl]; omega, fun bb => ?_⟩
 refine G ?_
 refine ⟨⟨[82], [], [], fun m vs cs R J => ∃ (i : Nat) (css : List (List Value)), vs = [.int .i64 (i : Nat)] ∧ cs = [] ∧ i ≤ ks.length ∧ m = ks.length - i ∧ I = J ∧
   R = [(76, .vec (.slice (some ⟨bb, 0, none⟩) ks.length ks.length) 1 css.flatten)] ∧ AR 1 (fun (x : V) c => elemC I 4 x.num x.text c) ks i css, ks.length, _, _, rfl, rfl,
  ⟨0, List.replicate ks.length (vcells ti43.zero), rfl, rfl, by omega, rfl, rfl, rfl, .init rfl⟩, ?_⟩⟩
 rintro m vs cs R J hJ _ _ ⟨i, css, rfl, rfl, hi, rfl, rfl, rfl, har⟩
 refine G ?_
 split
 ·rename_i hlt _
  have hi' : i < ks.length := by omega
  have hid : i < ds.length := by rw [hf.len]; exact hi'
  obtain ⟨y0, hd0, hs0⟩ := inv_4_52 (hf.enc i hi' hid)
  have := y0.toNat_lt
  have hp : elemC I 4 ks[i].num ks[i].text [.int .u32 ((y0.toNat : Nat) : Int)] := by
   refine elemC_of ?_ ?_ ?_ ?_ ?_ ?_ ?_ ?_ ?_ ?_ ?_ ?_ ?_ ?_ ?_ <;> intro hk <;> first | omega | skip
   rw [hs0]
  refine G ?_
  refine ⟨_, _, _, _, i, rfl, rfl, by omega, ?_⟩
  refine G ?_
  refine ⟨_, .imm (bytes_cell hsv (y := y0) (by have := hf.get (j := 0) hid (by rw [hd0]; rfl); simpa using this)), ?_⟩
  refine G ?_
  refine ⟨_, _, _, _, i, rfl, rfl, hi', ?_⟩
  refine G ?_
  refine .vec 76 _ _ 1 css.flatten rfl (by have := har.flen; show 0 + i * 1 + 1 ≤ css.flatten.length; omega) ?_
  refine G ?_
  have hsp := har.splice hi' (c := [.int .u32 ((y0.toNat : Nat) : Int)]) rfl
  refine ⟨ks.length - (i + 1), _, _, by omega, rfl, rfl, rfl, rfl, .inl ⟨i + 1, css.set i [.int .u32 ((y0.toNat : Nat) : Int)], rfl, rfl, hi', rfl, rfl, ?_, har.step hi' rfl hp⟩⟩
  rw [← hsp]
  show [(76, Res.vec _ _ (splice css.flatten (0 + i * 1) _))] = _
  rw [Nat.zero_add]; try rfl
 ·rename_i hge _
  obtain rfl : i = ks.length := by omega
  refine G ?_
  refine ⟨⟨[], [], [], [76], ?_⟩⟩
  intro J1 hJ1 ⟨n, hn, hsl⟩
  obtain rfl : ks.length = n := hn
  conv => whnf
  rw [show off + (hd.length + 1 + data.length) = off + hd.length + 1 + ks.length by omega] at h
  rw [hdl] at t3
  exact h J1 _ hJ1 (har.row (by omega) hsl fun x c h => h.mono hJ1) t3
end rd
theorem inv_4_70 {n : Nat} {t d : List UInt8} (h : EncS 4 n t (0x70 :: d)) : ∃ y0 y1 y2 y3, d = [y0, y1, y2, y3] ∧ n = y3.toNat + y2.toNat * 256 + y1.toNat * 65536 + y0.toNat * 16777216 := by
 generalize he : (0x70 : UInt8) :: d = e at h
 cases h with
 | uint h =>
  cases h <;> first | exact ⟨_, _, _, _, cons_eq he, rfl⟩ | cases he
section rd
variable {I : Imm} {b : Nat} {bs : List UInt8} {v : Value} {off : Nat} {Q : Qt}
theorem arr_4_70 {ks : List V} {data hd r : List UInt8} {bl : Nat} (hv : BufAt I bs v) (hn : 0 < ks.length) (ha : ArrE 4 ks 0x70 data) (hh : HeadE 0xe0 0xf0 ks.length hd (0x70 :: data)) (hdr : bs.drop off = hd ++ ((0x70 :: data) ++ r))
  (h : ∀ I' sv, I.le I' → Row 1 (fun (x : V) c => elemC I' 4 x.num x.text c) I' ks sv → bs.drop (off + (hd.length + 1 + data.length)) = r → Q .nilIface [[sv], bufC v (off + (hd.length + 1 + data.length))] [] I') :
  WP Tryz.prog 118 #[ptr bl, ptr b] [(bl, [.slice none 0 0]), (b, bufC v off)] [] I Q := by
 obtain ⟨hn1, hn2⟩ := head_pos hh
 have hsm := hv.small
 obtain ⟨ds, hf⟩ := arr_nonempty (w := 4) ha fun n t d he => by obtain ⟨y0, y1, y2, y3, rfl, _⟩ := inv_4_70 he; rfl
 have hdl := hf.dlen
 refine lw K118 [(0,1000),(1,1001)] _ Tryz.func118 ?_
 refine G ?_
 refine Cx [1001] ?_
 refine readArrayHeader_law hv hh hdr fun hr => ?_
 refine G ?_
 refine ⟨0, 0, rfl, rfl, by omega, by omega, ?_⟩
 intro sn hsn
 obtain rfl : sn = .slice none 0 0 := by rw [hsn]; rfl
 refine G ?_
 refine Cx [1001] ?_
 refine readType_law hv hr fun hr => ?_
 replace hr : bs.drop (off + hd.length + 1) = data ++ r := hr
 obtain ⟨t1, t2, t3⟩ := take_of_drop hr
 have hlen := congrArg List.length hr
 rw [List.length_drop, List.length_append] at hlen
 refine G ?_
 refine Cx [1001] ?_
 refine Next_law (n := ks.length * 4) hv (by omega) fun sv hsv => ?_
 rw [← hdl, t1] at hsv
 obtain ⟨base, cap, rfl⟩ := bytes_form hsv
 have hcap := (bytes_le hsv).2
 obtain ⟨vb, vo, rfl⟩ := bytes_some hsv (by omega)
 refine G ?_
 (first | (split; omega) | (split; rotate_left; omega)); refine G ?_
 refine ⟨by decide, ks.length, rfl, rfl, by omega, by rw [show ti43.bytes = 4 by kernel_rfl]; omega, fun bb => ?_⟩
 refine G ?_
 refine ⟨⟨[116, 16], [], [], fun m vs cs R J => ∃ (i : Nat) (css : List (List Value)), vs = [.int .i64 (i : Nat), .int .i64 ((i * 4 : Nat) : Int)] ∧ cs = [] ∧ i ≤ ks.length ∧ m = ks.length - i ∧ I = J ∧
   R = [(110, .vec (.slice (some ⟨bb, 0, none⟩) ks.length ks.length) 1 css.flatten)] ∧ AR 1 (fun (x : V) c => elemC I 4 x.num x.text c) ks i css, ks.length, _, _, rfl, rfl,
  ⟨0, List.replicate ks.length (vcells ti43.zero), rfl, rfl, by omega, rfl, rfl, rfl, .init rfl⟩, ?_⟩⟩
 rintro m vs cs R J hJ _ _ ⟨i, css, rfl, rfl, hi, rfl, rfl, rfl, har⟩
 refine G ?_
 split
 ·rename_i hlt _
  have hi' : i < ks.length := by omega
  have hid : i < ds.length := by rw [hf.len]; exact hi'
  obtain ⟨y0, y1, y2, y3, hd0, hs0⟩ := inv_4_70 (hf.enc i hi' hid)
  have := y0.toNat_lt
  have := y1.toNat_lt
  have := y2.toNat_lt
  have := y3.toNat_lt
  have hp : elemC I 4 ks[i].num ks[i].text [.int .u32 ((y3.toNat + y2.toNat * 256 + y1.toNat * 65536 + y0.toNat * 16777216 : Nat) : Int)] := by
   refine elemC_of ?_ ?_ ?_ ?_ ?_ ?_ ?_ ?_ ?_ ?_ ?_ ?_ ?_ ?_ ?_ <;> intro hk <;> first | omega | skip
   rw [hs0]
  have hcut := bytes_cut hsv (l := i * 4) (u := i * 4 + 4) (by omega) (by omega)
  have g0 : ((data.drop (i * 4)).take (i * 4 + 4 - i * 4))[0]? = some y0 := by rw [List.getElem?_take_of_lt (by omega), List.getElem?_drop]; exact hf.get hid (by rw [hd0]; rfl)
  have g1 : ((data.drop (i * 4)).take (i * 4 + 4 - i * 4))[1]? = some y1 := by rw [List.getElem?_take_of_lt (by omega), List.getElem?_drop]; exact hf.get hid (by rw [hd0]; rfl)
  have g2 : ((data.drop (i * 4)).take (i * 4 + 4 - i * 4))[2]? = some y2 := by rw [List.getElem?_take_of_lt (by omega), List.getElem?_drop]; exact hf.get hid (by rw [hd0]; rfl)
  have g3 : ((data.drop (i * 4)).take (i * 4 + 4 - i * 4))[3]? = some y3 := by rw [List.getElem?_take_of_lt (by omega), List.getElem?_drop]; exact hf.get hid (by rw [hd0]; rfl)
  refine G ?_
  refine ⟨[0,1,2,3,4,5,6,7,8,9,10], [], [], [], by kernel_rfl, ?_⟩
  refine G ?_
  refine ⟨i * 4, i * 4 + 4, rfl, rfl, by omega, by omega, ?_⟩
  intro s1 hs1
  refine G ?_
  refine .inr ?_
  refine G ?_
  refine Uint32_law (hs1 ▸ hcut) g0 g1 g2 g3 ?_
  refine G ?_
  refine ⟨_, _, _, _, i, rfl, rfl, hi', ?_⟩
  refine G ?_
  refine .vec 110 _ _ 1 css.flatten rfl (by have := har.flen; show 0 + i * 1 + 1 ≤ css.flatten.length; omega) ?_
  refine G ?_
  have hsp := har.splice hi' (c := [.int .u32 ((y3.toNat + y2.toNat * 256 + y1.toNat * 65536 + y0.toNat * 16777216 : Nat) : Int)]) rfl
  refine ⟨ks.length - (i + 1), _, _, by omega, rfl, rfl, rfl, rfl, .inl ⟨i + 1, css.set i [.int .u32 ((y3.toNat + y2.toNat * 256 + y1.toNat * 65536 + y0.toNat * 16777216 : Nat) : Int)], (by rw [Nat.succ_mul]; rfl), rfl, hi', rfl, rfl, ?_, har.step hi' rfl hp⟩⟩
  rw [← hsp]
  show [(110, Res.vec _ _ (splice css.flatten (0 + i * 1) _))] = _
  rw [Nat.zero_add]; try rfl
 ·rename_i hge _
  obtain rfl : i = ks.length := by omega
  refine G ?_
  refine ⟨⟨[], [], [], [110], ?_⟩⟩
  intro J1 hJ1 ⟨n, hn, hsl⟩
  obtain rfl : ks.length = n := hn
  conv => whnf
  rw [show off + (hd.length + 1 + data.length) = off + hd.length + 1 + ks.length * 4 by omega] at h
  rw [hdl] at t3
  exact h J1 _ hJ1 (har.row (by omega) hsl fun x c h => h.mono hJ1) t3
end rd
theorem inv_8_54 {n : Nat} {t d : List UInt8} (h : EncS 8 n t (0x54 :: d)) : ∃ y0, d = [y0] ∧ sg n = IntKind.i32.wrap (IntKind.i8.wrap ((y0.toNat : Nat) : Int)) := by
 generalize he : (0x54 : UInt8) :: d = e at h
 cases h with
 | int h =>
  generalize sg n = m at h
  cases h <;> first | exact ⟨_, cons_eq he, rfl⟩ | cases he
section rd
variable {I : Imm} {b : Nat} {bs : List UInt8} {v : Value} {off : Nat} {Q : Qt}
theorem arr_8_54 {ks : List V} {data hd r : List UInt8} {bl : Nat} (hv : BufAt I bs v) (hn : 0 < ks.length) (ha : ArrE 8 ks 0x54 data) (hh : HeadE 0xe0 0xf0 ks.length hd (0x54 :: data)) (hdr : bs.drop off = hd ++ ((0x54 :: data) ++ r))
  (h : ∀ I' sv, I.le I' → Row 1 (fun (x : V) c => elemC I' 8 x.num x.text c) I' ks sv → bs.drop (off + (hd.length + 1 + data.length)) = r → Q .nilIface [[sv], bufC v (off + (hd.length + 1 + data.length))] [] I') :
  WP Tryz.prog 119 #[ptr bl, ptr b] [(bl, [.slice none 0 0]), (b, bufC v off)] [] I Q := by
 obtain ⟨hn1, hn2⟩ := head_pos hh
 have hsm := hv.small
 obtain ⟨ds, hf⟩ := arr_nonempty (w := 1) ha fun n t d he => by obtain ⟨y0, rfl, _⟩ := inv_8_54 he; rfl
 have hdl := hf.dlen
 rw [Nat.mul_one] at hdl
 refine lw K119 [(0,1000),(1,1001)] _ Tryz.func119 ?_
 refine G ?_
 refine Cx [1001] ?_
 refine readArrayHeader_law hv hh hdr fun hr => ?_
 refine G ?_
 refine ⟨0, 0, rfl, rfl, by omega, by omega, ?_⟩
 intro sn hsn
 obtain rfl : sn = .slice none 0 0 := by rw [hsn]; rfl
 refine G ?_
 refine Cx [1001] ?_
 refine readType_law hv hr fun hr => ?_
 replace hr : bs.drop (off + hd.length + 1) = data ++ r := hr
 obtain ⟨t1, t2, t3⟩ := take_of_drop hr
 have hlen := congrArg List.length hr
 rw [List.length_drop, List.length_append] at hlen
 refine G ?_
 refine Cx [1001] ?_
 refine Next_law (n := ks.length) hv (by omega) fun sv hsv => ?_
 rw [← hdl, t1] at hsv
 obtain ⟨base, cap, rfl⟩ := bytes_form hsv
 have hcap := (bytes_le hsv).2
 obtain ⟨vb, vo, rfl⟩ := bytes_some hsv (by omega)
 refine G ?_
 (first | (split; omega) | (split; rotate_left; omega)); refine G ?_
 refine ⟨by decide, ks.length, rfl, rfl, by omega, by rw [show ti21.bytes = 4 by kernel_rfl]; omega, fun bb => ?_⟩
 refine G ?_
 refine ⟨⟨[61], [], [], fun m vs cs R J => ∃ (i : Nat) (css : List (List Value)), vs = [.int .i64 (i : Nat)] ∧ cs = [] ∧ i ≤ ks.length ∧ m = ks.length - i ∧ I = J ∧
   R = [(55, .vec (.slice (some ⟨bb, 0, none⟩) ks.length ks.length) 1 css.flatten)] ∧ AR 1 (fun (x : V) c => elemC I 8 x.num x.text c) ks i css, ks.length, _, _, rfl, rfl,
  ⟨0, List.replicate ks.length (vcells ti21.zero), rfl, rfl, by omega, rfl, rfl, rfl, .init rfl⟩, ?_⟩⟩
 rintro m vs cs R J hJ _ _ ⟨i, css, rfl, rfl, hi, rfl, rfl, rfl, har⟩
 refine G ?_
 split
 ·rename_i hlt _
  have hi' : i < ks.length := by omega
  have hid : i < ds.length := by rw [hf.len]; exact hi'
  obtain ⟨y0, hd0, hs0⟩ := inv_8_54 (hf.enc i hi' hid)
  have := y0.toNat_lt
  have hp : elemC I 8 ks[i].num ks[i].text [.int .i32 (IntKind.i32.wrap (IntKind.i8.wrap ((y0.toNat : Nat) : Int)))] := by
   refine elemC_of ?_ ?_ ?_ ?_ ?_ ?_ ?_ ?_ ?_ ?_ ?_ ?_ ?_ ?_ ?_ <;> intro hk <;> first | omega | skip
   rw [hs0]
  refine G ?_
  refine ⟨_, _, _, _, i, rfl, rfl, by omega, ?_⟩
  refine G ?_
  refine ⟨_, .imm (bytes_cell hsv (y := y0) (by have := hf.get (j := 0) hid (by rw [hd0]; rfl); simpa using this)), ?_⟩
  refine G ?_
  refine ⟨_, _, _, _, i, rfl, rfl, hi', ?_⟩
  refine G ?_
  refine .vec 55 _ _ 1 css.flatten rfl (by have := har.flen; show 0 + i * 1 + 1 ≤ css.flatten.length; omega) ?_
  refine G ?_
  have hsp := har.splice hi' (c := [.int .i32 (IntKind.i32.wrap (IntKind.i8.wrap ((y0.toNat : Nat) : Int)))]) rfl
  refine ⟨ks.length - (i + 1), _, _, by omega, rfl, rfl, rfl, rfl, .inl ⟨i + 1, css.set i [.int .i32 (IntKind.i32.wrap (IntKind.i8.wrap ((y0.toNat : Nat) : Int)))], rfl, rfl, hi', rfl, rfl, ?_, har.step hi' rfl hp⟩⟩
  rw [← hsp]
  show [(55, Res.vec _ _ (splice css.flatten (0 + i * 1) _))] = _
  rw [Nat.zero_add]; try rfl
 ·rename_i hge _
  obtain rfl : i = ks.length := by omega
  refine G ?_
  refine ⟨⟨[], [], [], [55], ?_⟩⟩
  intro J1 hJ1 ⟨n, hn, hsl⟩
  obtain rfl : ks.length = n := hn
  conv => whnf
  rw [show off + (hd.length + 1 + data.length) = off + hd.length + 1 + ks.length by omega] at h
  rw [hdl] at t3
  exact h J1 _ hJ1 (har.row (by omega) hsl fun x c h => h.mono hJ1) t3
end rd
theorem inv_8_71 {n : Nat} {t d : List UInt8} (h : EncS 8 n t (0x71 :: d)) : ∃ y0 y1 y2 y3, d = [y0, y1, y2, y3] ∧ sg n = IntKind.i32.wrap ((y3.toNat + y2.toNat * 256 + y1.toNat * 65536 + y0.toNat * 16777216 : Nat) : Int) := by
 generalize he : (0x71 : UInt8) :: d = e at h
 cases h with
 | int h =>
  generalize sg n = m at h
  cases h <;> first | exact ⟨_, _, _, _, cons_eq he, rfl⟩ | cases he
section rd
variable {I : Imm} {b : Nat} {bs : List UInt8} {v : Value} {off : Nat} {Q : Qt}
theorem arr_8_71 {ks : List V} {data hd r : List UInt8} {bl : Nat} (hv : BufAt I bs v) (hn : 0 < ks.length) (ha : ArrE 8 ks 0x71 data) (hh : HeadE 0xe0 0xf0 ks.length hd (0x71 :: data)) (hdr : bs.drop off = hd ++ ((0x71 :: data) ++ r))
  (h : ∀ I' sv, I.le I' → Row 1 (fun (x : V) c => elemC I' 8 x.num x.text c) I' ks sv → bs.drop (off + (hd.length + 1 + data.length)) = r → Q .nilIface [[sv], bufC v (off + (hd.length + 1 + data.length))] [] I') :
  WP Tryz.prog 119 #[ptr bl, ptr b] [(bl, [.slice none 0 0]), (b, bufC v off)] [] I Q := by
 obtain ⟨hn1, hn2⟩ := head_pos hh
 have hsm := hv.small
 obtain ⟨ds, hf⟩ := arr_nonempty (w := 4) ha fun n t d he => by obtain ⟨y0, y1, y2, y3, rfl, _⟩ := inv_8_71 he; rfl
 have hdl := hf.dlen
 refine lw K119 [(0,1000),(1,1001)] _ Tryz.func119 ?_
 refine G ?_
 refine Cx [1001] ?_
 refine readArrayHeader_law hv hh hdr fun hr => ?_
 refine G ?_
 refine ⟨0, 0, rfl, rfl, by omega, by omega, ?_⟩
 intro sn hsn
 obtain rfl : sn = .slice none 0 0 := by rw [hsn]; rfl
 refine G ?_
 refine Cx [1001] ?_
 refine readType_law hv hr fun hr => ?_
 replace hr : bs.drop (off + hd.length + 1) = data ++ r := hr
 obtain ⟨t1, t2, t3⟩ := take_of_drop hr
 have hlen := congrArg List.length hr
 rw [List.length_drop, List.length_append] at hlen
 refine G ?_
 refine Cx [1001] ?_
 refine Next_law (n := ks.length * 4) hv (by omega) fun sv hsv => ?_
 rw [← hdl, t1] at hsv
 obtain ⟨base, cap, rfl⟩ := bytes_form hsv
 have hcap := (bytes_le hsv).2
 obtain ⟨vb, vo, rfl⟩ := bytes_some hsv (by omega)
 refine G ?_
 (first | (split; omega) | (split; rotate_left; omega)); refine G ?_
 refine ⟨by decide, ks.length, rfl, rfl, by omega, by rw [show ti21.bytes = 4 by kernel_rfl]; omega, fun bb => ?_⟩
 refine G ?_
 refine ⟨⟨[96, 15], [], [], fun m vs cs R J => ∃ (i : Nat) (css : List (List Value)), vs = [.int .i64 (i : Nat), .int .i64 ((i * 4 : Nat) : Int)] ∧ cs = [] ∧ i ≤ ks.length ∧ m = ks.length - i ∧ I = J ∧
   R = [(90, .vec (.slice (some ⟨bb, 0, none⟩) ks.length ks.length) 1 css.flatten)] ∧ AR 1 (fun (x : V) c => elemC I 8 x.num x.text c) ks i css, ks.length, _, _, rfl, rfl,
  ⟨0, List.replicate ks.length (vcells ti21.zero), rfl, rfl, by omega, rfl, rfl, rfl, .init rfl⟩, ?_⟩⟩
 rintro m vs cs R J hJ _ _ ⟨i, css, rfl, rfl, hi, rfl, rfl, rfl, har⟩
 refine G ?_
 split
 ·rename_i hlt _
  have hi' : i < ks.length := by omega
  have hid : i < ds.length := by rw [hf.len]; exact hi'
  obtain ⟨y0, y1, y2, y3, hd0, hs0⟩ := inv_8_71 (hf.enc i hi' hid)
  have := y0.toNat_lt
  have := y1.toNat_lt
  have := y2.toNat_lt
  have := y3.toNat_lt
  have hp : elemC I 8 ks[i].num ks[i].text [.int .i32 (IntKind.i32.wrap ((y3.toNat + y2.toNat * 256 + y1.toNat * 65536 + y0.toNat * 16777216 : Nat) : Int))] := by
   refine elemC_of ?_ ?_ ?_ ?_ ?_ ?_ ?_ ?_ ?_ ?_ ?_ ?_ ?_ ?_ ?_ <;> intro hk <;> first | omega | skip
   rw [hs0]
  have hcut := bytes_cut hsv (l := i * 4) (u := data.length) (by omega) (by omega)
  have g0 : ((data.drop (i * 4)).take (data.length - i * 4))[0]? = some y0 := by rw [List.getElem?_take_of_lt (by omega), List.getElem?_drop]; exact hf.get hid (by rw [hd0]; rfl)
  have g1 : ((data.drop (i * 4)).take (data.length - i * 4))[1]? = some y1 := by rw [List.getElem?_take_of_lt (by omega), List.getElem?_drop]; exact hf.get hid (by rw [hd0]; rfl)
  have g2 : ((data.drop (i * 4)).take (data.length - i * 4))[2]? = some y2 := by rw [List.getElem?_take_of_lt (by omega), List.getElem?_drop]; exact hf.get hid (by rw [hd0]; rfl)
  have g3 : ((data.drop (i * 4)).take (data.length - i * 4))[3]? = some y3 := by rw [List.getElem?_take_of_lt (by omega), List.getElem?_drop]; exact hf.get hid (by rw [hd0]; rfl)
  refine G ?_
  refine ⟨[0,1,2,3,4,5,6,7,8,9], [], [], [], by kernel_rfl, ?_⟩
  refine G ?_
  refine ⟨i * 4, data.length, rfl, rfl, by omega, by omega, ?_⟩
  intro s1 hs1
  refine G ?_
  refine .inr ?_
  refine G ?_
  refine Uint32_law (hs1 ▸ hcut) g0 g1 g2 g3 ?_
  refine G ?_
  refine ⟨_, _, _, _, i, rfl, rfl, hi', ?_⟩
  refine G ?_
  refine .vec 90 _ _ 1 css.flatten rfl (by have := har.flen; show 0 + i * 1 + 1 ≤ css.flatten.length; omega) ?_
  refine G ?_
  have hsp := har.splice hi' (c := [.int .i32 (IntKind.i32.wrap ((y3.toNat + y2.toNat * 256 + y1.toNat * 65536 + y0.toNat * 16777216 : Nat) : Int))]) rfl
  refine ⟨ks.length - (i + 1), _, _, by omega, rfl, rfl, rfl, rfl, .inl ⟨i + 1, css.set i [.int .i32 (IntKind.i32.wrap ((y3.toNat + y2.toNat * 256 + y1.toNat * 65536 + y0.toNat * 16777216 : Nat) : Int))], (by rw [Nat.succ_mul]; rfl), rfl, hi', rfl, rfl, ?_, har.step hi' rfl hp⟩⟩
  rw [← hsp]
  show [(90, Res.vec _ _ (splice css.flatten (0 + i * 1) _))] = _
  rw [Nat.zero_add]; try rfl
 ·rename_i hge _
  obtain rfl : i = ks.length := by omega
  refine G ?_
  refine ⟨⟨[], [], [], [90], ?_⟩⟩
  intro J1 hJ1 ⟨n, hn, hsl⟩
  obtain rfl : ks.length = n := hn
  conv => whnf
  rw [show off + (hd.length + 1 + data.length) = off + hd.length + 1 + ks.length * 4 by omega] at h
  rw [hdl] at t3
  exact h J1 _ hJ1 (har.row (by omega) hsl fun x c h => h.mono hJ1) t3
end rd
end Go.Proofs.YtcfglgelckjpmaaGreatDoor
