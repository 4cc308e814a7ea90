/- Own machinery, and laws of the functions that the statement reaches (part 32). -/
import Derived.Test.YtcfglgelckjpmaaGreatDoorB23
import Derived.Test.YtcfglgelckjpmaaGreatDoorB27
set_option linter.all false
namespace Go.Proofs.YtcfglgelckjpmaaGreatDoor
set_option maxRecDepth 100000
set_option maxHeartbeats 4000000
section tm
variable {I : Imm} {Q : Qt}
def IdleOk (n : Int) : Prop := 0 ≤ n ∧ n.tmod 1000000 = 0 ∧ n.tdiv 1000000 < 4294967296
theorem whole_test {n : Int} (hn : -9223372036854775808 ≤ n ∧ n < 9223372036854775808) (h : ∀ r : Bool, (r = true → IdleOk n) → Q (.bool r) [] [] I) : WP Tryz.prog 46 #[.int .i64 n] [] [] I Q := by
 have hd : -9223372036854775808 ≤ n.tdiv 1000000 ∧ n.tdiv 1000000 < 9223372036854775808 := by
  have h1 : (n.tdiv 1000000).natAbs = n.natAbs / 1000000 := Int.natAbs_tdiv n 1000000
  omega
 refine lw K46 [] _ Tryz.func46 ?_
 refine G ?_
 split
 ·rename_i h0 _
  refine G ?_
  refine ⟨by decide, _, rfl, ?_⟩
  refine G ?_
  split
  ·rename_i h1 _
   refine G ?_
   refine ⟨by decide, _, w64 hd, ?_⟩
   refine G ?_
   split
   ·rename_i h2 _
    refine G ?_
    refine L0 ?_
    exact h true fun _ => ⟨h0, h1, h2⟩
   ·refine G ?_
    refine L0 ?_
    exact h false (by simp)
  ·refine G ?_
   refine L0 ?_
   exact h false (by simp)
 ·refine G ?_
  refine L0 ?_
  exact h false (by simp)
theorem zzFits2_law {l : List (List UInt8)} {v : Value} (hl : Row 1 StrRep I l v) (h : ∀ r : Bool, Q (.bool r) [] [] I) : WP Tryz.prog 37 #[v] [] [] I Q := by
 obtain ⟨base, cap, rfl⟩ := Row.form hl
 have hll := hl.1
 refine lw K37 [] [.slice base l.length cap] Tryz.func37 ?_
 refine G ?_
 split
 ·refine G ?_
  refine L0 ?_
  exact h false
 refine G ?_
 refine ⟨⟨[10], [], [], fun m vs cs R J => ∃ i : Nat, vs = [.int .i64 (i : Nat)] ∧ cs = [] ∧ R = [] ∧ J = I ∧ i ≤ l.length ∧ m = l.length - i, l.length, _, _, rfl, rfl, ⟨0, rfl, rfl, rfl, rfl, by omega, rfl⟩, ?_⟩⟩
 rintro m vs cs R J hJ _ _ ⟨i, rfl, rfl, rfl, rfl, hi, rfl⟩
 clear hJ
 refine G ?_
 split
 ·rename_i hlt _
  have hi' : i < l.length := by omega
  have hg : l[i]? = some l[i] := by simp [hi']
  obtain ⟨vb, vo, rfl, _⟩ := Row.some hl (by omega)
  obtain ⟨c, ⟨rfl, hs⟩, _, hcc⟩ := Row.get hl hg
  refine G ?_
  refine ⟨_, _, _, _, i, rfl, rfl, hi', ?_⟩
  refine G ?_
  refine ⟨_, .imm hcc, ?_⟩
  refine G ?_
  split
  ·refine G ?_
   refine L0 ?_
   exact h false
  ·refine G ?_
   refine ⟨l.length - (i + 1), _, _, by omega, rfl, rfl, rfl, rfl, .inl ⟨i + 1, rfl, rfl, rfl, rfl, hi', rfl⟩⟩
 ·refine G ?_
  refine L0 ?_
  exact h true
def FullL (l : List (List UInt8)) : Prop := ∀ s ∈ l, s ≠ []
def ListsRep (I : Imm) (l : List (List UInt8)) (c : List Value) : Prop := ∃ v, c = [v] ∧ Row 1 StrRep I l v
theorem full_law {ls : List (List (List UInt8))} {w : Value} (hw : Row 1 (ListsRep I) I ls w) (h : ∀ r : Bool, (r = true → ∀ l ∈ ls, FullL l) → Q (.bool r) [] [] I) : WP Tryz.prog 47 #[w] [] [] I Q := by
 obtain ⟨base, cap, rfl⟩ := Row.form hw
 have hll := hw.1
 refine lw K47 [] [.slice base ls.length cap] Tryz.func47 ?_
 refine G ?_
 refine ⟨⟨[9], [], [], fun m vs cs R J => ∃ i : Nat, vs = [.int .i64 (i : Nat)] ∧ cs = [] ∧ R = [] ∧ J = I ∧ i ≤ ls.length ∧ m = ls.length - i ∧ ∀ (j : Nat) (l : List (List UInt8)), j < i → ls[j]? = some l → FullL l, ls.length, _, _, rfl, rfl, ⟨0, rfl, rfl, rfl, rfl, by omega, rfl, fun j l hj => by omega⟩, ?_⟩⟩
 rintro m vs cs R J hJ _ _ ⟨i, rfl, rfl, rfl, rfl, hi, rfl, hall⟩
 clear hJ
 refine G ?_
 split
 ·rename_i hlt _
  have hi' : i < ls.length := by omega
  have hg : ls[i]? = some ls[i] := by simp [hi']
  obtain ⟨vb, vo, rfl, _⟩ := Row.some hw (by omega)
  obtain ⟨c, ⟨v, rfl, hl⟩, _, hcc⟩ := Row.get hw hg
  generalize ls[i] = l at hg hl
  obtain ⟨lb, lc, rfl⟩ := Row.form hl
  have hl1 := hl.1
  refine G ?_
  refine ⟨_, _, _, _, i, rfl, rfl, hi', ?_⟩
  refine G ?_
  refine ⟨_, .imm hcc, ?_⟩
  refine G ?_
  refine ⟨⟨[15], [], [], fun m vs cs R J2 => ∃ q : Nat, vs = [.int .i64 (q : Nat)] ∧ cs = [] ∧ R = [] ∧ J2 = J ∧ q ≤ l.length ∧ m = l.length - q ∧ ∀ (j : Nat) (s : List UInt8), j < q → l[j]? = some s → s ≠ [], l.length, _, _, rfl, rfl, ⟨0, rfl, rfl, rfl, rfl, by omega, rfl, fun j l hj => by omega⟩, ?_⟩⟩
  rintro m vs cs R J2 hJ2 _ _ ⟨q, rfl, rfl, rfl, rfl, hq, rfl, hin⟩
  clear hJ2
  refine G ?_
  split
  ·rename_i hlt2 _
   have hq' : q < l.length := by omega
   have hg2 : l[q]? = some l[q] := by simp [hq']
   obtain ⟨ub, uo, rfl, _⟩ := Row.some hl (by omega)
   obtain ⟨c2, ⟨rfl, _⟩, _, hcc2⟩ := Row.get hl hg2
   refine G ?_
   refine ⟨_, _, _, _, q, rfl, rfl, hq', ?_⟩
   refine G ?_
   refine ⟨_, .imm hcc2, ?_⟩
   refine G ?_
   split
   ·refine G ?_
    refine L0 ?_
    exact h false (by simp)
   ·rename_i hne _
    refine G ?_
    refine ⟨l.length - (q + 1), _, _, by omega, rfl, rfl, rfl, rfl, .inl ⟨q + 1, rfl, rfl, rfl, rfl, hq', rfl, fun j s hj hs => ?_⟩⟩
    by_cases hjq : j < q
    ·exact hin j s hjq hs
    ·obtain rfl : j = q := by omega
     rw [hg2] at hs
     cases hs
     exact hne
  ·rename_i hge2 _
   refine G ?_
   refine ⟨ls.length - (i + 1), _, _, by omega, rfl, rfl, rfl, rfl, .inl ⟨i + 1, rfl, rfl, rfl, rfl, hi', rfl, fun j l' hj hl' => ?_⟩⟩
   by_cases hji : j < i
   ·exact hall j l' hji hl'
   ·obtain rfl : j = i := by omega
    rw [hg] at hl'
    cases hl'
    intro s hs
    obtain ⟨k, hk⟩ := List.mem_iff_getElem?.1 hs
    exact hin k s (by have := (List.getElem?_eq_some_iff.1 hk).1; omega) hk
 ·rename_i hge _
  refine G ?_
  refine L0 ?_
  refine h true fun _ l hl => ?_
  obtain ⟨k, hk⟩ := List.mem_iff_getElem?.1 hl
  exact hall k l (by have := (List.getElem?_eq_some_iff.1 hk).1; omega) hk
end tm
end Go.Proofs.YtcfglgelckjpmaaGreatDoor
