/- Own machinery, and laws of the functions that the statement reaches (part 22). -/
import Derived.Test.YtcfglgelckjpmaaGreatDoorB21
set_option linter.all false
namespace Go.Proofs.YtcfglgelckjpmaaGreatDoor
set_option maxRecDepth 100000
def symbolsV (l : List (List UInt8)) : V × V := if l = [] then (vNull, vNull) else (.mk 23 0 [] (l.map fun s => .mk 20 0 s [] 0 []) 0 [], vNull)
def StrRep (s : List UInt8) (cs : List Value) : Prop := cs = [strV s] ∧ s.length < 1099511627776
def U32Rep (n : Nat) (cs : List Value) : Prop := cs = [.int .u32 (n : Nat)] ∧ n < 4294967296
section laws
variable {I : Imm} {Q : Qt}
theorem maybe_law {k : Int} {l : List Nat} {v : Value} (hk : -9223372036854775808 ≤ k ∧ k < 9223372036854775808) (hl : Row 1 U32Rep I l v) (h : ∀ cs', FRep I (maybeV k l) cs' → Q (.agg cs'.toArray) [] [] I) : WP Tryz.prog 54 #[.int .i64 k, v] [] [] I Q := by
 obtain ⟨base, cap, rfl⟩ := hl.form
 refine lw K54 [] [.int .i64 k, .slice base l.length cap] Tryz.func54 ?_
 refine G ?_
 intro b1
 refine G ?_
 split
 ·rename_i e _
  obtain rfl : l = [] := List.eq_nil_of_length_eq_zero (by omega)
  refine G ?_
  refine L0 ?_
  exact h _ ⟨_, _, vNull_rep, vNull_rep, rfl⟩
 ·rename_i e _
  cases l with
  | nil => simp at e
  | cons f l =>
   obtain ⟨vb, vo, rfl, _⟩ := hl.some (by simp)
   obtain ⟨c, ⟨rfl, hf⟩, hcl, hcc⟩ := hl.get (i := 0) (x := f) rfl
   refine G ?_
   refine ⟨_, _, _, _, 0, rfl, rfl, by simp, ?_⟩
   refine G ?_
   refine ⟨_, .imm hcc, ?_⟩
   refine G ?_
   refine Cx [] ?_
   refine ofNumber_law ?_
   refine G ?_
   refine L0 ?_
   exact h _ ⟨_, _, vNum_rep hk (by omega), vNull_rep, rfl⟩
theorem symbols_law {l : List (List UInt8)} {v : Value} (hl : Row 1 StrRep I l v) (h : ∀ I' cs', I.le I' → FRep I' (symbolsV l) cs' → Q (.agg cs'.toArray) [] [] I') : WP Tryz.prog 44 #[v] [] [] I Q := by
 obtain ⟨base, cap, rfl⟩ := hl.form
 have hlen := hl.1
 refine lw K44 [] [.slice base l.length cap] Tryz.func44 ?_
 refine G ?_
 intro b1
 refine G ?_
 split
 ·rename_i e _
  obtain rfl : l = [] := List.eq_nil_of_length_eq_zero (by omega)
  refine G ?_
  refine L0 ?_
  exact h I _ (.refl I) ⟨_, _, vNull_rep, vNull_rep, rfl⟩
 ·rename_i e _
  refine G ?_
  intro b3
  refine G ?_
  refine ⟨⟨[13], [3], [(900, 6)], fun m vs cs R I' => ∃ (i : Nat) (kb : Option Addr) (kc : Nat) (cells : List (List Value)), vs = [.int .i64 (i : Nat)] ∧ i ≤ l.length ∧ m = l.length - i ∧
    cs = [[.int .i64 23, .int .u64 0, strV [], .slice kb i kc, .int .i64 0, .slice none 0 0]] ∧ R = [(900, .vec (.slice kb i kc) 6 cells.flatten)] ∧ cells.length = i ∧
    (∀ (j : Nat) (x : V) (d : List Value), (l.map fun s => V.mk 20 0 s [] 0 [])[j]? = some x → cells[j]? = some d → VRep I' x d),
   l.length, _, _, rfl, rfl, ⟨0, none, 0, [], rfl, by omega, rfl, rfl, rfl, rfl, by simp⟩, ?_⟩⟩
  rintro m vs cs R I' hI _ _ ⟨i, kb, kc, cells, rfl, hi, rfl, rfl, rfl, hcl, hrep⟩
  replace hI : I.le I' := hI
  have hl' : Row 1 StrRep I' l _ := hl.mono hI fun _ _ h => h
  refine G ?_
  split
  ·rename_i hlt _
   have hi' : i < l.length := by omega
   obtain ⟨fb, fo, rfl, _⟩ := Row.some hl' (by omega)
   obtain ⟨cx, ⟨rfl, hsz⟩, _, hcc⟩ := Row.get hl' (i := i) (x := l[i]) (by simp [hi'])
   refine G ?_
   refine ⟨_, _, _, _, i, rfl, rfl, hi', ?_⟩
   refine G ?_
   refine ⟨_, .imm hcc, ?_⟩
   refine G ?_
   refine .inl fun be I2 hi2 hce => ?_
   refine G ?_
   refine .own 900 i 1 cells.flatten (textC 20 l[i]) rfl rfl ⟨rfl, by omega, rfl, hce⟩ rfl (by rw [show ti79.bytes = 88 by kernel_rfl]; omega) fun nb nc => ?_
   refine G ?_
   refine ⟨_, _, _, ?_, rfl, rfl, rfl, rfl, .inl ⟨i + 1, nb, nc, cells ++ [textC 20 l[i]], ?_, hi', rfl, rfl, ?_, by simp [hcl], fun j x d hx hd => ?_⟩⟩
   ·omega
   ·rfl
   ·rw [List.flatten_append, List.flatten_cons, List.flatten_nil, List.append_nil]; rfl
   ·by_cases hji : j < i
    ·rw [List.getElem?_append_left (by omega)] at hd
     exact (hrep j x d hx hd).mono hi2
    ·obtain rfl : j = i := by
      have := (List.getElem?_eq_some_iff.1 hd).1
      simp at this
      omega
     rw [List.getElem?_append_right (by omega), hcl] at hd
     simp at hd
     simp [hi'] at hx
     subst hd hx
     exact vText_rep (by omega) hsz
  ·rename_i hge _
   refine G ?_
   obtain rfl : i = l.length := by omega
   refine ⟨⟨[], [], [], [900], ?_⟩⟩
   intro I2 hi2 ⟨n, hn, hsl⟩
   have hn' : l.length = n := hn
   subst hn'
   conv => whnf
   refine h I2 ([.int .i64 23, .int .u64 0, strV [], .slice kb l.length kc, .int .i64 0, .slice none 0 0] ++ numC 0 0) (hI.trans hi2) ?_
   rw [symbolsV, if_neg (fun h => e (by simp [h]))]
   refine ⟨_, _, .intro (n := 0) (t := []) (by omega) (by decide) (by omega) (by decide) ?_ (.nil I2), vNull_rep, rfl⟩
   exact ⟨by simpa using hlen, cells, by simpa using hsl, by simpa using hcl, fun j x d hx hd => (hrep j x d hx hd).mono hi2⟩
end laws
end Go.Proofs.YtcfglgelckjpmaaGreatDoor
