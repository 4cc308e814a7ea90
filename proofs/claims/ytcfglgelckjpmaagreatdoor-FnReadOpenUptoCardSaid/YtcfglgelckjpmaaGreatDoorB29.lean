/- Own machinery, and laws of the functions that the statement reaches (part 29). -/
import Derived.Test.YtcfglgelckjpmaaGreatDoorB21
import Derived.Test.YtcfglgelckjpmaaGreatDoorB26
import Derived.Test.YtcfglgelckjpmaaGreatDoorB27
import Derived.Test.YtcfglgelckjpmaaGreatDoorB28
set_option linter.all false
namespace Go.Proofs.YtcfglgelckjpmaaGreatDoor
set_option maxRecDepth 100000
set_option maxHeartbeats 8000000
section bk
variable {I : Imm} {Q : Qt}
theorem back_1 {ks : List V} {sv : Value} (hl : Row 1 (fun (x : V) c => elemC I 1 x.num x.text c) I ks sv) (hs : ∀ (i : Nat) (x : V), ks[i]? = some x → ∃ n t o, x = .mk 1 n t [] o [] ∧ Scal 1 n t)
  (h : ∀ I' cs', I.le I' → VRep I' (.mk 23 0 [] (ks.map bk) 1 []) cs' → Q (.agg cs'.toArray) [] [] I') : WP Tryz.prog 144 #[.int .i64 1, sv, .func (.func 138) #[] #[]] [] [] I Q := by
 obtain ⟨base, cap, rfl⟩ := hl.form
 have hlen := hl.1
 refine lw K144 [] [.int .i64 1, .slice base ks.length cap, .func (.func 138) #[] #[]] Tryz.func144 ?_
 refine G ?_
 intro b1
 refine G ?_
 intro b2
 refine G ?_
 refine ⟨⟨[14], [7], [(900, 6)], fun m vs cs R J => ∃ (i : Nat) (kb : Option Addr) (kc : Nat) (cells : List (List Value)), vs = [.int .i64 (i : Nat)] ∧ i ≤ ks.length ∧ m = ks.length - i ∧
   cs = [[.int .i64 23, .int .u64 0, strV [], .slice kb i kc, .int .i64 1, .slice none 0 0]] ∧ R = [(900, .vec (.slice kb i kc) 6 cells.flatten)] ∧ cells.length = i ∧
   (∀ (j : Nat) (y : V) (d : List Value), (ks.map bk)[j]? = some y → cells[j]? = some d → VRep J y d),
  ks.length, _, _, rfl, rfl, ⟨0, none, 0, [], rfl, by omega, rfl, rfl, rfl, rfl, by simp⟩, ?_⟩⟩
 rintro m vs cs R J hJ _ _ ⟨i, kb, kc, cells, rfl, hi, rfl, rfl, rfl, hcl, hrep⟩
 replace hJ : I.le J := hJ
 refine G ?_
 split
 ·rename_i hlt _
  have hi' : i < ks.length := by omega
  obtain ⟨fb, fo, rfl, _⟩ := Row.some hl (by omega)
  obtain ⟨cx, hcx, hcw, hcc⟩ := Row.get hl (i := i) (x := ks[i]) (by simp [hi'])
  obtain ⟨n, t, o, hx, hsc⟩ := hs i ks[i] (by simp [hi'])
  rw [hx] at hcx
  have hc := hcx.1 rfl
  simp only [V.num, V.text] at hc
  subst hc
  have hn2 : n < 2 := by cases hsc; assumption
  refine G ?_
  refine ⟨_, _, _, _, i, rfl, rfl, hi', ?_⟩
  refine G ?_
  refine ⟨_, .imm (hcc.mono hJ), ?_⟩
  refine G ?_
  refine ⟨[0,1,2,3,4,5,6,7,8,9,10], [], [], [], by kernel_rfl, ?_⟩
  refine G ?_
  refine .inr ?_
  refine G ?_
  refine from_1 hn2 ?_
  refine G ?_
  refine .inl fun be I2 hi2 hce => ?_
  refine G ?_
  refine .own 900 i 1 cells.flatten (numC 1 n) rfl rfl ⟨rfl, by omega, rfl, hce⟩ rfl (by rw [show ti79.bytes = 88 by kernel_rfl]; omega) fun nb nc => ?_
  refine G ?_
  refine ⟨ks.length - (i + 1), _, _, by omega, rfl, rfl, rfl, rfl, .inl ⟨i + 1, nb, nc, cells ++ [numC 1 n], rfl, hi', rfl, rfl, ?_, by simp [hcl], fun j y d hy hd => ?_⟩⟩
  ·rw [List.flatten_append, List.flatten_cons, List.flatten_nil, List.append_nil]; rfl
  ·by_cases hji : j < i
   ·rw [List.getElem?_append_left (by omega)] at hd
    exact (hrep j y d hy hd).mono hi2
   ·obtain rfl : j = i := by
     have := (List.getElem?_eq_some_iff.1 hd).1
     simp at this
     omega
    rw [List.getElem?_append_right (by omega), hcl] at hd
    simp at hd
    rw [List.getElem?_map, List.getElem?_eq_getElem hi', Option.map_some, hx] at hy
    simp only [Option.some.injEq] at hy
    subst hd hy
    exact bk_num hsc (by decide)
 ·rename_i hge _
  obtain rfl : i = ks.length := by omega
  refine G ?_
  refine ⟨⟨[], [], [], [900], ?_⟩⟩
  intro J1 hJ1 ⟨n, hn, hsl⟩
  obtain rfl : ks.length = n := hn
  conv => whnf
  exact h J1 _ (hJ.trans hJ1) (.intro (n := 0) (t := []) (by omega) (by decide) (by omega) (by decide) ⟨by simpa using hlen, cells, by simpa using hsl, by simpa using hcl, fun j y d hy hd => (hrep j y d hy hd).mono hJ1⟩ (.nil J1))
theorem back_2 {ks : List V} {sv : Value} (hl : Row 1 (fun (x : V) c => elemC I 2 x.num x.text c) I ks sv) (hs : ∀ (i : Nat) (x : V), ks[i]? = some x → ∃ n t o, x = .mk 2 n t [] o [] ∧ Scal 2 n t)
  (h : ∀ I' cs', I.le I' → VRep I' (.mk 23 0 [] (ks.map bk) 2 []) cs' → Q (.agg cs'.toArray) [] [] I') : WP Tryz.prog 145 #[.int .i64 2, sv, .func (.func 146) #[] #[]] [] [] I Q := by
 obtain ⟨base, cap, rfl⟩ := hl.form
 have hlen := hl.1
 refine lw K145 [] [.int .i64 2, .slice base ks.length cap, .func (.func 146) #[] #[]] Tryz.func145 ?_
 refine G ?_
 intro b1
 refine G ?_
 intro b2
 refine G ?_
 refine ⟨⟨[14], [7], [(900, 6)], fun m vs cs R J => ∃ (i : Nat) (kb : Option Addr) (kc : Nat) (cells : List (List Value)), vs = [.int .i64 (i : Nat)] ∧ i ≤ ks.length ∧ m = ks.length - i ∧
   cs = [[.int .i64 23, .int .u64 0, strV [], .slice kb i kc, .int .i64 2, .slice none 0 0]] ∧ R = [(900, .vec (.slice kb i kc) 6 cells.flatten)] ∧ cells.length = i ∧
   (∀ (j : Nat) (y : V) (d : List Value), (ks.map bk)[j]? = some y → cells[j]? = some d → VRep J y d),
  ks.length, _, _, rfl, rfl, ⟨0, none, 0, [], rfl, by omega, rfl, rfl, rfl, rfl, by simp⟩, ?_⟩⟩
 rintro m vs cs R J hJ _ _ ⟨i, kb, kc, cells, rfl, hi, rfl, rfl, rfl, hcl, hrep⟩
 replace hJ : I.le J := hJ
 refine G ?_
 split
 ·rename_i hlt _
  have hi' : i < ks.length := by omega
  obtain ⟨fb, fo, rfl, _⟩ := Row.some hl (by omega)
  obtain ⟨cx, hcx, hcw, hcc⟩ := Row.get hl (i := i) (x := ks[i]) (by simp [hi'])
  obtain ⟨n, t, o, hx, hsc⟩ := hs i ks[i] (by simp [hi'])
  rw [hx] at hcx
  have hc := hcx.2.1 rfl
  simp only [V.num, V.text] at hc
  subst hc
  have hnb : n < 256 := by cases hsc; assumption
  refine G ?_
  refine ⟨_, _, _, _, i, rfl, rfl, hi', ?_⟩
  refine G ?_
  refine ⟨_, .imm (hcc.mono hJ), ?_⟩
  refine G ?_
  refine ⟨[0,1,2,3,4,5,6,7,8,9,10], [], [], [], by kernel_rfl, ?_⟩
  refine G ?_
  refine .inr ?_
  refine G ?_
  refine from_2 hnb ?_
  refine G ?_
  refine .inl fun be I2 hi2 hce => ?_
  refine G ?_
  refine .own 900 i 1 cells.flatten (numC 2 n) rfl rfl ⟨rfl, by omega, rfl, hce⟩ rfl (by rw [show ti79.bytes = 88 by kernel_rfl]; omega) fun nb nc => ?_
  refine G ?_
  refine ⟨ks.length - (i + 1), _, _, by omega, rfl, rfl, rfl, rfl, .inl ⟨i + 1, nb, nc, cells ++ [numC 2 n], rfl, hi', rfl, rfl, ?_, by simp [hcl], fun j y d hy hd => ?_⟩⟩
  ·rw [List.flatten_append, List.flatten_cons, List.flatten_nil, List.append_nil]; rfl
  ·by_cases hji : j < i
   ·rw [List.getElem?_append_left (by omega)] at hd
    exact (hrep j y d hy hd).mono hi2
   ·obtain rfl : j = i := by
     have := (List.getElem?_eq_some_iff.1 hd).1
     simp at this
     omega
    rw [List.getElem?_append_right (by omega), hcl] at hd
    simp at hd
    rw [List.getElem?_map, List.getElem?_eq_getElem hi', Option.map_some, hx] at hy
    simp only [Option.some.injEq] at hy
    subst hd hy
    exact bk_num hsc (by decide)
 ·rename_i hge _
  obtain rfl : i = ks.length := by omega
  refine G ?_
  refine ⟨⟨[], [], [], [900], ?_⟩⟩
  intro J1 hJ1 ⟨n, hn, hsl⟩
  obtain rfl : ks.length = n := hn
  conv => whnf
  exact h J1 _ (hJ.trans hJ1) (.intro (n := 0) (t := []) (by omega) (by decide) (by omega) (by decide) ⟨by simpa using hlen, cells, by simpa using hsl, by simpa using hcl, fun j y d hy hd => (hrep j y d hy hd).mono hJ1⟩ (.nil J1))
theorem back_3 {ks : List V} {sv : Value} (hl : Row 1 (fun (x : V) c => elemC I 3 x.num x.text c) I ks sv) (hs : ∀ (i : Nat) (x : V), ks[i]? = some x → ∃ n t o, x = .mk 3 n t [] o [] ∧ Scal 3 n t)
  (h : ∀ I' cs', I.le I' → VRep I' (.mk 23 0 [] (ks.map bk) 3 []) cs' → Q (.agg cs'.toArray) [] [] I') : WP Tryz.prog 147 #[.int .i64 3, sv, .func (.func 148) #[] #[]] [] [] I Q := by
 obtain ⟨base, cap, rfl⟩ := hl.form
 have hlen := hl.1
 refine lw K147 [] [.int .i64 3, .slice base ks.length cap, .func (.func 148) #[] #[]] Tryz.func147 ?_
 refine G ?_
 intro b1
 refine G ?_
 intro b2
 refine G ?_
 refine ⟨⟨[14], [7], [(900, 6)], fun m vs cs R J => ∃ (i : Nat) (kb : Option Addr) (kc : Nat) (cells : List (List Value)), vs = [.int .i64 (i : Nat)] ∧ i ≤ ks.length ∧ m = ks.length - i ∧
   cs = [[.int .i64 23, .int .u64 0, strV [], .slice kb i kc, .int .i64 3, .slice none 0 0]] ∧ R = [(900, .vec (.slice kb i kc) 6 cells.flatten)] ∧ cells.length = i ∧
   (∀ (j : Nat) (y : V) (d : List Value), (ks.map bk)[j]? = some y → cells[j]? = some d → VRep J y d),
  ks.length, _, _, rfl, rfl, ⟨0, none, 0, [], rfl, by omega, rfl, rfl, rfl, rfl, by simp⟩, ?_⟩⟩
 rintro m vs cs R J hJ _ _ ⟨i, kb, kc, cells, rfl, hi, rfl, rfl, rfl, hcl, hrep⟩
 replace hJ : I.le J := hJ
 refine G ?_
 split
 ·rename_i hlt _
  have hi' : i < ks.length := by omega
  obtain ⟨fb, fo, rfl, _⟩ := Row.some hl (by omega)
  obtain ⟨cx, hcx, hcw, hcc⟩ := Row.get hl (i := i) (x := ks[i]) (by simp [hi'])
  obtain ⟨n, t, o, hx, hsc⟩ := hs i ks[i] (by simp [hi'])
  rw [hx] at hcx
  have hc := hcx.2.2.1 rfl
  simp only [V.num, V.text] at hc
  subst hc
  have hnb : n < 65536 := by cases hsc; assumption
  refine G ?_
  refine ⟨_, _, _, _, i, rfl, rfl, hi', ?_⟩
  refine G ?_
  refine ⟨_, .imm (hcc.mono hJ), ?_⟩
  refine G ?_
  refine ⟨[0,1,2,3,4,5,6,7,8,9,10], [], [], [], by kernel_rfl, ?_⟩
  refine G ?_
  refine .inr ?_
  refine G ?_
  refine from_3 hnb ?_
  refine G ?_
  refine .inl fun be I2 hi2 hce => ?_
  refine G ?_
  refine .own 900 i 1 cells.flatten (numC 3 n) rfl rfl ⟨rfl, by omega, rfl, hce⟩ rfl (by rw [show ti79.bytes = 88 by kernel_rfl]; omega) fun nb nc => ?_
  refine G ?_
  refine ⟨ks.length - (i + 1), _, _, by omega, rfl, rfl, rfl, rfl, .inl ⟨i + 1, nb, nc, cells ++ [numC 3 n], rfl, hi', rfl, rfl, ?_, by simp [hcl], fun j y d hy hd => ?_⟩⟩
  ·rw [List.flatten_append, List.flatten_cons, List.flatten_nil, List.append_nil]; rfl
  ·by_cases hji : j < i
   ·rw [List.getElem?_append_left (by omega)] at hd
    exact (hrep j y d hy hd).mono hi2
   ·obtain rfl : j = i := by
     have := (List.getElem?_eq_some_iff.1 hd).1
     simp at this
     omega
    rw [List.getElem?_append_right (by omega), hcl] at hd
    simp at hd
    rw [List.getElem?_map, List.getElem?_eq_getElem hi', Option.map_some, hx] at hy
    simp only [Option.some.injEq] at hy
    subst hd hy
    exact bk_num hsc (by decide)
 ·rename_i hge _
  obtain rfl : i = ks.length := by omega
  refine G ?_
  refine ⟨⟨[], [], [], [900], ?_⟩⟩
  intro J1 hJ1 ⟨n, hn, hsl⟩
  obtain rfl : ks.length = n := hn
  conv => whnf
  exact h J1 _ (hJ.trans hJ1) (.intro (n := 0) (t := []) (by omega) (by decide) (by omega) (by decide) ⟨by simpa using hlen, cells, by simpa using hsl, by simpa using hcl, fun j y d hy hd => (hrep j y d hy hd).mono hJ1⟩ (.nil J1))
theorem back_4 {ks : List V} {sv : Value} (hl : Row 1 (fun (x : V) c => elemC I 4 x.num x.text c) I ks sv) (hs : ∀ (i : Nat) (x : V), ks[i]? = some x → ∃ n t o, x = .mk 4 n t [] o [] ∧ Scal 4 n t)
  (h : ∀ I' cs', I.le I' → VRep I' (.mk 23 0 [] (ks.map bk) 4 []) cs' → Q (.agg cs'.toArray) [] [] I') : WP Tryz.prog 149 #[.int .i64 4, sv, .func (.func 150) #[] #[]] [] [] I Q := by
 obtain ⟨base, cap, rfl⟩ := hl.form
 have hlen := hl.1
 refine lw K149 [] [.int .i64 4, .slice base ks.length cap, .func (.func 150) #[] #[]] Tryz.func149 ?_
 refine G ?_
 intro b1
 refine G ?_
 intro b2
 refine G ?_
 refine ⟨⟨[14], [7], [(900, 6)], fun m vs cs R J => ∃ (i : Nat) (kb : Option Addr) (kc : Nat) (cells : List (List Value)), vs = [.int .i64 (i : Nat)] ∧ i ≤ ks.length ∧ m = ks.length - i ∧
   cs = [[.int .i64 23, .int .u64 0, strV [], .slice kb i kc, .int .i64 4, .slice none 0 0]] ∧ R = [(900, .vec (.slice kb i kc) 6 cells.flatten)] ∧ cells.length = i ∧
   (∀ (j : Nat) (y : V) (d : List Value), (ks.map bk)[j]? = some y → cells[j]? = some d → VRep J y d),
  ks.length, _, _, rfl, rfl, ⟨0, none, 0, [], rfl, by omega, rfl, rfl, rfl, rfl, by simp⟩, ?_⟩⟩
 rintro m vs cs R J hJ _ _ ⟨i, kb, kc, cells, rfl, hi, rfl, rfl, rfl, hcl, hrep⟩
 replace hJ : I.le J := hJ
 refine G ?_
 split
 ·rename_i hlt _
  have hi' : i < ks.length := by omega
  obtain ⟨fb, fo, rfl, _⟩ := Row.some hl (by omega)
  obtain ⟨cx, hcx, hcw, hcc⟩ := Row.get hl (i := i) (x := ks[i]) (by simp [hi'])
  obtain ⟨n, t, o, hx, hsc⟩ := hs i ks[i] (by simp [hi'])
  rw [hx] at hcx
  have hc := hcx.2.2.2.1 rfl
  simp only [V.num, V.text] at hc
  subst hc
  have hnb : n < 4294967296 := by cases hsc; assumption
  refine G ?_
  refine ⟨_, _, _, _, i, rfl, rfl, hi', ?_⟩
  refine G ?_
  refine ⟨_, .imm (hcc.mono hJ), ?_⟩
  refine G ?_
  refine ⟨[0,1,2,3,4,5,6,7,8,9,10], [], [], [], by kernel_rfl, ?_⟩
  refine G ?_
  refine .inr ?_
  refine G ?_
  refine from_4 hnb ?_
  refine G ?_
  refine .inl fun be I2 hi2 hce => ?_
  refine G ?_
  refine .own 900 i 1 cells.flatten (numC 4 n) rfl rfl ⟨rfl, by omega, rfl, hce⟩ rfl (by rw [show ti79.bytes = 88 by kernel_rfl]; omega) fun nb nc => ?_
  refine G ?_
  refine ⟨ks.length - (i + 1), _, _, by omega, rfl, rfl, rfl, rfl, .inl ⟨i + 1, nb, nc, cells ++ [numC 4 n], rfl, hi', rfl, rfl, ?_, by simp [hcl], fun j y d hy hd => ?_⟩⟩
  ·rw [List.flatten_append, List.flatten_cons, List.flatten_nil, List.append_nil]; rfl
  ·by_cases hji : j < i
   ·rw [List.getElem?_append_left (by omega)] at hd
    exact (hrep j y d hy hd).mono hi2
   ·obtain rfl : j = i := by
     have := (List.getElem?_eq_some_iff.1 hd).1
     simp at this
     omega
    rw [List.getElem?_append_right (by omega), hcl] at hd
    simp at hd
    rw [List.getElem?_map, List.getElem?_eq_getElem hi', Option.map_some, hx] at hy
    simp only [Option.some.injEq] at hy
    subst hd hy
    exact bk_num hsc (by decide)
 ·rename_i hge _
  obtain rfl : i = ks.length := by omega
  refine G ?_
  refine ⟨⟨[], [], [], [900], ?_⟩⟩
  intro J1 hJ1 ⟨n, hn, hsl⟩
  obtain rfl : ks.length = n := hn
  conv => whnf
  exact h J1 _ (hJ.trans hJ1) (.intro (n := 0) (t := []) (by omega) (by decide) (by omega) (by decide) ⟨by simpa using hlen, cells, by simpa using hsl, by simpa using hcl, fun j y d hy hd => (hrep j y d hy hd).mono hJ1⟩ (.nil J1))
theorem back_5 {ks : List V} {sv : Value} (hl : Row 1 (fun (x : V) c => elemC I 5 x.num x.text c) I ks sv) (hs : ∀ (i : Nat) (x : V), ks[i]? = some x → ∃ n t o, x = .mk 5 n t [] o [] ∧ Scal 5 n t)
  (h : ∀ I' cs', I.le I' → VRep I' (.mk 23 0 [] (ks.map bk) 5 []) cs' → Q (.agg cs'.toArray) [] [] I') : WP Tryz.prog 151 #[.int .i64 5, sv, .func (.func 152) #[] #[]] [] [] I Q := by
 obtain ⟨base, cap, rfl⟩ := hl.form
 have hlen := hl.1
 refine lw K151 [] [.int .i64 5, .slice base ks.length cap, .func (.func 152) #[] #[]] Tryz.func151 ?_
 refine G ?_
 intro b1
 refine G ?_
 intro b2
 refine G ?_
 refine ⟨⟨[14], [7], [(900, 6)], fun m vs cs R J => ∃ (i : Nat) (kb : Option Addr) (kc : Nat) (cells : List (List Value)), vs = [.int .i64 (i : Nat)] ∧ i ≤ ks.length ∧ m = ks.length - i ∧
   cs = [[.int .i64 23, .int .u64 0, strV [], .slice kb i kc, .int .i64 5, .slice none 0 0]] ∧ R = [(900, .vec (.slice kb i kc) 6 cells.flatten)] ∧ cells.length = i ∧
   (∀ (j : Nat) (y : V) (d : List Value), (ks.map bk)[j]? = some y → cells[j]? = some d → VRep J y d),
  ks.length, _, _, rfl, rfl, ⟨0, none, 0, [], rfl, by omega, rfl, rfl, rfl, rfl, by simp⟩, ?_⟩⟩
 rintro m vs cs R J hJ _ _ ⟨i, kb, kc, cells, rfl, hi, rfl, rfl, rfl, hcl, hrep⟩
 replace hJ : I.le J := hJ
 refine G ?_
 split
 ·rename_i hlt _
  have hi' : i < ks.length := by omega
  obtain ⟨fb, fo, rfl, _⟩ := Row.some hl (by omega)
  obtain ⟨cx, hcx, hcw, hcc⟩ := Row.get hl (i := i) (x := ks[i]) (by simp [hi'])
  obtain ⟨n, t, o, hx, hsc⟩ := hs i ks[i] (by simp [hi'])
  rw [hx] at hcx
  have hc := hcx.2.2.2.2.1 rfl
  simp only [V.num, V.text] at hc
  subst hc
  refine G ?_
  refine ⟨_, _, _, _, i, rfl, rfl, hi', ?_⟩
  refine G ?_
  refine ⟨_, .imm (hcc.mono hJ), ?_⟩
  refine G ?_
  refine ⟨[0,1,2,3,4,5,6,7,8,9,10], [], [], [], by kernel_rfl, ?_⟩
  refine G ?_
  refine .inr ?_
  refine G ?_
  refine from_5  ?_
  refine G ?_
  refine .inl fun be I2 hi2 hce => ?_
  refine G ?_
  refine .own 900 i 1 cells.flatten (numC 5 n) rfl rfl ⟨rfl, by omega, rfl, hce⟩ rfl (by rw [show ti79.bytes = 88 by kernel_rfl]; omega) fun nb nc => ?_
  refine G ?_
  refine ⟨ks.length - (i + 1), _, _, by omega, rfl, rfl, rfl, rfl, .inl ⟨i + 1, nb, nc, cells ++ [numC 5 n], rfl, hi', rfl, rfl, ?_, by simp [hcl], fun j y d hy hd => ?_⟩⟩
  ·rw [List.flatten_append, List.flatten_cons, List.flatten_nil, List.append_nil]; rfl
  ·by_cases hji : j < i
   ·rw [List.getElem?_append_left (by omega)] at hd
    exact (hrep j y d hy hd).mono hi2
   ·obtain rfl : j = i := by
     have := (List.getElem?_eq_some_iff.1 hd).1
     simp at this
     omega
    rw [List.getElem?_append_right (by omega), hcl] at hd
    simp at hd
    rw [List.getElem?_map, List.getElem?_eq_getElem hi', Option.map_some, hx] at hy
    simp only [Option.some.injEq] at hy
    subst hd hy
    exact bk_num hsc (by decide)
 ·rename_i hge _
  obtain rfl : i = ks.length := by omega
  refine G ?_
  refine ⟨⟨[], [], [], [900], ?_⟩⟩
  intro J1 hJ1 ⟨n, hn, hsl⟩
  obtain rfl : ks.length = n := hn
  conv => whnf
  exact h J1 _ (hJ.trans hJ1) (.intro (n := 0) (t := []) (by omega) (by decide) (by omega) (by decide) ⟨by simpa using hlen, cells, by simpa using hsl, by simpa using hcl, fun j y d hy hd => (hrep j y d hy hd).mono hJ1⟩ (.nil J1))
theorem back_6 {ks : List V} {sv : Value} (hl : Row 1 (fun (x : V) c => elemC I 6 x.num x.text c) I ks sv) (hs : ∀ (i : Nat) (x : V), ks[i]? = some x → ∃ n t o, x = .mk 6 n t [] o [] ∧ Scal 6 n t)
  (h : ∀ I' cs', I.le I' → VRep I' (.mk 23 0 [] (ks.map bk) 6 []) cs' → Q (.agg cs'.toArray) [] [] I') : WP Tryz.prog 153 #[.int .i64 6, sv, .func (.func 154) #[] #[]] [] [] I Q := by
 obtain ⟨base, cap, rfl⟩ := hl.form
 have hlen := hl.1
 refine lw K153 [] [.int .i64 6, .slice base ks.length cap, .func (.func 154) #[] #[]] Tryz.func153 ?_
 refine G ?_
 intro b1
 refine G ?_
 intro b2
 refine G ?_
 refine ⟨⟨[14], [7], [(900, 6)], fun m vs cs R J => ∃ (i : Nat) (kb : Option Addr) (kc : Nat) (cells : List (List Value)), vs = [.int .i64 (i : Nat)] ∧ i ≤ ks.length ∧ m = ks.length - i ∧
   cs = [[.int .i64 23, .int .u64 0, strV [], .slice kb i kc, .int .i64 6, .slice none 0 0]] ∧ R = [(900, .vec (.slice kb i kc) 6 cells.flatten)] ∧ cells.length = i ∧
   (∀ (j : Nat) (y : V) (d : List Value), (ks.map bk)[j]? = some y → cells[j]? = some d → VRep J y d),
  ks.length, _, _, rfl, rfl, ⟨0, none, 0, [], rfl, by omega, rfl, rfl, rfl, rfl, by simp⟩, ?_⟩⟩
 rintro m vs cs R J hJ _ _ ⟨i, kb, kc, cells, rfl, hi, rfl, rfl, rfl, hcl, hrep⟩
 replace hJ : I.le J := hJ
 refine G ?_
 split
 ·rename_i hlt _
  have hi' : i < ks.length := by omega
  obtain ⟨fb, fo, rfl, _⟩ := Row.some hl (by omega)
  obtain ⟨cx, hcx, hcw, hcc⟩ := Row.get hl (i := i) (x := ks[i]) (by simp [hi'])
  obtain ⟨n, t, o, hx, hsc⟩ := hs i ks[i] (by simp [hi'])
  rw [hx] at hcx
  have hc := hcx.2.2.2.2.2.1 rfl
  simp only [V.num, V.text] at hc
  subst hc
  have hnb := scal_num hsc
  refine G ?_
  refine ⟨_, _, _, _, i, rfl, rfl, hi', ?_⟩
  refine G ?_
  refine ⟨_, .imm (hcc.mono hJ), ?_⟩
  refine G ?_
  refine ⟨[0,1,2,3,4,5,6,7,8,9,10], [], [], [], by kernel_rfl, ?_⟩
  refine G ?_
  refine .inr ?_
  refine G ?_
  refine from_6 hnb ?_
  refine G ?_
  refine .inl fun be I2 hi2 hce => ?_
  refine G ?_
  refine .own 900 i 1 cells.flatten (numC 6 n) rfl rfl ⟨rfl, by omega, rfl, hce⟩ rfl (by rw [show ti79.bytes = 88 by kernel_rfl]; omega) fun nb nc => ?_
  refine G ?_
  refine ⟨ks.length - (i + 1), _, _, by omega, rfl, rfl, rfl, rfl, .inl ⟨i + 1, nb, nc, cells ++ [numC 6 n], rfl, hi', rfl, rfl, ?_, by simp [hcl], fun j y d hy hd => ?_⟩⟩
  ·rw [List.flatten_append, List.flatten_cons, List.flatten_nil, List.append_nil]; rfl
  ·by_cases hji : j < i
   ·rw [List.getElem?_append_left (by omega)] at hd
    exact (hrep j y d hy hd).mono hi2
   ·obtain rfl : j = i := by
     have := (List.getElem?_eq_some_iff.1 hd).1
     simp at this
     omega
    rw [List.getElem?_append_right (by omega), hcl] at hd
    simp at hd
    rw [List.getElem?_map, List.getElem?_eq_getElem hi', Option.map_some, hx] at hy
    simp only [Option.some.injEq] at hy
    subst hd hy
    exact bk_num hsc (by decide)
 ·rename_i hge _
  obtain rfl : i = ks.length := by omega
  refine G ?_
  refine ⟨⟨[], [], [], [900], ?_⟩⟩
  intro J1 hJ1 ⟨n, hn, hsl⟩
  obtain rfl : ks.length = n := hn
  conv => whnf
  exact h J1 _ (hJ.trans hJ1) (.intro (n := 0) (t := []) (by omega) (by decide) (by omega) (by decide) ⟨by simpa using hlen, cells, by simpa using hsl, by simpa using hcl, fun j y d hy hd => (hrep j y d hy hd).mono hJ1⟩ (.nil J1))
end bk
section bk
variable {I : Imm} {Q : Qt}
theorem back_7 {ks : List V} {sv : Value} (hl : Row 1 (fun (x : V) c => elemC I 7 x.num x.text c) I ks sv) (hs : ∀ (i : Nat) (x : V), ks[i]? = some x → ∃ n t o, x = .mk 7 n t [] o [] ∧ Scal 7 n t)
  (h : ∀ I' cs', I.le I' → VRep I' (.mk 23 0 [] (ks.map bk) 7 []) cs' → Q (.agg cs'.toArray) [] [] I') : WP Tryz.prog 155 #[.int .i64 7, sv, .func (.func 156) #[] #[]] [] [] I Q := by
 obtain ⟨base, cap, rfl⟩ := hl.form
 have hlen := hl.1
 refine lw K155 [] [.int .i64 7, .slice base ks.length cap, .func (.func 156) #[] #[]] Tryz.func155 ?_
 refine G ?_
 intro b1
 refine G ?_
 intro b2
 refine G ?_
 refine ⟨⟨[14], [7], [(900, 6)], fun m vs cs R J => ∃ (i : Nat) (kb : Option Addr) (kc : Nat) (cells : List (List Value)), vs = [.int .i64 (i : Nat)] ∧ i ≤ ks.length ∧ m = ks.length - i ∧
   cs = [[.int .i64 23, .int .u64 0, strV [], .slice kb i kc, .int .i64 7, .slice none 0 0]] ∧ R = [(900, .vec (.slice kb i kc) 6 cells.flatten)] ∧ cells.length = i ∧
   (∀ (j : Nat) (y : V) (d : List Value), (ks.map bk)[j]? = some y → cells[j]? = some d → VRep J y d),
  ks.length, _, _, rfl, rfl, ⟨0, none, 0, [], rfl, by omega, rfl, rfl, rfl, rfl, by simp⟩, ?_⟩⟩
 rintro m vs cs R J hJ _ _ ⟨i, kb, kc, cells, rfl, hi, rfl, rfl, rfl, hcl, hrep⟩
 replace hJ : I.le J := hJ
 refine G ?_
 split
 ·rename_i hlt _
  have hi' : i < ks.length := by omega
  obtain ⟨fb, fo, rfl, _⟩ := Row.some hl (by omega)
  obtain ⟨cx, hcx, hcw, hcc⟩ := Row.get hl (i := i) (x := ks[i]) (by simp [hi'])
  obtain ⟨n, t, o, hx, hsc⟩ := hs i ks[i] (by simp [hi'])
  rw [hx] at hcx
  have hc := hcx.2.2.2.2.2.2.1 rfl
  simp only [V.num, V.text] at hc
  subst hc
  have hnb := scal_num hsc
  refine G ?_
  refine ⟨_, _, _, _, i, rfl, rfl, hi', ?_⟩
  refine G ?_
  refine ⟨_, .imm (hcc.mono hJ), ?_⟩
  refine G ?_
  refine ⟨[0,1,2,3,4,5,6,7,8,9,10], [], [], [], by kernel_rfl, ?_⟩
  refine G ?_
  refine .inr ?_
  refine G ?_
  refine from_7 hnb ?_
  refine G ?_
  refine .inl fun be I2 hi2 hce => ?_
  refine G ?_
  refine .own 900 i 1 cells.flatten (numC 7 n) rfl rfl ⟨rfl, by omega, rfl, hce⟩ rfl (by rw [show ti79.bytes = 88 by kernel_rfl]; omega) fun nb nc => ?_
  refine G ?_
  refine ⟨ks.length - (i + 1), _, _, by omega, rfl, rfl, rfl, rfl, .inl ⟨i + 1, nb, nc, cells ++ [numC 7 n], rfl, hi', rfl, rfl, ?_, by simp [hcl], fun j y d hy hd => ?_⟩⟩
  ·rw [List.flatten_append, List.flatten_cons, List.flatten_nil, List.append_nil]; rfl
  ·by_cases hji : j < i
   ·rw [List.getElem?_append_left (by omega)] at hd
    exact (hrep j y d hy hd).mono hi2
   ·obtain rfl : j = i := by
     have := (List.getElem?_eq_some_iff.1 hd).1
     simp at this
     omega
    rw [List.getElem?_append_right (by omega), hcl] at hd
    simp at hd
    rw [List.getElem?_map, List.getElem?_eq_getElem hi', Option.map_some, hx] at hy
    simp only [Option.some.injEq] at hy
    subst hd hy
    exact bk_num hsc (by decide)
 ·rename_i hge _
  obtain rfl : i = ks.length := by omega
  refine G ?_
  refine ⟨⟨[], [], [], [900], ?_⟩⟩
  intro J1 hJ1 ⟨n, hn, hsl⟩
  obtain rfl : ks.length = n := hn
  conv => whnf
  exact h J1 _ (hJ.trans hJ1) (.intro (n := 0) (t := []) (by omega) (by decide) (by omega) (by decide) ⟨by simpa using hlen, cells, by simpa using hsl, by simpa using hcl, fun j y d hy hd => (hrep j y d hy hd).mono hJ1⟩ (.nil J1))
theorem back_8 {ks : List V} {sv : Value} (hl : Row 1 (fun (x : V) c => elemC I 8 x.num x.text c) I ks sv) (hs : ∀ (i : Nat) (x : V), ks[i]? = some x → ∃ n t o, x = .mk 8 n t [] o [] ∧ Scal 8 n t)
  (h : ∀ I' cs', I.le I' → VRep I' (.mk 23 0 [] (ks.map bk) 8 []) cs' → Q (.agg cs'.toArray) [] [] I') : WP Tryz.prog 157 #[.int .i64 8, sv, .func (.func 158) #[] #[]] [] [] I Q := by
 obtain ⟨base, cap, rfl⟩ := hl.form
 have hlen := hl.1
 refine lw K157 [] [.int .i64 8, .slice base ks.length cap, .func (.func 158) #[] #[]] Tryz.func157 ?_
 refine G ?_
 intro b1
 refine G ?_
 intro b2
 refine G ?_
 refine ⟨⟨[14], [7], [(900, 6)], fun m vs cs R J => ∃ (i : Nat) (kb : Option Addr) (kc : Nat) (cells : List (List Value)), vs = [.int .i64 (i : Nat)] ∧ i ≤ ks.length ∧ m = ks.length - i ∧
   cs = [[.int .i64 23, .int .u64 0, strV [], .slice kb i kc, .int .i64 8, .slice none 0 0]] ∧ R = [(900, .vec (.slice kb i kc) 6 cells.flatten)] ∧ cells.length = i ∧
   (∀ (j : Nat) (y : V) (d : List Value), (ks.map bk)[j]? = some y → cells[j]? = some d → VRep J y d),
  ks.length, _, _, rfl, rfl, ⟨0, none, 0, [], rfl, by omega, rfl, rfl, rfl, rfl, by simp⟩, ?_⟩⟩
 rintro m vs cs R J hJ _ _ ⟨i, kb, kc, cells, rfl, hi, rfl, rfl, rfl, hcl, hrep⟩
 replace hJ : I.le J := hJ
 refine G ?_
 split
 ·rename_i hlt _
  have hi' : i < ks.length := by omega
  obtain ⟨fb, fo, rfl, _⟩ := Row.some hl (by omega)
  obtain ⟨cx, hcx, hcw, hcc⟩ := Row.get hl (i := i) (x := ks[i]) (by simp [hi'])
  obtain ⟨n, t, o, hx, hsc⟩ := hs i ks[i] (by simp [hi'])
  rw [hx] at hcx
  have hc := hcx.2.2.2.2.2.2.2.1 rfl
  simp only [V.num, V.text] at hc
  subst hc
  have hnb := scal_num hsc
  refine G ?_
  refine ⟨_, _, _, _, i, rfl, rfl, hi', ?_⟩
  refine G ?_
  refine ⟨_, .imm (hcc.mono hJ), ?_⟩
  refine G ?_
  refine ⟨[0,1,2,3,4,5,6,7,8,9,10], [], [], [], by kernel_rfl, ?_⟩
  refine G ?_
  refine .inr ?_
  refine G ?_
  refine from_8 hnb ?_
  refine G ?_
  refine .inl fun be I2 hi2 hce => ?_
  refine G ?_
  refine .own 900 i 1 cells.flatten (numC 8 n) rfl rfl ⟨rfl, by omega, rfl, hce⟩ rfl (by rw [show ti79.bytes = 88 by kernel_rfl]; omega) fun nb nc => ?_
  refine G ?_
  refine ⟨ks.length - (i + 1), _, _, by omega, rfl, rfl, rfl, rfl, .inl ⟨i + 1, nb, nc, cells ++ [numC 8 n], rfl, hi', rfl, rfl, ?_, by simp [hcl], fun j y d hy hd => ?_⟩⟩
  ·rw [List.flatten_append, List.flatten_cons, List.flatten_nil, List.append_nil]; rfl
  ·by_cases hji : j < i
   ·rw [List.getElem?_append_left (by omega)] at hd
    exact (hrep j y d hy hd).mono hi2
   ·obtain rfl : j = i := by
     have := (List.getElem?_eq_some_iff.1 hd).1
     simp at this
     omega
    rw [List.getElem?_append_right (by omega), hcl] at hd
    simp at hd
    rw [List.getElem?_map, List.getElem?_eq_getElem hi', Option.map_some, hx] at hy
    simp only [Option.some.injEq] at hy
    subst hd hy
    exact bk_num hsc (by decide)
 ·rename_i hge _
  obtain rfl : i = ks.length := by omega
  refine G ?_
  refine ⟨⟨[], [], [], [900], ?_⟩⟩
  intro J1 hJ1 ⟨n, hn, hsl⟩
  obtain rfl : ks.length = n := hn
  conv => whnf
  exact h J1 _ (hJ.trans hJ1) (.intro (n := 0) (t := []) (by omega) (by decide) (by omega) (by decide) ⟨by simpa using hlen, cells, by simpa using hsl, by simpa using hcl, fun j y d hy hd => (hrep j y d hy hd).mono hJ1⟩ (.nil J1))
theorem back_9 {ks : List V} {sv : Value} (hl : Row 1 (fun (x : V) c => elemC I 9 x.num x.text c) I ks sv) (hs : ∀ (i : Nat) (x : V), ks[i]? = some x → ∃ n t o, x = .mk 9 n t [] o [] ∧ Scal 9 n t)
  (h : ∀ I' cs', I.le I' → VRep I' (.mk 23 0 [] (ks.map bk) 9 []) cs' → Q (.agg cs'.toArray) [] [] I') : WP Tryz.prog 159 #[.int .i64 9, sv, .func (.func 160) #[] #[]] [] [] I Q := by
 obtain ⟨base, cap, rfl⟩ := hl.form
 have hlen := hl.1
 refine lw K159 [] [.int .i64 9, .slice base ks.length cap, .func (.func 160) #[] #[]] Tryz.func159 ?_
 refine G ?_
 intro b1
 refine G ?_
 intro b2
 refine G ?_
 refine ⟨⟨[14], [7], [(900, 6)], fun m vs cs R J => ∃ (i : Nat) (kb : Option Addr) (kc : Nat) (cells : List (List Value)), vs = [.int .i64 (i : Nat)] ∧ i ≤ ks.length ∧ m = ks.length - i ∧
   cs = [[.int .i64 23, .int .u64 0, strV [], .slice kb i kc, .int .i64 9, .slice none 0 0]] ∧ R = [(900, .vec (.slice kb i kc) 6 cells.flatten)] ∧ cells.length = i ∧
   (∀ (j : Nat) (y : V) (d : List Value), (ks.map bk)[j]? = some y → cells[j]? = some d → VRep J y d),
  ks.length, _, _, rfl, rfl, ⟨0, none, 0, [], rfl, by omega, rfl, rfl, rfl, rfl, by simp⟩, ?_⟩⟩
 rintro m vs cs R J hJ _ _ ⟨i, kb, kc, cells, rfl, hi, rfl, rfl, rfl, hcl, hrep⟩
 replace hJ : I.le J := hJ
 refine G ?_
 split
 ·rename_i hlt _
  have hi' : i < ks.length := by omega
  obtain ⟨fb, fo, rfl, _⟩ := Row.some hl (by omega)
  obtain ⟨cx, hcx, hcw, hcc⟩ := Row.get hl (i := i) (x := ks[i]) (by simp [hi'])
  obtain ⟨n, t, o, hx, hsc⟩ := hs i ks[i] (by simp [hi'])
  rw [hx] at hcx
  have hc := hcx.2.2.2.2.2.2.2.2.1 rfl
  simp only [V.num, V.text] at hc
  subst hc
  have hnb := scal_num hsc
  refine G ?_
  refine ⟨_, _, _, _, i, rfl, rfl, hi', ?_⟩
  refine G ?_
  refine ⟨_, .imm (hcc.mono hJ), ?_⟩
  refine G ?_
  refine ⟨[0,1,2,3,4,5,6,7,8,9,10], [], [], [], by kernel_rfl, ?_⟩
  refine G ?_
  refine .inr ?_
  refine G ?_
  refine from_9 hnb ?_
  refine G ?_
  refine .inl fun be I2 hi2 hce => ?_
  refine G ?_
  refine .own 900 i 1 cells.flatten (numC 9 n) rfl rfl ⟨rfl, by omega, rfl, hce⟩ rfl (by rw [show ti79.bytes = 88 by kernel_rfl]; omega) fun nb nc => ?_
  refine G ?_
  refine ⟨ks.length - (i + 1), _, _, by omega, rfl, rfl, rfl, rfl, .inl ⟨i + 1, nb, nc, cells ++ [numC 9 n], rfl, hi', rfl, rfl, ?_, by simp [hcl], fun j y d hy hd => ?_⟩⟩
  ·rw [List.flatten_append, List.flatten_cons, List.flatten_nil, List.append_nil]; rfl
  ·by_cases hji : j < i
   ·rw [List.getElem?_append_left (by omega)] at hd
    exact (hrep j y d hy hd).mono hi2
   ·obtain rfl : j = i := by
     have := (List.getElem?_eq_some_iff.1 hd).1
     simp at this
     omega
    rw [List.getElem?_append_right (by omega), hcl] at hd
    simp at hd
    rw [List.getElem?_map, List.getElem?_eq_getElem hi', Option.map_some, hx] at hy
    simp only [Option.some.injEq] at hy
    subst hd hy
    exact bk_num hsc (by decide)
 ·rename_i hge _
  obtain rfl : i = ks.length := by omega
  refine G ?_
  refine ⟨⟨[], [], [], [900], ?_⟩⟩
  intro J1 hJ1 ⟨n, hn, hsl⟩
  obtain rfl : ks.length = n := hn
  conv => whnf
  exact h J1 _ (hJ.trans hJ1) (.intro (n := 0) (t := []) (by omega) (by decide) (by omega) (by decide) ⟨by simpa using hlen, cells, by simpa using hsl, by simpa using hcl, fun j y d hy hd => (hrep j y d hy hd).mono hJ1⟩ (.nil J1))
theorem back_10 {ks : List V} {sv : Value} (hl : Row 1 (fun (x : V) c => elemC I 10 x.num x.text c) I ks sv) (hs : ∀ (i : Nat) (x : V), ks[i]? = some x → ∃ n t o, x = .mk 10 n t [] o [] ∧ Scal 10 n t)
  (h : ∀ I' cs', I.le I' → VRep I' (.mk 23 0 [] (ks.map bk) 10 []) cs' → Q (.agg cs'.toArray) [] [] I') : WP Tryz.prog 161 #[.int .i64 10, sv, .func (.func 162) #[] #[]] [] [] I Q := by
 obtain ⟨base, cap, rfl⟩ := hl.form
 have hlen := hl.1
 refine lw K161 [] [.int .i64 10, .slice base ks.length cap, .func (.func 162) #[] #[]] Tryz.func161 ?_
 refine G ?_
 intro b1
 refine G ?_
 intro b2
 refine G ?_
 refine ⟨⟨[14], [7], [(900, 6)], fun m vs cs R J => ∃ (i : Nat) (kb : Option Addr) (kc : Nat) (cells : List (List Value)), vs = [.int .i64 (i : Nat)] ∧ i ≤ ks.length ∧ m = ks.length - i ∧
   cs = [[.int .i64 23, .int .u64 0, strV [], .slice kb i kc, .int .i64 10, .slice none 0 0]] ∧ R = [(900, .vec (.slice kb i kc) 6 cells.flatten)] ∧ cells.length = i ∧
   (∀ (j : Nat) (y : V) (d : List Value), (ks.map bk)[j]? = some y → cells[j]? = some d → VRep J y d),
  ks.length, _, _, rfl, rfl, ⟨0, none, 0, [], rfl, by omega, rfl, rfl, rfl, rfl, by simp⟩, ?_⟩⟩
 rintro m vs cs R J hJ _ _ ⟨i, kb, kc, cells, rfl, hi, rfl, rfl, rfl, hcl, hrep⟩
 replace hJ : I.le J := hJ
 refine G ?_
 split
 ·rename_i hlt _
  have hi' : i < ks.length := by omega
  obtain ⟨fb, fo, rfl, _⟩ := Row.some hl (by omega)
  obtain ⟨cx, hcx, hcw, hcc⟩ := Row.get hl (i := i) (x := ks[i]) (by simp [hi'])
  obtain ⟨n, t, o, hx, hsc⟩ := hs i ks[i] (by simp [hi'])
  rw [hx] at hcx
  have hc := hcx.2.2.2.2.2.2.2.2.2.1 rfl
  simp only [V.num, V.text] at hc
  subst hc
  have hnb : n < 4294967296 := by cases hsc; assumption
  refine G ?_
  refine ⟨_, _, _, _, i, rfl, rfl, hi', ?_⟩
  refine G ?_
  refine ⟨_, .imm (hcc.mono hJ), ?_⟩
  refine G ?_
  refine ⟨[0,1,2,3,4,5,6,7,8,9,10], [], [], [], by kernel_rfl, ?_⟩
  refine G ?_
  refine .inr ?_
  refine G ?_
  refine from_10 hnb ?_
  refine G ?_
  refine .inl fun be I2 hi2 hce => ?_
  refine G ?_
  refine .own 900 i 1 cells.flatten (numC 10 n) rfl rfl ⟨rfl, by omega, rfl, hce⟩ rfl (by rw [show ti79.bytes = 88 by kernel_rfl]; omega) fun nb nc => ?_
  refine G ?_
  refine ⟨ks.length - (i + 1), _, _, by omega, rfl, rfl, rfl, rfl, .inl ⟨i + 1, nb, nc, cells ++ [numC 10 n], rfl, hi', rfl, rfl, ?_, by simp [hcl], fun j y d hy hd => ?_⟩⟩
  ·rw [List.flatten_append, List.flatten_cons, List.flatten_nil, List.append_nil]; rfl
  ·by_cases hji : j < i
   ·rw [List.getElem?_append_left (by omega)] at hd
    exact (hrep j y d hy hd).mono hi2
   ·obtain rfl : j = i := by
     have := (List.getElem?_eq_some_iff.1 hd).1
     simp at this
     omega
    rw [List.getElem?_append_right (by omega), hcl] at hd
    simp at hd
    rw [List.getElem?_map, List.getElem?_eq_getElem hi', Option.map_some, hx] at hy
    simp only [Option.some.injEq] at hy
    subst hd hy
    exact bk_num hsc (by decide)
 ·rename_i hge _
  obtain rfl : i = ks.length := by omega
  refine G ?_
  refine ⟨⟨[], [], [], [900], ?_⟩⟩
  intro J1 hJ1 ⟨n, hn, hsl⟩
  obtain rfl : ks.length = n := hn
  conv => whnf
  exact h J1 _ (hJ.trans hJ1) (.intro (n := 0) (t := []) (by omega) (by decide) (by omega) (by decide) ⟨by simpa using hlen, cells, by simpa using hsl, by simpa using hcl, fun j y d hy hd => (hrep j y d hy hd).mono hJ1⟩ (.nil J1))
theorem back_11 {ks : List V} {sv : Value} (hl : Row 1 (fun (x : V) c => elemC I 11 x.num x.text c) I ks sv) (hs : ∀ (i : Nat) (x : V), ks[i]? = some x → ∃ n t o, x = .mk 11 n t [] o [] ∧ Scal 11 n t)
  (h : ∀ I' cs', I.le I' → VRep I' (.mk 23 0 [] (ks.map bk) 11 []) cs' → Q (.agg cs'.toArray) [] [] I') : WP Tryz.prog 163 #[.int .i64 11, sv, .func (.func 140) #[] #[]] [] [] I Q := by
 obtain ⟨base, cap, rfl⟩ := hl.form
 have hlen := hl.1
 refine lw K163 [] [.int .i64 11, .slice base ks.length cap, .func (.func 140) #[] #[]] Tryz.func163 ?_
 refine G ?_
 intro b1
 refine G ?_
 intro b2
 refine G ?_
 refine ⟨⟨[14], [7], [(900, 6)], fun m vs cs R J => ∃ (i : Nat) (kb : Option Addr) (kc : Nat) (cells : List (List Value)), vs = [.int .i64 (i : Nat)] ∧ i ≤ ks.length ∧ m = ks.length - i ∧
   cs = [[.int .i64 23, .int .u64 0, strV [], .slice kb i kc, .int .i64 11, .slice none 0 0]] ∧ R = [(900, .vec (.slice kb i kc) 6 cells.flatten)] ∧ cells.length = i ∧
   (∀ (j : Nat) (y : V) (d : List Value), (ks.map bk)[j]? = some y → cells[j]? = some d → VRep J y d),
  ks.length, _, _, rfl, rfl, ⟨0, none, 0, [], rfl, by omega, rfl, rfl, rfl, rfl, by simp⟩, ?_⟩⟩
 rintro m vs cs R J hJ _ _ ⟨i, kb, kc, cells, rfl, hi, rfl, rfl, rfl, hcl, hrep⟩
 replace hJ : I.le J := hJ
 refine G ?_
 split
 ·rename_i hlt _
  have hi' : i < ks.length := by omega
  obtain ⟨fb, fo, rfl, _⟩ := Row.some hl (by omega)
  obtain ⟨cx, hcx, hcw, hcc⟩ := Row.get hl (i := i) (x := ks[i]) (by simp [hi'])
  obtain ⟨n, t, o, hx, hsc⟩ := hs i ks[i] (by simp [hi'])
  rw [hx] at hcx
  have hc := hcx.2.2.2.2.2.2.2.2.2.2.1 rfl
  simp only [V.num, V.text] at hc
  subst hc
  refine G ?_
  refine ⟨_, _, _, _, i, rfl, rfl, hi', ?_⟩
  refine G ?_
  refine ⟨_, .imm (hcc.mono hJ), ?_⟩
  refine G ?_
  refine ⟨[0,1,2,3,4,5,6,7,8,9,10], [], [], [], by kernel_rfl, ?_⟩
  refine G ?_
  refine .inl ⟨_, f64_bits _, ?_⟩
  refine G ?_
  refine .inl fun be I2 hi2 hce => ?_
  refine G ?_
  refine .own 900 i 1 cells.flatten (numC 11 n) rfl rfl ⟨rfl, by omega, rfl, hce⟩ rfl (by rw [show ti79.bytes = 88 by kernel_rfl]; omega) fun nb nc => ?_
  refine G ?_
  refine ⟨ks.length - (i + 1), _, _, by omega, rfl, rfl, rfl, rfl, .inl ⟨i + 1, nb, nc, cells ++ [numC 11 n], rfl, hi', rfl, rfl, ?_, by simp [hcl], fun j y d hy hd => ?_⟩⟩
  ·rw [List.flatten_append, List.flatten_cons, List.flatten_nil, List.append_nil]; rfl
  ·by_cases hji : j < i
   ·rw [List.getElem?_append_left (by omega)] at hd
    exact (hrep j y d hy hd).mono hi2
   ·obtain rfl : j = i := by
     have := (List.getElem?_eq_some_iff.1 hd).1
     simp at this
     omega
    rw [List.getElem?_append_right (by omega), hcl] at hd
    simp at hd
    rw [List.getElem?_map, List.getElem?_eq_getElem hi', Option.map_some, hx] at hy
    simp only [Option.some.injEq] at hy
    subst hd hy
    exact bk_num hsc (by decide)
 ·rename_i hge _
  obtain rfl : i = ks.length := by omega
  refine G ?_
  refine ⟨⟨[], [], [], [900], ?_⟩⟩
  intro J1 hJ1 ⟨n, hn, hsl⟩
  obtain rfl : ks.length = n := hn
  conv => whnf
  exact h J1 _ (hJ.trans hJ1) (.intro (n := 0) (t := []) (by omega) (by decide) (by omega) (by decide) ⟨by simpa using hlen, cells, by simpa using hsl, by simpa using hcl, fun j y d hy hd => (hrep j y d hy hd).mono hJ1⟩ (.nil J1))
theorem back_16 {ks : List V} {sv : Value} (hl : Row 2 (fun (x : V) c => elemC I 16 x.num x.text c) I ks sv) (hs : ∀ (i : Nat) (x : V), ks[i]? = some x → ∃ n t o, x = .mk 16 n t [] o [] ∧ Scal 16 n t)
  (h : ∀ I' cs', I.le I' → VRep I' (.mk 23 0 [] (ks.map bk) 16 []) cs' → Q (.agg cs'.toArray) [] [] I') : WP Tryz.prog 164 #[.int .i64 16, sv, .func (.func 165) #[] #[]] [] [] I Q := by
 obtain ⟨base, cap, rfl⟩ := hl.form
 have hlen := hl.1
 refine lw K164 [] [.int .i64 16, .slice base ks.length cap, .func (.func 165) #[] #[]] Tryz.func164 ?_
 refine G ?_
 intro b1
 refine G ?_
 intro b2
 refine G ?_
 refine ⟨⟨[14], [7], [(900, 6)], fun m vs cs R J => ∃ (i : Nat) (kb : Option Addr) (kc : Nat) (cells : List (List Value)), vs = [.int .i64 (i : Nat)] ∧ i ≤ ks.length ∧ m = ks.length - i ∧
   cs = [[.int .i64 23, .int .u64 0, strV [], .slice kb i kc, .int .i64 16, .slice none 0 0]] ∧ R = [(900, .vec (.slice kb i kc) 6 cells.flatten)] ∧ cells.length = i ∧
   (∀ (j : Nat) (y : V) (d : List Value), (ks.map bk)[j]? = some y → cells[j]? = some d → VRep J y d),
  ks.length, _, _, rfl, rfl, ⟨0, none, 0, [], rfl, by omega, rfl, rfl, rfl, rfl, by simp⟩, ?_⟩⟩
 rintro m vs cs R J hJ _ _ ⟨i, kb, kc, cells, rfl, hi, rfl, rfl, rfl, hcl, hrep⟩
 replace hJ : I.le J := hJ
 refine G ?_
 split
 ·rename_i hlt _
  have hi' : i < ks.length := by omega
  obtain ⟨fb, fo, rfl, _⟩ := Row.some hl (by omega)
  obtain ⟨cx, hcx, hcw, hcc⟩ := Row.get hl (i := i) (x := ks[i]) (by simp [hi'])
  obtain ⟨n, t, o, hx, hsc⟩ := hs i ks[i] (by simp [hi'])
  rw [hx] at hcx
  have hc := hcx.2.2.2.2.2.2.2.2.2.2.2.1 rfl
  simp only [V.num, V.text] at hc
  subst hc
  have hnb := scal_num hsc
  refine G ?_
  refine ⟨_, _, _, _, i, rfl, rfl, hi', ?_⟩
  refine G ?_
  refine ⟨_, .imm (hcc.mono hJ), rfl, ?_⟩
  refine G ?_
  intro b3
  refine G ?_
  refine ⟨[0,1,2,3,4,5,6,7,8,9,10], [], [], [], by kernel_rfl, ?_⟩
  refine G ?_
  refine .inr ?_
  refine G ?_
  refine from_16 hnb ?_
  refine G ?_
  refine .inl fun be I2 hi2 hce => ?_
  refine G ?_
  refine .own 900 i 1 cells.flatten (numC 16 n) rfl rfl ⟨rfl, by omega, rfl, hce⟩ rfl (by rw [show ti79.bytes = 88 by kernel_rfl]; omega) fun nb nc => ?_
  refine G ?_
  refine ⟨ks.length - (i + 1), _, _, by omega, rfl, rfl, rfl, rfl, .inl ⟨i + 1, nb, nc, cells ++ [numC 16 n], rfl, hi', rfl, rfl, ?_, by simp [hcl], fun j y d hy hd => ?_⟩⟩
  ·rw [List.flatten_append, List.flatten_cons, List.flatten_nil, List.append_nil]; rfl
  ·by_cases hji : j < i
   ·rw [List.getElem?_append_left (by omega)] at hd
    exact (hrep j y d hy hd).mono hi2
   ·obtain rfl : j = i := by
     have := (List.getElem?_eq_some_iff.1 hd).1
     simp at this
     omega
    rw [List.getElem?_append_right (by omega), hcl] at hd
    simp at hd
    rw [List.getElem?_map, List.getElem?_eq_getElem hi', Option.map_some, hx] at hy
    simp only [Option.some.injEq] at hy
    subst hd hy
    exact bk_num hsc (by decide)
 ·rename_i hge _
  obtain rfl : i = ks.length := by omega
  refine G ?_
  refine ⟨⟨[], [], [], [900], ?_⟩⟩
  intro J1 hJ1 ⟨n, hn, hsl⟩
  obtain rfl : ks.length = n := hn
  conv => whnf
  exact h J1 _ (hJ.trans hJ1) (.intro (n := 0) (t := []) (by omega) (by decide) (by omega) (by decide) ⟨by simpa using hlen, cells, by simpa using hsl, by simpa using hcl, fun j y d hy hd => (hrep j y d hy hd).mono hJ1⟩ (.nil J1))
end bk
section bk
variable {I : Imm} {Q : Qt}
theorem back_17 {ks : List V} {sv : Value} (hl : Row 16 (fun (x : V) c => elemC I 17 x.num x.text c) I ks sv) (hs : ∀ (i : Nat) (x : V), ks[i]? = some x → ∃ n t o, x = .mk 17 n t [] o [] ∧ Scal 17 n t)
  (h : ∀ I' cs', I.le I' → VRep I' (.mk 23 0 [] (ks.map bk) 17 []) cs' → Q (.agg cs'.toArray) [] [] I') : WP Tryz.prog 166 #[.int .i64 17, sv, .func (.func 167) #[] #[]] [] [] I Q := by
 obtain ⟨base, cap, rfl⟩ := hl.form
 have hlen := hl.1
 refine lw K166 [] [.int .i64 17, .slice base ks.length cap, .func (.func 167) #[] #[]] Tryz.func166 ?_
 refine G ?_
 intro b1
 refine G ?_
 intro b2
 refine G ?_
 refine ⟨⟨[14], [7], [(900, 6)], fun m vs cs R J => ∃ (i : Nat) (kb : Option Addr) (kc : Nat) (cells : List (List Value)), vs = [.int .i64 (i : Nat)] ∧ i ≤ ks.length ∧ m = ks.length - i ∧
   cs = [[.int .i64 23, .int .u64 0, strV [], .slice kb i kc, .int .i64 17, .slice none 0 0]] ∧ R = [(900, .vec (.slice kb i kc) 6 cells.flatten)] ∧ cells.length = i ∧
   (∀ (j : Nat) (y : V) (d : List Value), (ks.map bk)[j]? = some y → cells[j]? = some d → VRep J y d),
  ks.length, _, _, rfl, rfl, ⟨0, none, 0, [], rfl, by omega, rfl, rfl, rfl, rfl, by simp⟩, ?_⟩⟩
 rintro m vs cs R J hJ _ _ ⟨i, kb, kc, cells, rfl, hi, rfl, rfl, rfl, hcl, hrep⟩
 replace hJ : I.le J := hJ
 refine G ?_
 split
 ·rename_i hlt _
  have hi' : i < ks.length := by omega
  obtain ⟨fb, fo, rfl, _⟩ := Row.some hl (by omega)
  obtain ⟨cx, hcx, hcw, hcc⟩ := Row.get hl (i := i) (x := ks[i]) (by simp [hi'])
  obtain ⟨n, t, o, hx, hsc⟩ := hs i ks[i] (by simp [hi'])
  rw [hx] at hcx
  have hc := hcx.2.2.2.2.2.2.2.2.2.2.2.2.1 rfl
  simp only [V.num, V.text] at hc
  subst hc
  have ht : t.length = 16 := by cases hsc; assumption
  obtain ⟨x0, x1, x2, x3, x4, x5, x6, x7, x8, x9, x10, x11, x12, x13, x14, x15, rfl⟩ := list16 ht
  refine G ?_
  refine ⟨_, _, _, _, i, rfl, rfl, hi', ?_⟩
  refine G ?_
  refine ⟨_, .imm (hcc.mono hJ), rfl, ?_⟩
  refine G ?_
  intro b3
  refine G ?_
  refine ⟨[0,1,2,3,4,5,6,7,8,9,10], [], [], [], by kernel_rfl, ?_⟩
  refine G ?_
  refine .inr ?_
  refine G ?_
  refine from_17 ht ?_
  refine G ?_
  refine .inl fun be I2 hi2 hce => ?_
  refine G ?_
  refine .own 900 i 1 cells.flatten (textC 17 [x0, x1, x2, x3, x4, x5, x6, x7, x8, x9, x10, x11, x12, x13, x14, x15]) rfl rfl ⟨rfl, by omega, rfl, hce⟩ rfl (by rw [show ti79.bytes = 88 by kernel_rfl]; omega) fun nb nc => ?_
  refine G ?_
  refine ⟨ks.length - (i + 1), _, _, by omega, rfl, rfl, rfl, rfl, .inl ⟨i + 1, nb, nc, cells ++ [textC 17 [x0, x1, x2, x3, x4, x5, x6, x7, x8, x9, x10, x11, x12, x13, x14, x15]], rfl, hi', rfl, rfl, ?_, by simp [hcl], fun j y d hy hd => ?_⟩⟩
  ·rw [List.flatten_append, List.flatten_cons, List.flatten_nil, List.append_nil]; rfl
  ·by_cases hji : j < i
   ·rw [List.getElem?_append_left (by omega)] at hd
    exact (hrep j y d hy hd).mono hi2
   ·obtain rfl : j = i := by
     have := (List.getElem?_eq_some_iff.1 hd).1
     simp at this
     omega
    rw [List.getElem?_append_right (by omega), hcl] at hd
    simp at hd
    rw [List.getElem?_map, List.getElem?_eq_getElem hi', Option.map_some, hx] at hy
    simp only [Option.some.injEq] at hy
    subst hd hy
    exact bk_text hsc (by decide)
 ·rename_i hge _
  obtain rfl : i = ks.length := by omega
  refine G ?_
  refine ⟨⟨[], [], [], [900], ?_⟩⟩
  intro J1 hJ1 ⟨n, hn, hsl⟩
  obtain rfl : ks.length = n := hn
  conv => whnf
  exact h J1 _ (hJ.trans hJ1) (.intro (n := 0) (t := []) (by omega) (by decide) (by omega) (by decide) ⟨by simpa using hlen, cells, by simpa using hsl, by simpa using hcl, fun j y d hy hd => (hrep j y d hy hd).mono hJ1⟩ (.nil J1))
theorem back_18 {ks : List V} {sv : Value} (hl : Row 1 (fun (x : V) c => elemC I 18 x.num x.text c) I ks sv) (hs : ∀ (i : Nat) (x : V), ks[i]? = some x → ∃ n t o, x = .mk 18 n t [] o [] ∧ Scal 18 n t)
  (h : ∀ I' cs', I.le I' → VRep I' (.mk 23 0 [] (ks.map bk) 18 []) cs' → Q (.agg cs'.toArray) [] [] I') : WP Tryz.prog 168 #[.int .i64 18, sv, .func (.func 169) #[] #[]] [] [] I Q := by
 obtain ⟨base, cap, rfl⟩ := hl.form
 have hlen := hl.1
 refine lw K168 [] [.int .i64 18, .slice base ks.length cap, .func (.func 169) #[] #[]] Tryz.func168 ?_
 refine G ?_
 intro b1
 refine G ?_
 intro b2
 refine G ?_
 refine ⟨⟨[14], [7], [(900, 6)], fun m vs cs R J => ∃ (i : Nat) (kb : Option Addr) (kc : Nat) (cells : List (List Value)), vs = [.int .i64 (i : Nat)] ∧ i ≤ ks.length ∧ m = ks.length - i ∧
   cs = [[.int .i64 23, .int .u64 0, strV [], .slice kb i kc, .int .i64 18, .slice none 0 0]] ∧ R = [(900, .vec (.slice kb i kc) 6 cells.flatten)] ∧ cells.length = i ∧
   (∀ (j : Nat) (y : V) (d : List Value), (ks.map bk)[j]? = some y → cells[j]? = some d → VRep J y d),
  ks.length, _, _, rfl, rfl, ⟨0, none, 0, [], rfl, by omega, rfl, rfl, rfl, rfl, by simp⟩, ?_⟩⟩
 rintro m vs cs R J hJ _ _ ⟨i, kb, kc, cells, rfl, hi, rfl, rfl, rfl, hcl, hrep⟩
 replace hJ : I.le J := hJ
 refine G ?_
 split
 ·rename_i hlt _
  have hi' : i < ks.length := by omega
  obtain ⟨fb, fo, rfl, _⟩ := Row.some hl (by omega)
  obtain ⟨cx, hcx, hcw, hcc⟩ := Row.get hl (i := i) (x := ks[i]) (by simp [hi'])
  obtain ⟨n, t, o, hx, hsc⟩ := hs i ks[i] (by simp [hi'])
  rw [hx] at hcx
  have hc := hcx.2.2.2.2.2.2.2.2.2.2.2.2.2.1 rfl
  simp only [V.num, V.text] at hc
  obtain ⟨ev, rfl, hev⟩ := hc
  obtain ⟨eb, ec, rfl⟩ := bytes_form hev
  refine G ?_
  refine ⟨_, _, _, _, i, rfl, rfl, hi', ?_⟩
  refine G ?_
  refine ⟨_, .imm (hcc.mono hJ), ?_⟩
  refine G ?_
  refine ⟨[0,1,2,3,4,5,6,7,8,9,10], [], [], [], by kernel_rfl, ?_⟩
  refine G ?_
  refine .inr ?_
  refine G ?_
  refine from_18 (bytes_mono hJ hev) ?_
  refine G ?_
  refine .inl fun be I2 hi2 hce => ?_
  refine G ?_
  refine .own 900 i 1 cells.flatten (textC 18 t) rfl rfl ⟨rfl, by omega, rfl, hce⟩ rfl (by rw [show ti79.bytes = 88 by kernel_rfl]; omega) fun nb nc => ?_
  refine G ?_
  refine ⟨ks.length - (i + 1), _, _, by omega, rfl, rfl, rfl, rfl, .inl ⟨i + 1, nb, nc, cells ++ [textC 18 t], rfl, hi', rfl, rfl, ?_, by simp [hcl], fun j y d hy hd => ?_⟩⟩
  ·rw [List.flatten_append, List.flatten_cons, List.flatten_nil, List.append_nil]; rfl
  ·by_cases hji : j < i
   ·rw [List.getElem?_append_left (by omega)] at hd
    exact (hrep j y d hy hd).mono hi2
   ·obtain rfl : j = i := by
     have := (List.getElem?_eq_some_iff.1 hd).1
     simp at this
     omega
    rw [List.getElem?_append_right (by omega), hcl] at hd
    simp at hd
    rw [List.getElem?_map, List.getElem?_eq_getElem hi', Option.map_some, hx] at hy
    simp only [Option.some.injEq] at hy
    subst hd hy
    exact bk_text hsc (by decide)
 ·rename_i hge _
  obtain rfl : i = ks.length := by omega
  refine G ?_
  refine ⟨⟨[], [], [], [900], ?_⟩⟩
  intro J1 hJ1 ⟨n, hn, hsl⟩
  obtain rfl : ks.length = n := hn
  conv => whnf
  exact h J1 _ (hJ.trans hJ1) (.intro (n := 0) (t := []) (by omega) (by decide) (by omega) (by decide) ⟨by simpa using hlen, cells, by simpa using hsl, by simpa using hcl, fun j y d hy hd => (hrep j y d hy hd).mono hJ1⟩ (.nil J1))
theorem back_19 {ks : List V} {sv : Value} (hl : Row 1 (fun (x : V) c => elemC I 19 x.num x.text c) I ks sv) (hs : ∀ (i : Nat) (x : V), ks[i]? = some x → ∃ n t o, x = .mk 19 n t [] o [] ∧ Scal 19 n t)
  (h : ∀ I' cs', I.le I' → VRep I' (.mk 23 0 [] (ks.map bk) 19 []) cs' → Q (.agg cs'.toArray) [] [] I') : WP Tryz.prog 170 #[.int .i64 19, sv, .func (.func 171) #[] #[]] [] [] I Q := by
 obtain ⟨base, cap, rfl⟩ := hl.form
 have hlen := hl.1
 refine lw K170 [] [.int .i64 19, .slice base ks.length cap, .func (.func 171) #[] #[]] Tryz.func170 ?_
 refine G ?_
 intro b1
 refine G ?_
 intro b2
 refine G ?_
 refine ⟨⟨[14], [7], [(900, 6)], fun m vs cs R J => ∃ (i : Nat) (kb : Option Addr) (kc : Nat) (cells : List (List Value)), vs = [.int .i64 (i : Nat)] ∧ i ≤ ks.length ∧ m = ks.length - i ∧
   cs = [[.int .i64 23, .int .u64 0, strV [], .slice kb i kc, .int .i64 19, .slice none 0 0]] ∧ R = [(900, .vec (.slice kb i kc) 6 cells.flatten)] ∧ cells.length = i ∧
   (∀ (j : Nat) (y : V) (d : List Value), (ks.map bk)[j]? = some y → cells[j]? = some d → VRep J y d),
  ks.length, _, _, rfl, rfl, ⟨0, none, 0, [], rfl, by omega, rfl, rfl, rfl, rfl, by simp⟩, ?_⟩⟩
 rintro m vs cs R J hJ _ _ ⟨i, kb, kc, cells, rfl, hi, rfl, rfl, rfl, hcl, hrep⟩
 replace hJ : I.le J := hJ
 refine G ?_
 split
 ·rename_i hlt _
  have hi' : i < ks.length := by omega
  obtain ⟨fb, fo, rfl, _⟩ := Row.some hl (by omega)
  obtain ⟨cx, hcx, hcw, hcc⟩ := Row.get hl (i := i) (x := ks[i]) (by simp [hi'])
  obtain ⟨n, t, o, hx, hsc⟩ := hs i ks[i] (by simp [hi'])
  rw [hx] at hcx
  have hc := hcx.2.2.2.2.2.2.2.2.2.2.2.2.2.2 (.inl rfl)
  simp only [V.num, V.text] at hc
  subst hc
  refine G ?_
  refine ⟨_, _, _, _, i, rfl, rfl, hi', ?_⟩
  refine G ?_
  refine ⟨_, .imm (hcc.mono hJ), ?_⟩
  refine G ?_
  refine ⟨[0,1,2,3,4,5,6,7,8,9,10], [], [], [], by kernel_rfl, ?_⟩
  refine G ?_
  refine .inr ?_
  refine G ?_
  refine from_19  ?_
  refine G ?_
  refine .inl fun be I2 hi2 hce => ?_
  refine G ?_
  refine .own 900 i 1 cells.flatten (textC 19 t) rfl rfl ⟨rfl, by omega, rfl, hce⟩ rfl (by rw [show ti79.bytes = 88 by kernel_rfl]; omega) fun nb nc => ?_
  refine G ?_
  refine ⟨ks.length - (i + 1), _, _, by omega, rfl, rfl, rfl, rfl, .inl ⟨i + 1, nb, nc, cells ++ [textC 19 t], rfl, hi', rfl, rfl, ?_, by simp [hcl], fun j y d hy hd => ?_⟩⟩
  ·rw [List.flatten_append, List.flatten_cons, List.flatten_nil, List.append_nil]; rfl
  ·by_cases hji : j < i
   ·rw [List.getElem?_append_left (by omega)] at hd
    exact (hrep j y d hy hd).mono hi2
   ·obtain rfl : j = i := by
     have := (List.getElem?_eq_some_iff.1 hd).1
     simp at this
     omega
    rw [List.getElem?_append_right (by omega), hcl] at hd
    simp at hd
    rw [List.getElem?_map, List.getElem?_eq_getElem hi', Option.map_some, hx] at hy
    simp only [Option.some.injEq] at hy
    subst hd hy
    exact bk_text hsc (by decide)
 ·rename_i hge _
  obtain rfl : i = ks.length := by omega
  refine G ?_
  refine ⟨⟨[], [], [], [900], ?_⟩⟩
  intro J1 hJ1 ⟨n, hn, hsl⟩
  obtain rfl : ks.length = n := hn
  conv => whnf
  exact h J1 _ (hJ.trans hJ1) (.intro (n := 0) (t := []) (by omega) (by decide) (by omega) (by decide) ⟨by simpa using hlen, cells, by simpa using hsl, by simpa using hcl, fun j y d hy hd => (hrep j y d hy hd).mono hJ1⟩ (.nil J1))
theorem back_20 {ks : List V} {sv : Value} (hl : Row 1 (fun (x : V) c => elemC I 20 x.num x.text c) I ks sv) (hs : ∀ (i : Nat) (x : V), ks[i]? = some x → ∃ n t o, x = .mk 20 n t [] o [] ∧ Scal 20 n t)
  (h : ∀ I' cs', I.le I' → VRep I' (.mk 23 0 [] (ks.map bk) 20 []) cs' → Q (.agg cs'.toArray) [] [] I') : WP Tryz.prog 172 #[.int .i64 20, sv, .func (.func 173) #[] #[]] [] [] I Q := by
 obtain ⟨base, cap, rfl⟩ := hl.form
 have hlen := hl.1
 refine lw K172 [] [.int .i64 20, .slice base ks.length cap, .func (.func 173) #[] #[]] Tryz.func172 ?_
 refine G ?_
 intro b1
 refine G ?_
 intro b2
 refine G ?_
 refine ⟨⟨[14], [7], [(900, 6)], fun m vs cs R J => ∃ (i : Nat) (kb : Option Addr) (kc : Nat) (cells : List (List Value)), vs = [.int .i64 (i : Nat)] ∧ i ≤ ks.length ∧ m = ks.length - i ∧
   cs = [[.int .i64 23, .int .u64 0, strV [], .slice kb i kc, .int .i64 20, .slice none 0 0]] ∧ R = [(900, .vec (.slice kb i kc) 6 cells.flatten)] ∧ cells.length = i ∧
   (∀ (j : Nat) (y : V) (d : List Value), (ks.map bk)[j]? = some y → cells[j]? = some d → VRep J y d),
  ks.length, _, _, rfl, rfl, ⟨0, none, 0, [], rfl, by omega, rfl, rfl, rfl, rfl, by simp⟩, ?_⟩⟩
 rintro m vs cs R J hJ _ _ ⟨i, kb, kc, cells, rfl, hi, rfl, rfl, rfl, hcl, hrep⟩
 replace hJ : I.le J := hJ
 refine G ?_
 split
 ·rename_i hlt _
  have hi' : i < ks.length := by omega
  obtain ⟨fb, fo, rfl, _⟩ := Row.some hl (by omega)
  obtain ⟨cx, hcx, hcw, hcc⟩ := Row.get hl (i := i) (x := ks[i]) (by simp [hi'])
  obtain ⟨n, t, o, hx, hsc⟩ := hs i ks[i] (by simp [hi'])
  rw [hx] at hcx
  have hc := hcx.2.2.2.2.2.2.2.2.2.2.2.2.2.2 (.inr rfl)
  simp only [V.num, V.text] at hc
  subst hc
  refine G ?_
  refine ⟨_, _, _, _, i, rfl, rfl, hi', ?_⟩
  refine G ?_
  refine ⟨_, .imm (hcc.mono hJ), ?_⟩
  refine G ?_
  refine ⟨[0,1,2,3,4,5,6,7,8,9,10], [], [], [], by kernel_rfl, ?_⟩
  refine G ?_
  refine .inr ?_
  refine G ?_
  refine from_20  ?_
  refine G ?_
  refine .inl fun be I2 hi2 hce => ?_
  refine G ?_
  refine .own 900 i 1 cells.flatten (textC 20 t) rfl rfl ⟨rfl, by omega, rfl, hce⟩ rfl (by rw [show ti79.bytes = 88 by kernel_rfl]; omega) fun nb nc => ?_
  refine G ?_
  refine ⟨ks.length - (i + 1), _, _, by omega, rfl, rfl, rfl, rfl, .inl ⟨i + 1, nb, nc, cells ++ [textC 20 t], rfl, hi', rfl, rfl, ?_, by simp [hcl], fun j y d hy hd => ?_⟩⟩
  ·rw [List.flatten_append, List.flatten_cons, List.flatten_nil, List.append_nil]; rfl
  ·by_cases hji : j < i
   ·rw [List.getElem?_append_left (by omega)] at hd
    exact (hrep j y d hy hd).mono hi2
   ·obtain rfl : j = i := by
     have := (List.getElem?_eq_some_iff.1 hd).1
     simp at this
     omega
    rw [List.getElem?_append_right (by omega), hcl] at hd
    simp at hd
    rw [List.getElem?_map, List.getElem?_eq_getElem hi', Option.map_some, hx] at hy
    simp only [Option.some.injEq] at hy
    subst hd hy
    exact bk_text hsc (by decide)
 ·rename_i hge _
  obtain rfl : i = ks.length := by omega
  refine G ?_
  refine ⟨⟨[], [], [], [900], ?_⟩⟩
  intro J1 hJ1 ⟨n, hn, hsl⟩
  obtain rfl : ks.length = n := hn
  conv => whnf
  exact h J1 _ (hJ.trans hJ1) (.intro (n := 0) (t := []) (by omega) (by decide) (by omega) (by decide) ⟨by simpa using hlen, cells, by simpa using hsl, by simpa using hcl, fun j y d hy hd => (hrep j y d hy hd).mono hJ1⟩ (.nil J1))
end bk
def VdP (x : V) : Prop := ∀ (I : Imm) (g : Value) (Q : Qt), Utf I → GoAny I x g →
 (∀ I' y cs, I.le I' → Back x y → VRep I' y cs → Q (.tuple #[.agg cs.toArray, .bool true]) [] [] I') → WP Tryz.prog 86 #[g] [] [] I Q
section vd
variable {I : Imm} {Q : Qt}
theorem vd_0  (h : Q (.tuple #[.agg (numC 0 0).toArray, .bool true]) [] [] I) : WP Tryz.prog 86 #[.nilIface] [] [] I Q := by
 refine lw K86 [] _ Tryz.func86 ?_
 refine G ?_
 intro b1
 refine G ?_
 refine L0 ?_
 exact h
theorem vd_1 {n : Nat} (hn : n < 2) (h : Q (.tuple #[.agg (numC 1 n).toArray, .bool true]) [] [] I) : WP Tryz.prog 86 #[.iface 4 (.bool (n == 1))] [] [] I Q := by
 refine lw K86 [] _ Tryz.func86 ?_
 refine G ?_
 intro b1
 refine G ?_
 refine Cx [] ?_
 refine from_1 hn ?_
 refine G ?_
 refine L0 ?_
 exact h
theorem vd_2 {n : Nat} (hn : n < 256) (h : Q (.tuple #[.agg (numC 2 n).toArray, .bool true]) [] [] I) : WP Tryz.prog 86 #[.iface 5 (.int .u8 (n : Nat))] [] [] I Q := by
 refine lw K86 [] _ Tryz.func86 ?_
 refine G ?_
 intro b1
 refine G ?_
 refine L0 ?_
 exact h
theorem vd_3 {n : Nat} (hn : n < 65536) (h : Q (.tuple #[.agg (numC 3 n).toArray, .bool true]) [] [] I) : WP Tryz.prog 86 #[.iface 44 (.int .u16 (n : Nat))] [] [] I Q := by
 refine lw K86 [] _ Tryz.func86 ?_
 refine G ?_
 intro b1
 refine G ?_
 refine L0 ?_
 exact h
theorem vd_4 {n : Nat} (hn : n < 4294967296) (h : Q (.tuple #[.agg (numC 4 n).toArray, .bool true]) [] [] I) : WP Tryz.prog 86 #[.iface 43 (.int .u32 (n : Nat))] [] [] I Q := by
 refine lw K86 [] _ Tryz.func86 ?_
 refine G ?_
 intro b1
 refine G ?_
 refine L0 ?_
 exact h
theorem vd_5 {n : Nat} (h : Q (.tuple #[.agg (numC 5 n).toArray, .bool true]) [] [] I) : WP Tryz.prog 86 #[.iface 23 (.int .u64 (n : Nat))] [] [] I Q := by
 refine lw K86 [] _ Tryz.func86 ?_
 refine G ?_
 intro b1
 refine G ?_
 refine L0 ?_
 exact h
theorem vd_6 {n : Nat} (hn : n < 18446744073709551616) (h : Q (.tuple #[.agg (numC 6 n).toArray, .bool true]) [] [] I) : WP Tryz.prog 86 #[.iface 207 (.int .i8 (sg n))] [] [] I Q := by
 refine lw K86 [] _ Tryz.func86 ?_
 refine G ?_
 intro b1
 conv => whnf
 refine ⟨_, wrapU64_sg hn, ?_⟩
 refine G ?_
 refine L0 ?_
 exact h
theorem vd_7 {n : Nat} (hn : n < 18446744073709551616) (h : Q (.tuple #[.agg (numC 7 n).toArray, .bool true]) [] [] I) : WP Tryz.prog 86 #[.iface 211 (.int .i16 (sg n))] [] [] I Q := by
 refine lw K86 [] _ Tryz.func86 ?_
 refine G ?_
 intro b1
 conv => whnf
 refine ⟨_, wrapU64_sg hn, ?_⟩
 refine G ?_
 refine L0 ?_
 exact h
theorem vd_8 {n : Nat} (hn : n < 18446744073709551616) (h : Q (.tuple #[.agg (numC 8 n).toArray, .bool true]) [] [] I) : WP Tryz.prog 86 #[.iface 21 (.int .i32 (sg n))] [] [] I Q := by
 refine lw K86 [] _ Tryz.func86 ?_
 refine G ?_
 intro b1
 conv => whnf
 refine ⟨_, wrapU64_sg hn, ?_⟩
 refine G ?_
 refine L0 ?_
 exact h
theorem vd_9 {n : Nat} (hn : n < 18446744073709551616) (h : Q (.tuple #[.agg (numC 9 n).toArray, .bool true]) [] [] I) : WP Tryz.prog 86 #[.iface 2 (.int .i64 (sg n))] [] [] I Q := by
 refine lw K86 [] _ Tryz.func86 ?_
 refine G ?_
 intro b1
 conv => whnf
 refine ⟨_, wrapU64_sg hn, ?_⟩
 refine G ?_
 refine L0 ?_
 exact h
theorem vd_10 {n : Nat} (hn : n < 4294967296) (h : Q (.tuple #[.agg (numC 10 n).toArray, .bool true]) [] [] I) : WP Tryz.prog 86 #[.iface 227 (.float .f32 n)] [] [] I Q := by
 refine lw K86 [] _ Tryz.func86 ?_
 refine G ?_
 intro b1
 refine G ?_
 refine .inl ⟨_, f32_bits _, ?_⟩
 refine G ?_
 refine L0 ?_
 exact h
theorem vd_11 {n : Nat} (h : Q (.tuple #[.agg (numC 11 n).toArray, .bool true]) [] [] I) : WP Tryz.prog 86 #[.iface 231 (.float .f64 n)] [] [] I Q := by
 refine lw K86 [] _ Tryz.func86 ?_
 refine G ?_
 intro b1
 refine G ?_
 refine .inl ⟨_, f64_bits _, ?_⟩
 refine G ?_
 refine L0 ?_
 exact h
theorem vd_16 {n : Nat} (hn : n < 18446744073709551616) (h : Q (.tuple #[.agg (numC 16 n).toArray, .bool true]) [] [] I) : WP Tryz.prog 86 #[.iface 243 (timeV (sg n))] [] [] I Q := by
 have hr : -9223372036854775808 ≤ sg n ∧ sg n < 9223372036854775808 := by unfold sg; split <;> omega
 refine lw K86 [] _ Tryz.func86 ?_
 refine G ?_
 intro b1
 refine G ?_
 intro b2
 refine G ?_
 refine Cx [] ?_
 refine UnixMilli_law hr ?_
 conv => whnf
 refine ⟨_, wrapU64_sg hn, ?_⟩
 refine G ?_
 refine L0 ?_
 exact h
theorem vd_17 {t : List UInt8} (ht : t.length = 16) (h : Q (.tuple #[.agg (textC 17 t).toArray, .bool true]) [] [] I) : WP Tryz.prog 86 #[.iface 311 (uuidV t)] [] [] I Q := by
 obtain ⟨x0, x1, x2, x3, x4, x5, x6, x7, x8, x9, x10, x11, x12, x13, x14, x15, rfl⟩ := list16 ht
 refine lw K86 [] [.iface 311 (uuidV [x0, x1, x2, x3, x4, x5, x6, x7, x8, x9, x10, x11, x12, x13, x14, x15])] Tryz.func86 ?_
 refine G ?_
 intro b1
 refine G ?_
 intro b2
 refine G ?_
 refine ⟨[x0, x1, x2, x3, x4, x5, x6, x7, x8, x9, x10, x11, x12, x13, x14, x15], .own (Nat.le_refl _) (.loc 17 _ rfl fun j x h => by rw [Nat.zero_add]; exact h), ?_⟩
 refine G ?_
 refine L0 ?_
 exact h
theorem vd_18 {t : List UInt8} {sv : Value} (hb : BytesAt I t sv) (h : Q (.tuple #[.agg (textC 18 t).toArray, .bool true]) [] [] I) : WP Tryz.prog 86 #[.iface 24 sv] [] [] I Q := by
 obtain ⟨base, cap, rfl⟩ := bytes_form hb
 refine lw K86 [] [.iface 24 (.slice base t.length cap)] Tryz.func86 ?_
 refine G ?_
 intro b1
 refine G ?_
 refine ⟨_, .imm hb, ?_⟩
 refine G ?_
 refine L0 ?_
 exact h
theorem vd_19 {t : List UInt8} (h : Q (.tuple #[.agg (textC 19 t).toArray, .bool true]) [] [] I) : WP Tryz.prog 86 #[.iface 9 (strV t)] [] [] I Q := by
 refine lw K86 [] _ Tryz.func86 ?_
 refine G ?_
 intro b1
 refine G ?_
 refine L0 ?_
 exact h
theorem vd_sc {k : Int} {n : Nat} {t : List UInt8} {o : Int} (hs : Scal k n t) : VdP (.mk k n t [] o []) := by
 intro I g Q hu hg h
 have num : ∀ k', asKind k' = asKind k → k' ≤ 16 → -9223372036854775808 ≤ k' → t = [] → Q (.tuple #[.agg (numC k' n).toArray, .bool true]) [] [] I := fun k' e hk hk' ht => by
  subst ht
  exact h I (.mk k' n [] [] 0 []) _ (.refl I) (.sc e) (vNum_rep (by omega) (scal_num hs))
 have txt : ∀ k', asKind k' = asKind k → 17 ≤ k' → k' ≤ 20 → n = 0 → Q (.tuple #[.agg (textC k' t).toArray, .bool true]) [] [] I := fun k' e hk hk' hn => by
  subst hn
  exact h I (.mk k' 0 t [] 0 []) _ (.refl I) (.sc e) (vText_rep (by omega) (by have := scal_text hs; omega))
 cases hg with
 | list => cases hs
 | arr => cases hs
 | map => cases hs
 | smap => cases hs
 | bin _ hb => exact vd_18 hb (txt 18 rfl (by decide) (by decide) (by cases hs; rfl))
 | sc _ hk =>
  cases hs with
  | null => exact vd_0 (num 0 rfl (by decide) (by decide) rfl)
  | bool hn => exact vd_1 hn (num 1 rfl (by decide) (by decide) rfl)
  | ubyte hn => exact vd_2 hn (num 2 rfl (by decide) (by decide) rfl)
  | ushort hn => exact vd_3 hn (num 3 rfl (by decide) (by decide) rfl)
  | uint hn => exact vd_4 hn (num 4 rfl (by decide) (by decide) rfl)
  | ulong hn => exact vd_5 (num 5 rfl (by decide) (by decide) rfl)
  | byte hn => exact vd_6 (by omega) (num 6 rfl (by decide) (by decide) rfl)
  | short hn => exact vd_7 (by omega) (num 7 rfl (by decide) (by decide) rfl)
  | int hn => exact vd_8 (by omega) (num 8 rfl (by decide) (by decide) rfl)
  | long hn => exact vd_9 hn (num 9 rfl (by decide) (by decide) rfl)
  | float hn => exact vd_10 hn (num 10 rfl (by decide) (by decide) rfl)
  | double hn => exact vd_11 (num 11 rfl (by decide) (by decide) rfl)
  | time hn => exact vd_16 hn (num 16 rfl (by decide) (by decide) rfl)
  | uuid ht => exact vd_17 ht (txt 17 rfl (by decide) (by decide) rfl)
  | bin => exact absurd rfl hk
  | str => exact vd_19 (txt 19 rfl (by decide) (by decide) rfl)
  | sym => exact vd_19 (txt 19 rfl (by decide) (by decide) rfl)
theorem bk_back {ks : List V} {o k : Int} (h : ∀ (i : Nat) (x : V), ks[i]? = some x → ∃ n t o, x = .mk k n t [] o [] ∧ Scal k n t) : Back (.mk 23 0 [] ks o []) (.mk 23 0 [] (ks.map bk) k []) :=
 .arr (by simp) fun i x y hx hy => by
  rw [List.getElem?_map, hx] at hy
  simp only [Option.map_some, Option.some.injEq] at hy
  exact hy.symm
theorem vd_arr {ks : List V} {o k : Int} (hk : arrK k) (hn : 0 < ks.length) (hs : ∀ (i : Nat) (x : V), ks[i]? = some x → ∃ n t o, x = .mk k n t [] o [] ∧ Scal k n t) : VdP (.mk 23 0 [] ks o []) := by
 intro I g Q hu hg h
 cases hg with
 | sc hsc => cases hsc
 | arr hk' hn' hr hs' =>
  rename_i k' sv
  have hkk : k' = k := by
   obtain ⟨n, t, o1, e1, _⟩ := hs 0 ks[0] (by simp)
   obtain ⟨n2, t2, o2, e2, _⟩ := hs' 0 ks[0] (by simp)
   rw [e1] at e2
   injection e2 with e2
   exact e2.symm
  subst hkk
  have fin : ∀ I' cs', I.le I' → VRep I' (.mk 23 0 [] (ks.map bk) k' []) cs' → Q (.tuple #[.agg cs'.toArray, .bool true]) [] [] I' := fun I' cs' hi hr => h I' _ _ hi (bk_back hs) hr
  rcases (show k' = 1 ∨ k' = 2 ∨ k' = 3 ∨ k' = 4 ∨ k' = 5 ∨ k' = 6 ∨ k' = 7 ∨ k' = 8 ∨ k' = 9 ∨ k' = 10 ∨ k' = 11 ∨ k' = 16 ∨ k' = 17 ∨ k' = 18 ∨ k' = 19 ∨ k' = 20 by unfold arrK at hk; omega) with rfl | rfl | rfl | rfl | rfl | rfl | rfl | rfl | rfl | rfl | rfl | rfl | rfl | rfl | rfl | rfl
  ·obtain ⟨sb, sc, rfl⟩ := hr.form
   refine lw K86 [] [.iface 315 (.slice sb ks.length sc)] Tryz.func86 ?_
   refine G ?_
   intro b1
   refine G ?_
   refine Cx [] ?_
   refine back_1 hr hs fun I1 cs1 hi1 hr1 => ?_
   have hr1' := hr1
   obtain ⟨xb, xc, xd, xe, rfl, _⟩ := hr1.inv2
   refine G ?_
   refine L0 ?_
   exact fin I1 _ hi1 hr1'
  ·obtain ⟨sb, sc, rfl⟩ := hr.form
   refine lw K86 [] [.iface 317 (.slice sb ks.length sc)] Tryz.func86 ?_
   refine G ?_
   intro b1
   refine G ?_
   refine Cx [] ?_
   refine back_2 hr hs fun I1 cs1 hi1 hr1 => ?_
   have hr1' := hr1
   obtain ⟨xb, xc, xd, xe, rfl, _⟩ := hr1.inv2
   refine G ?_
   refine L0 ?_
   exact fin I1 _ hi1 hr1'
  ·obtain ⟨sb, sc, rfl⟩ := hr.form
   refine lw K86 [] [.iface 320 (.slice sb ks.length sc)] Tryz.func86 ?_
   refine G ?_
   intro b1
   refine G ?_
   refine Cx [] ?_
   refine back_3 hr hs fun I1 cs1 hi1 hr1 => ?_
   have hr1' := hr1
   obtain ⟨xb, xc, xd, xe, rfl, _⟩ := hr1.inv2
   refine G ?_
   refine L0 ?_
   exact fin I1 _ hi1 hr1'
  ·obtain ⟨sb, sc, rfl⟩ := hr.form
   refine lw K86 [] [.iface 53 (.slice sb ks.length sc)] Tryz.func86 ?_
   refine G ?_
   intro b1
   refine G ?_
   refine Cx [] ?_
   refine back_4 hr hs fun I1 cs1 hi1 hr1 => ?_
   have hr1' := hr1
   obtain ⟨xb, xc, xd, xe, rfl, _⟩ := hr1.inv2
   refine G ?_
   refine L0 ?_
   exact fin I1 _ hi1 hr1'
  ·obtain ⟨sb, sc, rfl⟩ := hr.form
   refine lw K86 [] [.iface 325 (.slice sb ks.length sc)] Tryz.func86 ?_
   refine G ?_
   intro b1
   refine G ?_
   refine Cx [] ?_
   refine back_5 hr hs fun I1 cs1 hi1 hr1 => ?_
   have hr1' := hr1
   obtain ⟨xb, xc, xd, xe, rfl, _⟩ := hr1.inv2
   refine G ?_
   refine L0 ?_
   exact fin I1 _ hi1 hr1'
  ·obtain ⟨sb, sc, rfl⟩ := hr.form
   refine lw K86 [] [.iface 328 (.slice sb ks.length sc)] Tryz.func86 ?_
   refine G ?_
   intro b1
   refine G ?_
   refine Cx [] ?_
   refine back_6 hr hs fun I1 cs1 hi1 hr1 => ?_
   have hr1' := hr1
   obtain ⟨xb, xc, xd, xe, rfl, _⟩ := hr1.inv2
   refine G ?_
   refine L0 ?_
   exact fin I1 _ hi1 hr1'
  ·obtain ⟨sb, sc, rfl⟩ := hr.form
   refine lw K86 [] [.iface 331 (.slice sb ks.length sc)] Tryz.func86 ?_
   refine G ?_
   intro b1
   refine G ?_
   refine Cx [] ?_
   refine back_7 hr hs fun I1 cs1 hi1 hr1 => ?_
   have hr1' := hr1
   obtain ⟨xb, xc, xd, xe, rfl, _⟩ := hr1.inv2
   refine G ?_
   refine L0 ?_
   exact fin I1 _ hi1 hr1'
  ·obtain ⟨sb, sc, rfl⟩ := hr.form
   refine lw K86 [] [.iface 334 (.slice sb ks.length sc)] Tryz.func86 ?_
   refine G ?_
   intro b1
   refine G ?_
   refine Cx [] ?_
   refine back_8 hr hs fun I1 cs1 hi1 hr1 => ?_
   have hr1' := hr1
   obtain ⟨xb, xc, xd, xe, rfl, _⟩ := hr1.inv2
   refine G ?_
   refine L0 ?_
   exact fin I1 _ hi1 hr1'
  ·obtain ⟨sb, sc, rfl⟩ := hr.form
   refine lw K86 [] [.iface 337 (.slice sb ks.length sc)] Tryz.func86 ?_
   refine G ?_
   intro b1
   refine G ?_
   refine Cx [] ?_
   refine back_9 hr hs fun I1 cs1 hi1 hr1 => ?_
   have hr1' := hr1
   obtain ⟨xb, xc, xd, xe, rfl, _⟩ := hr1.inv2
   refine G ?_
   refine L0 ?_
   exact fin I1 _ hi1 hr1'
  ·obtain ⟨sb, sc, rfl⟩ := hr.form
   refine lw K86 [] [.iface 340 (.slice sb ks.length sc)] Tryz.func86 ?_
   refine G ?_
   intro b1
   refine G ?_
   refine Cx [] ?_
   refine back_10 hr hs fun I1 cs1 hi1 hr1 => ?_
   have hr1' := hr1
   obtain ⟨xb, xc, xd, xe, rfl, _⟩ := hr1.inv2
   refine G ?_
   refine L0 ?_
   exact fin I1 _ hi1 hr1'
  ·obtain ⟨sb, sc, rfl⟩ := hr.form
   refine lw K86 [] [.iface 343 (.slice sb ks.length sc)] Tryz.func86 ?_
   refine G ?_
   intro b1
   refine G ?_
   refine Cx [] ?_
   refine back_11 hr hs fun I1 cs1 hi1 hr1 => ?_
   have hr1' := hr1
   obtain ⟨xb, xc, xd, xe, rfl, _⟩ := hr1.inv2
   refine G ?_
   refine L0 ?_
   exact fin I1 _ hi1 hr1'
  ·obtain ⟨sb, sc, rfl⟩ := hr.form
   refine lw K86 [] [.iface 345 (.slice sb ks.length sc)] Tryz.func86 ?_
   refine G ?_
   intro b1
   refine G ?_
   refine Cx [] ?_
   refine back_16 hr hs fun I1 cs1 hi1 hr1 => ?_
   have hr1' := hr1
   obtain ⟨xb, xc, xd, xe, rfl, _⟩ := hr1.inv2
   refine G ?_
   refine L0 ?_
   exact fin I1 _ hi1 hr1'
  ·obtain ⟨sb, sc, rfl⟩ := hr.form
   refine lw K86 [] [.iface 348 (.slice sb ks.length sc)] Tryz.func86 ?_
   refine G ?_
   intro b1
   refine G ?_
   refine Cx [] ?_
   refine back_17 hr hs fun I1 cs1 hi1 hr1 => ?_
   have hr1' := hr1
   obtain ⟨xb, xc, xd, xe, rfl, _⟩ := hr1.inv2
   refine G ?_
   refine L0 ?_
   exact fin I1 _ hi1 hr1'
  ·obtain ⟨sb, sc, rfl⟩ := hr.form
   refine lw K86 [] [.iface 351 (.slice sb ks.length sc)] Tryz.func86 ?_
   refine G ?_
   intro b1
   refine G ?_
   refine Cx [] ?_
   refine back_18 hr hs fun I1 cs1 hi1 hr1 => ?_
   have hr1' := hr1
   obtain ⟨xb, xc, xd, xe, rfl, _⟩ := hr1.inv2
   refine G ?_
   refine L0 ?_
   exact fin I1 _ hi1 hr1'
  ·obtain ⟨sb, sc, rfl⟩ := hr.form
   refine lw K86 [] [.iface 45 (.slice sb ks.length sc)] Tryz.func86 ?_
   refine G ?_
   intro b1
   refine G ?_
   refine Cx [] ?_
   refine back_19 hr hs fun I1 cs1 hi1 hr1 => ?_
   have hr1' := hr1
   obtain ⟨xb, xc, xd, xe, rfl, _⟩ := hr1.inv2
   refine G ?_
   refine L0 ?_
   exact fin I1 _ hi1 hr1'
  ·obtain ⟨sb, sc, rfl⟩ := hr.form
   refine lw K86 [] [.iface 97 (.slice sb ks.length sc)] Tryz.func86 ?_
   refine G ?_
   intro b1
   refine G ?_
   refine Cx [] ?_
   refine back_20 hr hs fun I1 cs1 hi1 hr1 => ?_
   have hr1' := hr1
   obtain ⟨xb, xc, xd, xe, rfl, _⟩ := hr1.inv2
   refine G ?_
   refine L0 ?_
   exact fin I1 _ hi1 hr1'
theorem listed_law {ks : List V} {cells : List Value} {sv : Value} (hu : Utf I) (hk : ∀ (i : Nat) (y : V), ks[i]? = some y → VdP y) (hn : ks.length < 1099511627776) (hs : SlAt I 1 ks.length cells sv) (hg : ∀ (i : Nat) (x : V) (c : Value), ks[i]? = some x → cells[i]? = some c → GoAny I x c)
  (h : ∀ I' ks' v', I.le I' → ks'.length = ks.length → (∀ (i : Nat) (x y : V), ks[i]? = some x → ks'[i]? = some y → Back x y) → VsRep I' ks' v' → Q (.tuple #[v', .bool true]) [] [] I') : WP Tryz.prog 142 #[sv] [] [] I Q := by
 obtain ⟨base, cap, rfl⟩ := slAt_form hs
 have hcl := (slAt_le hs).2.2
 rw [Nat.mul_one] at hcl
 refine lw K142 [] [.slice base ks.length cap] Tryz.func142 ?_
 refine G ?_
 refine ⟨⟨[11, 4], [], [(900, 6)], fun m vs cs R J => ∃ (i : Nat) (kb : Option Addr) (kc : Nat) (ys : List V) (cells : List (List Value)), vs = [.int .i64 (i : Nat), .slice kb i kc] ∧ cs = [] ∧ i ≤ ks.length ∧ m = ks.length - i ∧
   R = [(900, .vec (.slice kb i kc) 6 cells.flatten)] ∧ cells.length = i ∧ ys.length = i ∧ (∀ (j : Nat) (y : V) (d : List Value), ys[j]? = some y → cells[j]? = some d → VRep J y d) ∧ (∀ (j : Nat) (x y : V), ks[j]? = some x → ys[j]? = some y → Back x y),
  ks.length, _, _, rfl, rfl, ⟨0, none, 0, [], [], rfl, rfl, by omega, rfl, rfl, rfl, rfl, by simp, by simp⟩, ?_⟩⟩
 rintro m vs cs R J hJ _ _ ⟨i, kb, kc, ys, cells2, rfl, rfl, hi, rfl, rfl, hcl2, hyl, hrep, hbk⟩
 replace hJ : I.le J := hJ
 refine G ?_
 split
 ·rename_i hlt _
  have hi' : i < ks.length := by omega
  obtain ⟨fb, fo, rfl, _, _, _, hcells⟩ := slAt_some hs (by omega)
  have hc0 : cells[i]? = some (cells[i]'(by omega)) := by simp
  have hga := hg i ks[i] _ (by simp [hi']) hc0
  have hload := hcells i _ hc0
  generalize cells[i]'(by omega) = g at hc0 hga hload
  have hload' : CellsAt I fb (fo + i * 1) [g] := fun j y e => by
   cases j with
   | zero => simp at e; subst e; rw [Nat.mul_one]; exact hload
   | succ j => simp at e
  refine G ?_
  refine ⟨_, _, _, _, i, rfl, rfl, hi', ?_⟩
  refine G ?_
  refine ⟨_, .imm (hload'.mono hJ), ?_⟩
  rcases hga.form with rfl | ⟨ty, p, rfl⟩
  all_goals
   refine G ?_
   refine Cx [] ?_
   refine hk i ks[i] (by simp [hi']) J _ _ (hu.mono hJ) (hga.mono hJ) fun I1 y c1 hi1 hb1 hr1 => ?_
   have hr1' := hr1
   obtain ⟨xb, xc, xd, xe, rfl, _⟩ := hr1.inv2
   refine G ?_
   intro b7
   refine G ?_
   refine .inl fun be I2 hi2 hce => ?_
   refine G ?_
   refine .own 900 i 1 cells2.flatten (cellsOf y xb xc xd xe) rfl rfl ⟨rfl, by omega, rfl, hce⟩ rfl (by rw [show ti79.bytes = 88 by kernel_rfl]; omega) fun nb nc => ?_
   refine G ?_
   refine ⟨ks.length - (i + 1), _, _, by omega, rfl, rfl, rfl, rfl, .inl ⟨i + 1, nb, nc, ys ++ [y], cells2 ++ [cellsOf y xb xc xd xe], rfl, rfl, hi', rfl, ?_, by simp [hcl2], by simp [hyl], fun j z d hy hd => ?_, fun j x z hx hz => ?_⟩⟩
   ·rw [List.flatten_append, List.flatten_cons, List.flatten_nil, List.append_nil]; rfl
   ·by_cases hji : j < i
    ·rw [List.getElem?_append_left (by omega)] at hd hy
     exact (hrep j z d hy hd).mono (hi1.trans hi2)
    ·obtain rfl : j = i := by
      have := (List.getElem?_eq_some_iff.1 hd).1
      simp at this
      omega
     rw [List.getElem?_append_right (by omega), hcl2] at hd
     rw [List.getElem?_append_right (by omega), hyl] at hy
     simp at hd hy
     subst hd hy
     exact hr1'.mono hi2
   ·by_cases hji : j < i
    ·rw [List.getElem?_append_left (by omega)] at hz
     exact hbk j x z hx hz
    ·obtain rfl : j = i := by
      have := (List.getElem?_eq_some_iff.1 hz).1
      simp at this
      omega
     rw [List.getElem?_append_right (by omega), hyl] at hz
     simp [hi'] at hx hz
     subst hx hz
     exact hb1
 ·rename_i hge _
  obtain rfl : i = ks.length := by omega
  refine G ?_
  refine ⟨⟨[], [], [], [900], ?_⟩⟩
  intro J1 hJ1 ⟨n, hn2, hsl⟩
  obtain rfl : ks.length = n := hn2
  conv => whnf
  exact h J1 ys _ (hJ.trans hJ1) hyl hbk ⟨by omega, cells2, by rw [hyl]; exact hsl, by omega, fun j y d hy hd => (hrep j y d hy hd).mono hJ1⟩
theorem vd_list {ks : List V} {o : Int} (hk : ∀ (i : Nat) (y : V), ks[i]? = some y → VdP y) (hn : ks.length < 1099511627776) : VdP (.mk 21 0 [] ks o []) := by
 intro I g Q hu hg h
 cases hg with
 | sc hsc => cases hsc
 | list hs hg =>
  rename_i cells sv
  obtain ⟨base, cap, rfl⟩ := slAt_form hs
  refine lw K86 [] [.iface 312 (.slice base ks.length cap)] Tryz.func86 ?_
  refine G ?_
  intro b1
  refine G ?_
  refine Cx [] ?_
  refine listed_law hu hk hn hs hg fun I1 ks' v' hi1 hl hb hr => ?_
  have hr' := hr
  obtain ⟨xb, xc, rfl⟩ := hr.form
  refine G ?_
  refine L0 ?_
  exact h I1 (.mk 21 0 [] ks' 0 []) _ hi1 (.list hl hb) (.intro (n := 0) (t := []) (by omega) (by decide) (by omega) (by decide) hr' (.nil I1))
end vd
inductive NoD : V → Prop where
 | mk {x : V} (h : x.desc = []) (hk : ∀ (i : Nat) (y : V), x.kids[i]? = some y → NoD y) : NoD x
theorem Usual_law : ∀ (m : Nat) (x : V) {cs : List Value} {I : Imm} {Q : Qt}, x.sz ≤ m → VRep I x cs → NoD x →
  (∀ I' cs', I.le I' → VRep I' (usual x) cs' → Q (.agg cs'.toArray) [] [] I') → WP Tryz.prog 179 #[.agg cs.toArray] [] [] I Q := by
 intro m
 induction m with
 | zero => intro x cs I Q h; have := x.sz_pos; omega
 | succ m ih =>
  intro x cs I Q hsz hr hnd h
  obtain ⟨kb, kc, db, dc, rfl, hvk, hvd, hkr, hnr, hor, htr⟩ := hr.inv2
  have hkl := hvk.1
  obtain ⟨hnd0, hnk⟩ := hnd
  have hx : x = .mk x.kind x.num x.text x.kids x.of x.desc := by cases x; rfl
  have hdl : x.desc.length = 0 := by rw [hnd0]; rfl
  refine lw K179 [] [.agg #[.int .i64 x.kind, .int .u64 (x.num : Nat), strV x.text, .slice kb x.kids.length kc, .int .i64 x.of, .slice db x.desc.length dc]] Tryz.func179 ?_
  refine G ?_
  intro b1
  refine G ?_
  intro b2
  refine G ?_
  intro b3
  refine G ?_
  split
  ·rename_i e _
   have hus : usual x = .mk 19 0 x.text (x.kids.map usual) 0 x.desc := by rw [hx, e, usual_sym]; rfl
   refine G ?_
   (first | (split; omega) | (split; rotate_left; omega)); refine G ?_
   refine ⟨⟨[42], [3], [(900, 6)], fun m vs cs R J => ∃ (i : Nat) (kb' : Option Addr) (kc' : Nat) (cells : List (List Value)), vs = [.int .i64 (i : Nat)] ∧ i ≤ x.kids.length ∧ m = x.kids.length - i ∧
     cs = [[.int .i64 19, .int .u64 0, strV x.text, .slice kb' i kc', .int .i64 0, .slice db x.desc.length dc]] ∧ R = [(900, .vec (.slice kb' i kc') 6 cells.flatten)] ∧ cells.length = i ∧
     (∀ (j : Nat) (y : V) (d : List Value), (x.kids.map usual)[j]? = some y → cells[j]? = some d → VRep J y d),
    x.kids.length, _, _, rfl, rfl, ⟨0, none, 0, [], rfl, by omega, rfl, rfl, rfl, rfl, by simp⟩, ?_⟩⟩
   rintro m' vs cs R J hJ _ _ ⟨i, kb', kc', cells, rfl, hi, rfl, rfl, rfl, hcl, hrep⟩
   replace hJ : I.le J := hJ
   refine G ?_
   split
   ·rename_i hlt _
    have hi' : i < x.kids.length := by omega
    obtain ⟨fb1, fo1, hfb1, _⟩ := hvk.some (by omega)
    cases hfb1
    obtain ⟨cx, hcx, hcc⟩ := hvk.get (i := i) (x := x.kids[i]) (by simp [hi'])
    have hcx' := hcx
    obtain ⟨xb, xc, xd, xe, rfl, _⟩ := hcx.inv2
    refine G ?_
    refine ⟨_, _, _, _, i, rfl, rfl, hi', ?_⟩
    refine G ?_
    refine ⟨_, .imm (hcc.mono hJ), rfl, ?_⟩
    refine G ?_
    intro b5
    refine G ?_
    refine ⟨[0,1,2,3,4,5,6,7], [], [], [], by kernel_rfl, ?_⟩
    refine G ?_
    refine .inr ?_
    refine G ?_
    refine ih x.kids[i] (by have := V.sz_kid (a := x) (x := x.kids[i]) (by simp); omega) (hcx'.mono hJ) (hnk i x.kids[i] (by simp [hi'])) fun I1 c1 hi1 hr1 => ?_
    have hr1' := hr1
    obtain ⟨yb, yc, yd, ye, rfl, _⟩ := hr1.inv2
    refine G ?_
    refine .inl fun be I2 hi2 hce => ?_
    refine G ?_
    refine .own 900 i 1 cells.flatten (cellsOf (usual x.kids[i]) yb yc yd ye) rfl rfl ⟨rfl, by omega, rfl, hce⟩ rfl (by rw [show ti79.bytes = 88 by kernel_rfl]; omega) fun nb nc => ?_
    refine G ?_
    refine ⟨_, _, _, ?_, rfl, rfl, rfl, rfl, .inl ⟨i + 1, nb, nc, cells ++ [cellsOf (usual x.kids[i]) yb yc yd ye], ?_, hi', rfl, rfl, ?_, by simp [hcl], fun j y d hy hd => ?_⟩⟩
    ·omega
    ·rfl
    ·rw [List.flatten_append, List.flatten_cons, List.flatten_nil, List.append_nil]; rfl
    ·by_cases hji : j < i
     ·rw [List.getElem?_append_left (by omega)] at hd
      exact (hrep j y d hy hd).mono (hi1.trans hi2)
     ·obtain rfl : j = i := by
       have := (List.getElem?_eq_some_iff.1 hd).1
       simp at this
       omega
      rw [List.getElem?_append_right (by omega), hcl] at hd
      simp at hd
      simp [hi'] at hy
      subst hd hy
      exact hr1'.mono hi2
   ·rename_i hge _
    obtain rfl : i = x.kids.length := by omega
    refine G ?_
    repeat ((first | (split; omega) | (split; rotate_left; omega)); refine G ?_)
    refine ⟨⟨[], [], [], [900], ?_⟩⟩
    intro I2 hi2 ⟨n, hn, hsl⟩
    have hn' : x.kids.length = n := hn
    subst hn'
    conv => whnf
    refine h I2 _ (hJ.trans hi2) ?_
    rw [hus]
    exact .intro (by omega) (by omega) (by omega) htr ⟨by simpa using hkl, cells, by simpa using hsl, by simpa using hcl, fun j y d hy hd => (hrep j y d hy hd).mono hi2⟩ (hvd.mono (hJ.trans hi2))
  ·rename_i e _
   refine G ?_
   split
   ·rename_i e2 _
    refine G ?_
    split
    ·rename_i e3 _
     obtain ⟨fb, fo, rfl, _⟩ := hvk.some (by omega)
     obtain ⟨cx, hcx, hcc⟩ := hvk.get (i := 0) (x := x.kids[0]) (by simp)
     obtain ⟨xb, xc, xd, xe, rfl, _⟩ := hcx.inv2
     refine G ?_
     refine ⟨_, _, _, _, 0, rfl, rfl, by omega, ?_⟩
     refine G ?_
     refine ⟨_, .imm (cell_of hcc 0 rfl), ?_⟩
     refine G ?_
     split
     ·rename_i e4 _
      obtain ⟨z, hz⟩ := List.length_eq_one_iff.1 (show x.kids.length = 1 by omega)
      have hz0 : x.kids[0] = z := by simp [hz]
      rw [hz0] at e4 hcx
      have hus : usual x = .mk 19 0 z.text [] 0 [] := by rw [hx, hz, show x.kind = 23 by omega, usual_one e4]
      rw [hz0] at hcc
      refine G ?_
      refine ⟨_, _, _, _, 0, rfl, rfl, by omega, ?_⟩
      refine G ?_
      refine plus0_mk ?_
      refine G ?_
      refine ⟨_, .imm (cell_of hcc 2 rfl), ?_⟩
      refine G ?_
      refine L0 ?_
      refine h I (textC 19 z.text) (.refl I) ?_
      rw [hus]
      exact vText_rep (by omega) hcx.inv2.choose_spec.choose_spec.choose_spec.choose_spec.2.2.2.2.2.2
     ·rename_i e4 _
      have hus : usual x = .mk x.kind x.num x.text (x.kids.map usual) x.of x.desc := by
       rw [hx]
       refine usual_other e ?_
       rintro ⟨_, z, hz, hz2⟩
       have hz' : x.kids = [z] := hz
       exact e4 (by simp [hz', hz2])
      refine G ?_
      refine ⟨⟨[42], [3], [(900, 6)], fun m vs cs R J => ∃ (i : Nat) (kb' : Option Addr) (kc' : Nat) (cells : List (List Value)), vs = [.int .i64 (i : Nat)] ∧ i ≤ x.kids.length ∧ m = x.kids.length - i ∧
        cs = [[.int .i64 x.kind, .int .u64 (x.num : Nat), strV x.text, .slice kb' i kc', .int .i64 x.of, .slice db x.desc.length dc]] ∧ R = [(900, .vec (.slice kb' i kc') 6 cells.flatten)] ∧ cells.length = i ∧
        (∀ (j : Nat) (y : V) (d : List Value), (x.kids.map usual)[j]? = some y → cells[j]? = some d → VRep J y d),
       x.kids.length, _, _, rfl, rfl, ⟨0, none, 0, [], rfl, by omega, rfl, rfl, rfl, rfl, by simp⟩, ?_⟩⟩
      rintro m' vs cs R J hJ _ _ ⟨i, kb', kc', cells, rfl, hi, rfl, rfl, rfl, hcl, hrep⟩
      replace hJ : I.le J := hJ
      refine G ?_
      split
      ·rename_i hlt _
       have hi' : i < x.kids.length := by omega
       obtain ⟨fb1, fo1, hfb1, _⟩ := hvk.some (by omega)
       cases hfb1
       obtain ⟨cx, hcx, hcc⟩ := hvk.get (i := i) (x := x.kids[i]) (by simp [hi'])
       have hcx' := hcx
       obtain ⟨xb, xc, xd, xe, rfl, _⟩ := hcx.inv2
       refine G ?_
       refine ⟨_, _, _, _, i, rfl, rfl, hi', ?_⟩
       refine G ?_
       refine ⟨_, .imm (hcc.mono hJ), rfl, ?_⟩
       refine G ?_
       intro b5
       refine G ?_
       refine ⟨[0,1,2,3,4,5,6,7], [], [], [], by kernel_rfl, ?_⟩
       refine G ?_
       refine .inr ?_
       refine G ?_
       refine ih x.kids[i] (by have := V.sz_kid (a := x) (x := x.kids[i]) (by simp); omega) (hcx'.mono hJ) (hnk i x.kids[i] (by simp [hi'])) fun I1 c1 hi1 hr1 => ?_
       have hr1' := hr1
       obtain ⟨yb, yc, yd, ye, rfl, _⟩ := hr1.inv2
       refine G ?_
       refine .inl fun be I2 hi2 hce => ?_
       refine G ?_
       refine .own 900 i 1 cells.flatten (cellsOf (usual x.kids[i]) yb yc yd ye) rfl rfl ⟨rfl, by omega, rfl, hce⟩ rfl (by rw [show ti79.bytes = 88 by kernel_rfl]; omega) fun nb nc => ?_
       refine G ?_
       refine ⟨_, _, _, ?_, rfl, rfl, rfl, rfl, .inl ⟨i + 1, nb, nc, cells ++ [cellsOf (usual x.kids[i]) yb yc yd ye], ?_, hi', rfl, rfl, ?_, by simp [hcl], fun j y d hy hd => ?_⟩⟩
       ·omega
       ·rfl
       ·rw [List.flatten_append, List.flatten_cons, List.flatten_nil, List.append_nil]; rfl
       ·by_cases hji : j < i
        ·rw [List.getElem?_append_left (by omega)] at hd
         exact (hrep j y d hy hd).mono (hi1.trans hi2)
        ·obtain rfl : j = i := by
          have := (List.getElem?_eq_some_iff.1 hd).1
          simp at this
          omega
         rw [List.getElem?_append_right (by omega), hcl] at hd
         simp at hd
         simp [hi'] at hy
         subst hd hy
         exact hr1'.mono hi2
      ·rename_i hge _
       obtain rfl : i = x.kids.length := by omega
       refine G ?_
       repeat ((first | (split; omega) | (split; rotate_left; omega)); refine G ?_)
       refine ⟨⟨[], [], [], [900], ?_⟩⟩
       intro I2 hi2 ⟨n, hn, hsl⟩
       have hn' : x.kids.length = n := hn
       subst hn'
       conv => whnf
       refine h I2 _ (hJ.trans hi2) ?_
       rw [hus]
       exact .intro hkr hnr hor htr ⟨by simpa using hkl, cells, by simpa using hsl, by simpa using hcl, fun j y d hy hd => (hrep j y d hy hd).mono hi2⟩ (hvd.mono (hJ.trans hi2))
    ·rename_i e3 _
     have hus : usual x = .mk x.kind x.num x.text (x.kids.map usual) x.of x.desc := by
      rw [hx]
      refine usual_other e ?_
      rintro ⟨_, z, hz, hz2⟩
      have hz' : x.kids = [z] := hz
      exact e3 (by simp [hz'])
     refine G ?_
     refine ⟨⟨[42], [3], [(900, 6)], fun m vs cs R J => ∃ (i : Nat) (kb' : Option Addr) (kc' : Nat) (cells : List (List Value)), vs = [.int .i64 (i : Nat)] ∧ i ≤ x.kids.length ∧ m = x.kids.length - i ∧
       cs = [[.int .i64 x.kind, .int .u64 (x.num : Nat), strV x.text, .slice kb' i kc', .int .i64 x.of, .slice db x.desc.length dc]] ∧ R = [(900, .vec (.slice kb' i kc') 6 cells.flatten)] ∧ cells.length = i ∧
       (∀ (j : Nat) (y : V) (d : List Value), (x.kids.map usual)[j]? = some y → cells[j]? = some d → VRep J y d),
      x.kids.length, _, _, rfl, rfl, ⟨0, none, 0, [], rfl, by omega, rfl, rfl, rfl, rfl, by simp⟩, ?_⟩⟩
     rintro m' vs cs R J hJ _ _ ⟨i, kb', kc', cells, rfl, hi, rfl, rfl, rfl, hcl, hrep⟩
     replace hJ : I.le J := hJ
     refine G ?_
     split
     ·rename_i hlt _
      have hi' : i < x.kids.length := by omega
      obtain ⟨fb1, fo1, hfb1, _⟩ := hvk.some (by omega)
      cases hfb1
      obtain ⟨cx, hcx, hcc⟩ := hvk.get (i := i) (x := x.kids[i]) (by simp [hi'])
      have hcx' := hcx
      obtain ⟨xb, xc, xd, xe, rfl, _⟩ := hcx.inv2
      refine G ?_
      refine ⟨_, _, _, _, i, rfl, rfl, hi', ?_⟩
      refine G ?_
      refine ⟨_, .imm (hcc.mono hJ), rfl, ?_⟩
      refine G ?_
      intro b5
      refine G ?_
      refine ⟨[0,1,2,3,4,5,6,7], [], [], [], by kernel_rfl, ?_⟩
      refine G ?_
      refine .inr ?_
      refine G ?_
      refine ih x.kids[i] (by have := V.sz_kid (a := x) (x := x.kids[i]) (by simp); omega) (hcx'.mono hJ) (hnk i x.kids[i] (by simp [hi'])) fun I1 c1 hi1 hr1 => ?_
      have hr1' := hr1
      obtain ⟨yb, yc, yd, ye, rfl, _⟩ := hr1.inv2
      refine G ?_
      refine .inl fun be I2 hi2 hce => ?_
      refine G ?_
      refine .own 900 i 1 cells.flatten (cellsOf (usual x.kids[i]) yb yc yd ye) rfl rfl ⟨rfl, by omega, rfl, hce⟩ rfl (by rw [show ti79.bytes = 88 by kernel_rfl]; omega) fun nb nc => ?_
      refine G ?_
      refine ⟨_, _, _, ?_, rfl, rfl, rfl, rfl, .inl ⟨i + 1, nb, nc, cells ++ [cellsOf (usual x.kids[i]) yb yc yd ye], ?_, hi', rfl, rfl, ?_, by simp [hcl], fun j y d hy hd => ?_⟩⟩
      ·omega
      ·rfl
      ·rw [List.flatten_append, List.flatten_cons, List.flatten_nil, List.append_nil]; rfl
      ·by_cases hji : j < i
       ·rw [List.getElem?_append_left (by omega)] at hd
        exact (hrep j y d hy hd).mono (hi1.trans hi2)
       ·obtain rfl : j = i := by
         have := (List.getElem?_eq_some_iff.1 hd).1
         simp at this
         omega
        rw [List.getElem?_append_right (by omega), hcl] at hd
        simp at hd
        simp [hi'] at hy
        subst hd hy
        exact hr1'.mono hi2
     ·rename_i hge _
      obtain rfl : i = x.kids.length := by omega
      refine G ?_
      repeat ((first | (split; omega) | (split; rotate_left; omega)); refine G ?_)
      refine ⟨⟨[], [], [], [900], ?_⟩⟩
      intro I2 hi2 ⟨n, hn, hsl⟩
      have hn' : x.kids.length = n := hn
      subst hn'
      conv => whnf
      refine h I2 _ (hJ.trans hi2) ?_
      rw [hus]
      exact .intro hkr hnr hor htr ⟨by simpa using hkl, cells, by simpa using hsl, by simpa using hcl, fun j y d hy hd => (hrep j y d hy hd).mono hi2⟩ (hvd.mono (hJ.trans hi2))
   ·rename_i e2 _
    have hus : usual x = .mk x.kind x.num x.text (x.kids.map usual) x.of x.desc := by
     rw [hx]
     exact usual_other e fun h => e2 h.1
    refine G ?_
    by_cases e21 : x.kind = 21
    all_goals
     refine ⟨⟨[42], [3], [(900, 6)], fun m vs cs R J => ∃ (i : Nat) (kb' : Option Addr) (kc' : Nat) (cells : List (List Value)), vs = [.int .i64 (i : Nat)] ∧ i ≤ x.kids.length ∧ m = x.kids.length - i ∧
       cs = [[.int .i64 x.kind, .int .u64 (x.num : Nat), strV x.text, .slice kb' i kc', .int .i64 x.of, .slice db x.desc.length dc]] ∧ R = [(900, .vec (.slice kb' i kc') 6 cells.flatten)] ∧ cells.length = i ∧
       (∀ (j : Nat) (y : V) (d : List Value), (x.kids.map usual)[j]? = some y → cells[j]? = some d → VRep J y d),
      x.kids.length, _, _, rfl, rfl, ⟨0, none, 0, [], rfl, by omega, rfl, rfl, rfl, rfl, by simp⟩, ?_⟩⟩
     rintro m' vs cs R J hJ _ _ ⟨i, kb', kc', cells, rfl, hi, rfl, rfl, rfl, hcl, hrep⟩
     replace hJ : I.le J := hJ
     refine G ?_
     split
     ·rename_i hlt _
      have hi' : i < x.kids.length := by omega
      obtain ⟨fb1, fo1, hfb1, _⟩ := hvk.some (by omega)
      cases hfb1
      obtain ⟨cx, hcx, hcc⟩ := hvk.get (i := i) (x := x.kids[i]) (by simp [hi'])
      have hcx' := hcx
      obtain ⟨xb, xc, xd, xe, rfl, _⟩ := hcx.inv2
      refine G ?_
      refine ⟨_, _, _, _, i, rfl, rfl, hi', ?_⟩
      refine G ?_
      refine ⟨_, .imm (hcc.mono hJ), rfl, ?_⟩
      refine G ?_
      intro b5
      refine G ?_
      refine ⟨[0,1,2,3,4,5,6,7], [], [], [], by kernel_rfl, ?_⟩
      refine G ?_
      refine .inr ?_
      refine G ?_
      refine ih x.kids[i] (by have := V.sz_kid (a := x) (x := x.kids[i]) (by simp); omega) (hcx'.mono hJ) (hnk i x.kids[i] (by simp [hi'])) fun I1 c1 hi1 hr1 => ?_
      have hr1' := hr1
      obtain ⟨yb, yc, yd, ye, rfl, _⟩ := hr1.inv2
      refine G ?_
      refine .inl fun be I2 hi2 hce => ?_
      refine G ?_
      refine .own 900 i 1 cells.flatten (cellsOf (usual x.kids[i]) yb yc yd ye) rfl rfl ⟨rfl, by omega, rfl, hce⟩ rfl (by rw [show ti79.bytes = 88 by kernel_rfl]; omega) fun nb nc => ?_
      refine G ?_
      refine ⟨_, _, _, ?_, rfl, rfl, rfl, rfl, .inl ⟨i + 1, nb, nc, cells ++ [cellsOf (usual x.kids[i]) yb yc yd ye], ?_, hi', rfl, rfl, ?_, by simp [hcl], fun j y d hy hd => ?_⟩⟩
      ·omega
      ·rfl
      ·rw [List.flatten_append, List.flatten_cons, List.flatten_nil, List.append_nil]; rfl
      ·by_cases hji : j < i
       ·rw [List.getElem?_append_left (by omega)] at hd
        exact (hrep j y d hy hd).mono (hi1.trans hi2)
       ·obtain rfl : j = i := by
         have := (List.getElem?_eq_some_iff.1 hd).1
         simp at this
         omega
        rw [List.getElem?_append_right (by omega), hcl] at hd
        simp at hd
        simp [hi'] at hy
        subst hd hy
        exact hr1'.mono hi2
     ·rename_i hge _
      obtain rfl : i = x.kids.length := by omega
      refine G ?_
      repeat ((first | (split; omega) | (split; rotate_left; omega)); refine G ?_)
      refine ⟨⟨[], [], [], [900], ?_⟩⟩
      intro I2 hi2 ⟨n, hn, hsl⟩
      have hn' : x.kids.length = n := hn
      subst hn'
      conv => whnf
      refine h I2 _ (hJ.trans hi2) ?_
      rw [hus]
      exact .intro hkr hnr hor htr ⟨by simpa using hkl, cells, by simpa using hsl, by simpa using hcl, fun j y d hy hd => (hrep j y d hy hd).mono hi2⟩ (hvd.mono (hJ.trans hi2))
theorem NoD.desc {x : V} (h : NoD x) : x.desc = [] := by cases h; assumption
theorem NoD.kid {x : V} (h : NoD x) : ∀ (i : Nat) (y : V), x.kids[i]? = some y → NoD y := by cases h; assumption
theorem Loose.kinds {a b : V} (h : Loose a b) (hk : a.kind = 21 ∨ a.kind = 22) : a.kind = b.kind ∧ a.kids.length = b.kids.length ∧ a.desc.length = b.desc.length := by
 cases h with
 | leaf h _ => exact absurd hk (by omega)
 | list ha hb hl h1 h2 _ => exact ⟨ha.trans hb.symm, hl, h1.trans h2.symm⟩
 | map _ ha hb hl h1 h2 _ _ => exact ⟨ha.trans hb.symm, hl, h1.trans h2.symm⟩
theorem Loose.listK {a b : V} (h : Loose a b) (hk : a.kind = 21) : ∀ (i : Nat) (x y : V), a.kids[i]? = some x → b.kids[i]? = some y → Loose x y := by
 cases h with
 | leaf h _ => exact absurd hk h.1
 | list _ _ _ _ _ h => exact h
 | map _ ha => rw [ha] at hk; exact absurd hk (by decide)
theorem Loose.mapK {a b : V} (h : Loose a b) (hk : a.kind = 22) : ∀ (i : Nat) (k v : V), i % 2 = 0 → a.kids[i]? = some k → a.kids[i + 1]? = some v → ∃ j k' v', j % 2 = 0 ∧ b.kids[j]? = some k' ∧ b.kids[j + 1]? = some v' ∧ Same k k' ∧ Loose v v' := by
 cases h with
 | leaf h _ => exact absurd hk h.2
 | list ha => rw [ha] at hk; exact absurd hk (by decide)
 | map f _ _ _ _ _ h1 h2 =>
  intro i k v hi ha hb
  obtain ⟨q1, k', v', q2, q3, q4⟩ := h1 i k v hi ha hb
  exact ⟨f i, k', v', q1, q2, q3, q4, h2 i k v v' hi ha hb q3⟩
theorem SameLoosely_law : ∀ (n : Nat) (a b : V) {ca cb : List Value} {I : Imm} {Q : Qt}, a.sz ≤ n → VRep I a ca → VRep I b cb → NoD a →
  (∀ t : Bool, (Loose a b → t = true) → Q (.bool t) [] [] I) → WP Tryz.prog 178 #[.agg ca.toArray, .agg cb.toArray] [] [] I Q := by
 intro n
 induction n with
 | zero =>
  intro a b ca cb I Q hn
  have := a.sz_pos
  omega
 | succ n ih =>
  intro a b ca cb I Q hn ha hb hna h
  have ha' := ha
  have hb' := hb
  obtain ⟨kv, dv, rfl, hk, hd, hkr, hnr, hor, htr⟩ := ha.inv
  obtain ⟨kv', dv', rfl, hk', hd', hkr', hnr', hor', htr'⟩ := hb.inv
  have hkl := hk.1
  have hkl' := hk'.1
  obtain ⟨base, cap, rfl⟩ := hk.form
  obtain ⟨base', cap', rfl⟩ := hk'.form
  obtain ⟨dbase, dcap, rfl⟩ := hd.form
  obtain ⟨dbase', dcap', rfl⟩ := hd'.form
  have hd0 : a.desc.length = 0 := by rw [hna.desc]; rfl
  have no : ¬ Loose a b → Q (.bool false) [] [] I := fun hne => h false fun hl => absurd hl hne
  refine lw K178 [] [.agg #[.int .i64 a.kind, .int .u64 (a.num : Nat), strV a.text, .slice base a.kids.length cap, .int .i64 a.of, .slice dbase a.desc.length dcap], .agg #[.int .i64 b.kind, .int .u64 (b.num : Nat), strV b.text, .slice base' b.kids.length cap', .int .i64 b.of, .slice dbase' b.desc.length dcap']] Tryz.func178 ?_
  refine G ?_
  intro b1
  refine G ?_
  intro b2
  refine G ?_
  split
  ·rename_i e1 _
   refine G ?_
   refine ⟨[0,1,2,3,4,5,6,7,8,9,10,11,12,13,14,15,16,17,18,19,20,21,22,23,24,25,26,27,28,29,30,31,32,33,34,35,36,37,38,39,40], [], [], [], by kernel_rfl, ?_⟩
   refine G ?_
   split
   case h_2 =>
    rename_i h1 _
    refine G ?_
    refine L0 ?_
    exact no fun hl => h1 (hl.kinds (.inl e1)).1
   rename_i e3 _
   refine G ?_
   split
   case h_2 =>
    rename_i h1 _
    refine G ?_
    refine L0 ?_
    exact no fun hl => h1 (by rw [(hl.kinds (.inl e1)).2.1])
   rename_i e4 _
   refine G ?_
   split
   case h_2 =>
    rename_i h1 _
    refine G ?_
    refine L0 ?_
    exact no fun hl => h1 (by rw [(hl.kinds (.inl e1)).2.2])
   rename_i e5 _
   refine G ?_
   split
   case h_1 =>
    rename_i h1 _
    exfalso
    omega
   rename_i e6 _
   refine G ?_
   split
   case h_2 =>
    rename_i h1 _
    exact absurd e1 h1
   rename_i e7 _
   refine G ?_
   have e4' : a.kids.length = b.kids.length := by omega
   refine ⟨⟨[67], [], [], fun m vs cs R I' => ∃ i : Nat, vs = [.int .i64 (i : Nat)] ∧ cs = [] ∧ R = [] ∧ I' = I ∧ i ≤ a.kids.length ∧ m = a.kids.length - i, a.kids.length, _, _, rfl, rfl, ⟨0, rfl, rfl, rfl, rfl, by omega, rfl⟩, ?_⟩⟩
   rintro m vs cs R I' hI _ _ ⟨i, rfl, rfl, rfl, rfl, hi, rfl⟩
   clear hI
   refine G ?_
   split
   ·rename_i hlt _
    have hi' : i < a.kids.length := by omega
    have hi2 : i < b.kids.length := by omega
    obtain ⟨kb, ko, rfl, _⟩ := hk.some (by omega)
    obtain ⟨kb', ko', rfl, _⟩ := hk'.some (by omega)
    obtain ⟨cx, hcx, hcc⟩ := hk.get (i := i) (x := a.kids[i]) (by simp [hi'])
    obtain ⟨cy, hcy, hcd⟩ := hk'.get (i := i) (x := b.kids[i]) (by simp [hi2])
    refine G ?_
    refine ⟨[0,1,2,3,4,5,6,7,8,9,10,11], [], [], [], by kernel_rfl, ?_⟩
    refine G ?_
    refine ⟨_, _, _, _, i, rfl, rfl, hi', ?_⟩
    refine G ?_
    refine ⟨cx, hcc, hcx.len, ?_⟩
    refine G ?_
    refine ⟨_, _, _, _, i, rfl, rfl, hi2, ?_⟩
    refine G ?_
    refine ⟨cy, hcd, hcy.len, ?_⟩
    refine G ?_
    refine .inr ?_
    refine G ?_
    refine ih a.kids[i] b.kids[i] (by have := V.sz_kid (a := a) (x := a.kids[i]) (by simp); omega) hcx hcy (hna.kid i _ (by simp [hi'])) fun t ht => ?_
    cases t with
    | false =>
     refine G ?_
     refine L0 ?_
     refine no fun hs => ?_
     have := ht (hs.listK e1 i a.kids[i] b.kids[i] (by simp [hi']) (by simp [hi2]))
     simp at this
    | true =>
     refine G ?_
     refine ⟨_, _, _, ?_, rfl, rfl, rfl, rfl, .inl ⟨i + 1, rfl, rfl, rfl, rfl, hi', rfl⟩⟩
     omega
   ·rename_i hge _
    refine G ?_
    refine L0 ?_
    exact h true fun _ => rfl
  ·rename_i e1 _
   refine G ?_
   split
   ·rename_i e2 _
    refine G ?_
    refine ⟨[0,1,2,3,4,5,6,7,8,9,10,11,12,13,14,15,16,17,18,19,20,21,22,23,24,25,26,27,28,29,30,31,32,33,34,35,36,37,38,39,40], [], [], [], by kernel_rfl, ?_⟩
    refine G ?_
    split
    case h_2 =>
     rename_i h1 _
     refine G ?_
     refine L0 ?_
     exact no fun hl => h1 (hl.kinds (.inr e2)).1
    rename_i e3 _
    refine G ?_
    split
    case h_2 =>
     rename_i h1 _
     refine G ?_
     refine L0 ?_
     exact no fun hl => h1 (by rw [(hl.kinds (.inr e2)).2.1])
    rename_i e4 _
    refine G ?_
    split
    case h_2 =>
     rename_i h1 _
     refine G ?_
     refine L0 ?_
     exact no fun hl => h1 (by rw [(hl.kinds (.inr e2)).2.2])
    rename_i e5 _
    refine G ?_
    split
    case h_1 =>
     rename_i h1 _
     exfalso
     omega
    rename_i e6 _
    refine G ?_
    split
    case h_1 =>
     rename_i h1 _
     exact absurd h1 e1
    rename_i e7 _
    refine G ?_
    have e4' : a.kids.length = b.kids.length := by omega
    refine ⟨⟨[6], [], [], fun m vs cs R I' => ∃ i : Nat, vs = [.int .i64 ((i * 2 : Nat) : Int)] ∧ cs = [] ∧ R = [] ∧ I' = I ∧ i * 2 ≤ a.kids.length ∧ m = a.kids.length - i * 2, a.kids.length, _, _, rfl, rfl, ⟨0, rfl, rfl, rfl, rfl, by omega, rfl⟩, ?_⟩⟩
    rintro m vs cs R I' hI _ _ ⟨i, rfl, rfl, rfl, rfl, hi, rfl⟩
    clear hI
    refine G ?_
    split
    ·rename_i hlt _
     have hi0 : i * 2 < a.kids.length := by omega
     have hi1 : i * 2 + 1 < a.kids.length := by omega
     obtain ⟨kb, ko, rfl, _⟩ := hk.some (by omega)
     obtain ⟨kb', ko', rfl, _⟩ := hk'.some (by omega)
     obtain ⟨cx, hcx, hcc⟩ := hk.get (i := i * 2) (x := a.kids[i * 2]) (by simp [hi0])
     obtain ⟨cx1, hcx1, hcc1⟩ := hk.get (i := i * 2 + 1) (x := a.kids[i * 2 + 1]) (by simp [hi1])
     refine G ?_
     refine ⟨⟨[7, 8], [], [], fun m vs cs R I2 => ∃ (j : Nat) (fd : Bool), vs = [.bool fd, .int .i64 ((j * 2 : Nat) : Int)] ∧ cs = [] ∧ R = [] ∧ I2 = I' ∧ j * 2 ≤ b.kids.length ∧ m = b.kids.length - j * 2 ∧
       (fd = false → ∀ (l : Nat) (y z : V), l < j → b.kids[l * 2]? = some y → b.kids[l * 2 + 1]? = some z → ¬ (Same a.kids[i * 2] y ∧ Loose a.kids[i * 2 + 1] z)), b.kids.length, _, _, rfl, rfl, ⟨0, false, rfl, rfl, rfl, rfl, by omega, rfl, fun _ l y z hl => by omega⟩, ?_⟩⟩
     rintro m vs cs R I2 hI _ _ ⟨j, fd, rfl, rfl, rfl, rfl, hj, rfl, hfd⟩
     clear hI
     refine G ?_
     split
     ·rename_i hlt2 _
      have hj0 : j * 2 < b.kids.length := by omega
      have hj1 : j * 2 + 1 < b.kids.length := by omega
      obtain ⟨cy, hcy, hcd⟩ := hk'.get (i := j * 2) (x := b.kids[j * 2]) (by simp [hj0])
      obtain ⟨cy1, hcy1, hcd1⟩ := hk'.get (i := j * 2 + 1) (x := b.kids[j * 2 + 1]) (by simp [hj1])
      refine G ?_
      refine ⟨[0,1,2,3,4,5,6,7,8,9,10,11,12,13,14,15,16,17,18,19,20,21,22,23,24,25,26,27,28,29], [], [], [], by kernel_rfl, ?_⟩
      refine G ?_
      cases fd with
      | true =>
       refine G ?_
       refine ⟨_, _, _, ?_, rfl, rfl, rfl, rfl, .inl ⟨j + 1, true, by rw [Nat.succ_mul]; rfl, rfl, rfl, rfl, by omega, rfl, fun h => by cases h⟩⟩
       omega
      | false =>
       refine G ?_
       refine ⟨_, _, _, _, i * 2, rfl, rfl, hi0, ?_⟩
       refine G ?_
       refine ⟨cx, hcc, hcx.len, ?_⟩
       refine G ?_
       refine ⟨_, _, _, _, j * 2, rfl, rfl, hj0, ?_⟩
       refine G ?_
       refine ⟨cy, hcd, hcy.len, ?_⟩
       refine G ?_
       refine .inr ?_
       refine G ?_
       refine SameValue_law (n + 1) a.kids[i * 2] b.kids[j * 2] (by have := V.sz_kid (a := a) (x := a.kids[i * 2]) (by simp); omega) hcx hcy fun t ht => ?_
       cases t with
       | false =>
        refine G ?_
        refine ⟨_, _, _, ?_, rfl, rfl, rfl, rfl, .inl ⟨j + 1, false, by rw [Nat.succ_mul]; rfl, rfl, rfl, rfl, by omega, rfl, fun _ l y z hl hy hz => ?_⟩⟩
        ·omega
        ·by_cases hlj : l < j
         ·exact hfd rfl l y z hlj hy hz
         ·obtain rfl : l = j := by omega
          simp [hj0] at hy
          subst hy
          exact fun hs => by have := ht.2 hs.1; simp at this
       | true =>
        refine G ?_
        refine ⟨_, _, _, _, i * 2 + 1, rfl, rfl, hi1, ?_⟩
        refine G ?_
        refine ⟨cx1, hcc1, hcx1.len, ?_⟩
        refine G ?_
        refine ⟨_, _, _, _, j * 2 + 1, rfl, rfl, hj1, ?_⟩
        refine G ?_
        refine ⟨cy1, hcd1, hcy1.len, ?_⟩
        refine G ?_
        refine .inr ?_
        refine G ?_
        refine ih a.kids[i * 2 + 1] b.kids[j * 2 + 1] (by have := V.sz_kid (a := a) (x := a.kids[i * 2 + 1]) (by simp); omega) hcx1 hcy1 (hna.kid (i * 2 + 1) a.kids[i * 2 + 1] (by simp [hi1])) fun t2 ht2 => ?_
        refine G ?_
        refine ⟨_, _, _, ?_, rfl, rfl, rfl, rfl, .inl ⟨j + 1, t2, by rw [Nat.succ_mul]; rfl, rfl, rfl, rfl, by omega, rfl, fun hf l y z hl hy hz => ?_⟩⟩
        ·omega
        ·by_cases hlj : l < j
         ·exact hfd rfl l y z hlj hy hz
         ·obtain rfl : l = j := by omega
          simp [hj1] at hz
          subst hz
          exact fun hs => by have := ht2 hs.2; rw [hf] at this; cases this
     ·rename_i hge2 _
      refine G ?_
      cases fd with
      | true =>
       refine G ?_
       refine ⟨_, _, _, ?_, rfl, rfl, rfl, rfl, .inl ⟨i + 1, by rw [Nat.succ_mul]; rfl, rfl, rfl, rfl, by omega, rfl⟩⟩
       omega
      | false =>
       refine G ?_
       refine L0 ?_
       refine no fun hs => ?_
       obtain ⟨q, k', v', q1, q2, q3, q4, q5⟩ := hs.mapK e2 (i * 2) a.kids[i * 2] a.kids[i * 2 + 1] (by omega) (by simp [hi0]) (by simp [hi1])
       have hq := (List.getElem?_eq_some_iff.1 q3).1
       exact hfd rfl (q / 2) k' v' (by omega) (by rw [show q / 2 * 2 = q by omega]; exact q2) (by rw [show q / 2 * 2 + 1 = q + 1 by omega]; exact q3) ⟨q4, q5⟩
    ·rename_i hge _
     refine G ?_
     refine L0 ?_
     exact h true fun _ => rfl
   ·rename_i e2 _
    refine G ?_
    refine Cx [] ?_
    refine SameValue_law (n + 1) a b hn ha' hb' fun t ht => ?_
    refine G ?_
    refine L0 ?_
    refine h t fun hl => ?_
    cases hl with
    | leaf _ hs => exact ht.2 hs
    | list ha => exact absurd ha e1
    | map _ ha => exact absurd ha e2
def SfP (z a b : V) : Prop := ∀ (I : Imm) (fv : V) (cf ca cb : List Value) (Q : Qt), FRep I (fv, z) cf → VRep I a ca → VRep I b cb → (∀ I', I.le I' → Q (.bool true) [] [] I') → WP Tryz.prog 91 #[.agg cf.toArray, .agg ca.toArray, .agg cb.toArray] [] [] I Q
section kd
variable {I : Imm} {Q : Qt}
theorem sameKids_law {c : C} {cs : List Value} {l l' : List V} {v v' : Value} (hc : CRep I c cs) (hl : VsRep I l v) (hl' : VsRep I l' v') (h1 : l.length ≤ c.fields.length) (h2 : l'.length ≤ c.fields.length)
  (hs : ∀ (i : Nat) (f : V × V), c.fields[i]? = some f → SfP f.2 (l.getD i vNull) (l'.getD i vNull)) (h : ∀ I', I.le I' → Q (.bool true) [] [] I') : WP Tryz.prog 64 #[.agg cs.toArray, v, v'] [] [] I Q := by
 obtain ⟨hcr, fv, rfl, hf⟩ := hc
 have hfl := hf.1
 have hll := hl.1
 have hll' := hl'.1
 obtain ⟨fb, fc, rfl⟩ := hf.form
 obtain ⟨base, cap, rfl⟩ := hl.form
 obtain ⟨base', cap', rfl⟩ := hl'.form
 refine lw K64 [] [.agg #[.int .u64 (c.code : Nat), .slice fb c.fields.length fc], .slice base l.length cap, .slice base' l'.length cap'] Tryz.func64 ?_
 refine G ?_
 intro b3
 refine G ?_
 split
 ·exfalso; omega
 refine G ?_
 split
 ·exfalso; omega
 refine G ?_
 refine ⟨⟨[28], [], [], fun m vs cs R J => ∃ i : Nat, vs = [.int .i64 (i : Nat)] ∧ cs = [] ∧ R = [] ∧ I.le J ∧ i ≤ c.fields.length ∧ m = c.fields.length - i, c.fields.length, _, _, rfl, rfl, ⟨0, rfl, rfl, rfl, .refl I, by omega, rfl⟩, ?_⟩⟩
 rintro m vs cs R J hJ0 _ _ ⟨i, rfl, rfl, rfl, hJ, hi, rfl⟩
 clear hJ0
 refine G ?_
 split
 ·rename_i hlt _
  have hi' : i < c.fields.length := by omega
  have hfg : c.fields[i]? = some c.fields[i] := by simp [hi']
  obtain ⟨vb, vo, rfl, _⟩ := Row.some hf (by omega)
  obtain ⟨cf, hcf, hcw, hcc⟩ := Row.get hf hfg
  have hff := hcf
  obtain ⟨cA, cB, gA, gB, rfl⟩ := hcf
  obtain ⟨pb, pc, pd, pe, rfl, _⟩ := gA.inv2
  obtain ⟨qb, qc, qd, qe, rfl, _⟩ := gB.inv2
  refine G ?_
  refine ⟨_, _, _, _, i, rfl, rfl, hi', ?_⟩
  refine G ?_
  refine ⟨_, .imm (hcc.mono hJ), rfl, ?_⟩
  refine G ?_
  intro b8
  refine G ?_
  intro b9
  refine G ?_
  intro b10
  refine G ?_
  split
  ·rename_i hla _
   have hia : i < l.length := by omega
   obtain ⟨kb, ko, rfl, _⟩ := hl.some (by omega)
   obtain ⟨cx, hcx, hcd⟩ := hl.get (i := i) (x := l[i]) (by simp [hia])
   have hcx' := hcx
   obtain ⟨xb, xc, xd, xe, rfl, _⟩ := hcx.inv2
   have ea : l.getD i vNull = l[i] := by simp [List.getD_eq_getElem?_getD, hia]
   refine G ?_
   refine ⟨_, _, _, _, i, rfl, rfl, hia, ?_⟩
   refine G ?_
   refine ⟨_, .imm (hcd.mono hJ), rfl, ?_⟩
   refine G ?_
   split
   ·rename_i hlb _
    have hib : i < l'.length := by omega
    obtain ⟨kb', ko', rfl, _⟩ := hl'.some (by omega)
    obtain ⟨cy, hcy, hce⟩ := hl'.get (i := i) (x := l'[i]) (by simp [hib])
    have hcy' := hcy
    obtain ⟨yb, yc, yd, ye, rfl, _⟩ := hcy.inv2
    have eb : l'.getD i vNull = l'[i] := by simp [List.getD_eq_getElem?_getD, hib]
    refine G ?_
    refine ⟨_, _, _, _, i, rfl, rfl, hib, ?_⟩
    refine G ?_
    refine ⟨_, .imm (hce.mono hJ), rfl, ?_⟩
    refine G ?_
    refine Cx [] ?_
    refine hs i c.fields[i] hfg J _ _ _ _ _ (hff.mono hJ) (ea ▸ hcx'.mono hJ) (eb ▸ hcy'.mono hJ) fun J1 hJ1 => ?_
    refine G ?_
    refine ⟨c.fields.length - (i + 1), _, _, by omega, rfl, rfl, rfl, rfl, .inl ⟨i + 1, rfl, rfl, rfl, hJ.trans hJ1, hi', rfl⟩⟩
   ·rename_i hlb _
    have eb : l'.getD i vNull = vNull := by rw [List.getD_eq_getElem?_getD, List.getElem?_eq_none (by omega)]; rfl
    refine G ?_
    refine Cx [] ?_
    refine hs i c.fields[i] hfg J _ _ _ _ _ (hff.mono hJ) (ea ▸ hcx'.mono hJ) (by rw [eb]; exact vNull_rep) fun J1 hJ1 => ?_
    refine G ?_
    refine ⟨c.fields.length - (i + 1), _, _, by omega, rfl, rfl, rfl, rfl, .inl ⟨i + 1, rfl, rfl, rfl, hJ.trans hJ1, hi', rfl⟩⟩
  ·rename_i hla _
   have ea : l.getD i vNull = vNull := by rw [List.getD_eq_getElem?_getD, List.getElem?_eq_none (by omega)]; rfl
   refine G ?_
   split
   ·rename_i hlb _
    have hib : i < l'.length := by omega
    obtain ⟨kb', ko', rfl, _⟩ := hl'.some (by omega)
    obtain ⟨cy, hcy, hce⟩ := hl'.get (i := i) (x := l'[i]) (by simp [hib])
    have hcy' := hcy
    obtain ⟨yb, yc, yd, ye, rfl, _⟩ := hcy.inv2
    have eb : l'.getD i vNull = l'[i] := by simp [List.getD_eq_getElem?_getD, hib]
    refine G ?_
    refine ⟨_, _, _, _, i, rfl, rfl, hib, ?_⟩
    refine G ?_
    refine ⟨_, .imm (hce.mono hJ), rfl, ?_⟩
    refine G ?_
    refine Cx [] ?_
    refine hs i c.fields[i] hfg J _ _ _ _ _ (hff.mono hJ) (by rw [ea]; exact vNull_rep) (eb ▸ hcy'.mono hJ) fun J1 hJ1 => ?_
    refine G ?_
    refine ⟨c.fields.length - (i + 1), _, _, by omega, rfl, rfl, rfl, rfl, .inl ⟨i + 1, rfl, rfl, rfl, hJ.trans hJ1, hi', rfl⟩⟩
   ·rename_i hlb _
    have eb : l'.getD i vNull = vNull := by rw [List.getD_eq_getElem?_getD, List.getElem?_eq_none (by omega)]; rfl
    refine G ?_
    refine Cx [] ?_
    refine hs i c.fields[i] hfg J _ _ _ _ _ (hff.mono hJ) (by rw [ea]; exact vNull_rep) (by rw [eb]; exact vNull_rep) fun J1 hJ1 => ?_
    refine G ?_
    refine ⟨c.fields.length - (i + 1), _, _, by omega, rfl, rfl, rfl, rfl, .inl ⟨i + 1, rfl, rfl, rfl, hJ.trans hJ1, hi', rfl⟩⟩
 ·rename_i hge _
  refine G ?_
  refine L0 ?_
  exact h J hJ
end kd
def orZ (z a : V) : V := if a.kind = 0 then z else a
theorem NoD.usual {x : V} (h : NoD x) : NoD (usual x) := by
 induction h with
 | mk h hk ih =>
  rename_i x
  obtain ⟨k, n, t, ks, o, ds⟩ := x
  obtain rfl : ds = [] := h
  have ih' : ∀ (i : Nat) (y : V), (ks.map Go.Proofs.YtcfglgelckjpmaaGreatDoor.usual)[i]? = some y → NoD y := fun i y hy => by
   rw [List.getElem?_map, Option.map_eq_some_iff] at hy
   obtain ⟨x, hx, rfl⟩ := hy
   exact ih i x hx
  by_cases h1 : k = 20
  ·subst h1; rw [usual_sym]; exact .mk rfl ih'
  ·by_cases h2 : OneSym (.mk k n t ks o [])
   ·obtain ⟨h3, z, hz, hz2⟩ := h2
    obtain rfl : k = 23 := h3
    obtain rfl : ks = [z] := hz
    rw [usual_one hz2]
    exact .mk rfl (by simp [V.kids])
   ·rw [usual_other h1 h2]; exact .mk rfl ih'
section ke
variable {I : Imm} {Q : Qt}
theorem sf_plain {z a b : V} (ha : NoD (orZ z a)) (hb : NoD (orZ z b)) (hl : Loose (usual (orZ z a)) (usual (orZ z b))) : SfP z a b := by
 intro I fv cf ca cb Q hf hra hrb h
 obtain ⟨cA, cB, gA, gB, rfl⟩ := hf
 obtain ⟨pb, pc, pd, pe, rfl, _⟩ := gA.inv2
 have gB' := gB
 obtain ⟨qb, qc, qd, qe, rfl, _⟩ := gB.inv2
 have hra' := hra
 have hrb' := hrb
 obtain ⟨xb, xc, xd, xe, rfl, _⟩ := hra.inv2
 obtain ⟨yb, yc, yd, ye, rfl, _⟩ := hrb.inv2
 unfold orZ at ha hb hl
 refine lw K91 [] [.agg (cellsOf fv pb pc pd pe ++ cellsOf z qb qc qd qe).toArray, .agg (cellsOf a xb xc xd xe).toArray, .agg (cellsOf b yb yc yd ye).toArray] Tryz.func91 ?_
 refine G ?_
 intro b3
 refine G ?_
 intro b4
 refine G ?_
 intro b5
 refine G ?_
 split
 ·rename_i h1 _
  rw [if_pos h1] at ha hl
  refine G ?_
  split
  ·rename_i h2 _
   rw [if_pos h2] at hb hl
   refine G ?_
   have hd0 : z.desc.length = 0 := by rw [ha.desc]; rfl
   refine ⟨[0,1,2,3,4,5,6,7,8,9,10,11,12,13,14,15,16,17,18,19,20,21,22,23,24,25,26,27,28,29,30], [], [], [], by kernel_rfl, ?_⟩
   refine G ?_
   split
   ·exfalso; omega
   refine G ?_
   refine ⟨[0,2,1,3,4,5], [], [], [], by kernel_rfl, ?_⟩
   refine G ?_
   refine .inr ?_
   refine G ?_
   refine Usual_law (z).sz z (Nat.le_refl _) gB' ha fun I1 c1 hi1 hu1 => ?_
   have hu1' := hu1
   obtain ⟨ub, uc, ud, ue, rfl, _⟩ := hu1.inv2
   refine G ?_
   refine .inr ?_
   refine G ?_
   refine Usual_law (z).sz z (Nat.le_refl _) (VRep.mono hi1 gB') hb fun I2 c2 hi2 hu2 => ?_
   have hu2' := hu2
   obtain ⟨wb, wc, wd, we, rfl, _⟩ := hu2.inv2
   refine G ?_
   refine .inr ?_
   refine G ?_
   refine SameLoosely_law (usual z).sz (usual z) (usual z) (Nat.le_refl _) (hu1'.mono hi2) hu2' (NoD.usual ha) fun t ht => ?_
   obtain rfl : t = true := ht hl
   refine G ?_
   refine L0 ?_
   exact h I2 (hi1.trans hi2)
  ·rename_i h2 _
   rw [if_neg h2] at hb hl
   refine G ?_
   have hd0 : z.desc.length = 0 := by rw [ha.desc]; rfl
   refine ⟨[0,1,2,3,4,5,6,7,8,9,10,11,12,13,14,15,16,17,18,19,20,21,22,23,24,25,26,27,28,29,30], [], [], [], by kernel_rfl, ?_⟩
   refine G ?_
   split
   ·exfalso; omega
   refine G ?_
   refine ⟨[0,2,1,3,4,5], [], [], [], by kernel_rfl, ?_⟩
   refine G ?_
   refine .inr ?_
   refine G ?_
   refine Usual_law (z).sz z (Nat.le_refl _) gB' ha fun I1 c1 hi1 hu1 => ?_
   have hu1' := hu1
   obtain ⟨ub, uc, ud, ue, rfl, _⟩ := hu1.inv2
   refine G ?_
   refine .inr ?_
   refine G ?_
   refine Usual_law (b).sz b (Nat.le_refl _) (VRep.mono hi1 hrb') hb fun I2 c2 hi2 hu2 => ?_
   have hu2' := hu2
   obtain ⟨wb, wc, wd, we, rfl, _⟩ := hu2.inv2
   refine G ?_
   refine .inr ?_
   refine G ?_
   refine SameLoosely_law (usual z).sz (usual z) (usual b) (Nat.le_refl _) (hu1'.mono hi2) hu2' (NoD.usual ha) fun t ht => ?_
   obtain rfl : t = true := ht hl
   refine G ?_
   refine L0 ?_
   exact h I2 (hi1.trans hi2)
 ·rename_i h1 _
  rw [if_neg h1] at ha hl
  refine G ?_
  split
  ·rename_i h2 _
   rw [if_pos h2] at hb hl
   refine G ?_
   have hd0 : a.desc.length = 0 := by rw [ha.desc]; rfl
   refine ⟨[0,1,2,3,4,5,6,7,8,9,10,11,12,13,14,15,16,17,18,19,20,21,22,23,24,25,26,27,28,29,30], [], [], [], by kernel_rfl, ?_⟩
   refine G ?_
   split
   ·exfalso; omega
   refine G ?_
   refine ⟨[0,2,1,3,4,5], [], [], [], by kernel_rfl, ?_⟩
   refine G ?_
   refine .inr ?_
   refine G ?_
   refine Usual_law (a).sz a (Nat.le_refl _) hra' ha fun I1 c1 hi1 hu1 => ?_
   have hu1' := hu1
   obtain ⟨ub, uc, ud, ue, rfl, _⟩ := hu1.inv2
   refine G ?_
   refine .inr ?_
   refine G ?_
   refine Usual_law (z).sz z (Nat.le_refl _) (VRep.mono hi1 gB') hb fun I2 c2 hi2 hu2 => ?_
   have hu2' := hu2
   obtain ⟨wb, wc, wd, we, rfl, _⟩ := hu2.inv2
   refine G ?_
   refine .inr ?_
   refine G ?_
   refine SameLoosely_law (usual a).sz (usual a) (usual z) (Nat.le_refl _) (hu1'.mono hi2) hu2' (NoD.usual ha) fun t ht => ?_
   obtain rfl : t = true := ht hl
   refine G ?_
   refine L0 ?_
   exact h I2 (hi1.trans hi2)
  ·rename_i h2 _
   rw [if_neg h2] at hb hl
   refine G ?_
   have hd0 : a.desc.length = 0 := by rw [ha.desc]; rfl
   refine ⟨[0,1,2,3,4,5,6,7,8,9,10,11,12,13,14,15,16,17,18,19,20,21,22,23,24,25,26,27,28,29,30], [], [], [], by kernel_rfl, ?_⟩
   refine G ?_
   split
   ·exfalso; omega
   refine G ?_
   refine ⟨[0,2,1,3,4,5], [], [], [], by kernel_rfl, ?_⟩
   refine G ?_
   refine .inr ?_
   refine G ?_
   refine Usual_law (a).sz a (Nat.le_refl _) hra' ha fun I1 c1 hi1 hu1 => ?_
   have hu1' := hu1
   obtain ⟨ub, uc, ud, ue, rfl, _⟩ := hu1.inv2
   refine G ?_
   refine .inr ?_
   refine G ?_
   refine Usual_law (b).sz b (Nat.le_refl _) (VRep.mono hi1 hrb') hb fun I2 c2 hi2 hu2 => ?_
   have hu2' := hu2
   obtain ⟨wb, wc, wd, we, rfl, _⟩ := hu2.inv2
   refine G ?_
   refine .inr ?_
   refine G ?_
   refine SameLoosely_law (usual a).sz (usual a) (usual b) (Nat.le_refl _) (hu1'.mono hi2) hu2' (NoD.usual ha) fun t ht => ?_
   obtain rfl : t = true := ht hl
   refine G ?_
   refine L0 ?_
   exact h I2 (hi1.trans hi2)
end ke
end Go.Proofs.YtcfglgelckjpmaaGreatDoor
