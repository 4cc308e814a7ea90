/- Own machinery, and laws of the functions that the statement reaches (part 28). -/
import Derived.Test.YtcfglgelckjpmaaGreatDoorB26
import Derived.Test.YtcfglgelckjpmaaGreatDoorB27
set_option linter.all false
namespace Go.Proofs.YtcfglgelckjpmaaGreatDoor
set_option maxRecDepth 100000
set_option maxHeartbeats 8000000
theorem inv_5_44 {n : Nat} {t d : List UInt8} (h : EncS 5 n t (0x44 :: d)) : d = [] ∧ n = 0 := by
 generalize he : (0x44 : UInt8) :: d = e at h
 cases h with
 | ulong h =>
  cases h <;> first | exact ⟨cons_eq he, rfl⟩ | cases he
section rd
variable {I : Imm} {b : Nat} {bs : List UInt8} {v : Value} {off : Nat} {Q : Qt}
theorem arr_5_44 {ks : List V} {data hd r : List UInt8} {bl : Nat} (hv : BufAt I bs v) (hn : 0 < ks.length) (ha : ArrE 5 ks 0x44 data) (hh : HeadE 0xe0 0xf0 ks.length hd (0x44 :: data)) (hdr : bs.drop off = hd ++ ((0x44 :: data) ++ r))
  (h : ∀ I' sv, I.le I' → Row 1 (fun (x : V) c => elemC I' 5 x.num x.text c) I' ks sv → bs.drop (off + (hd.length + 1 + data.length)) = r → Q .nilIface [[sv], bufC v (off + (hd.length + 1 + data.length))] [] I') :
  WP Tryz.prog 120 #[ptr bl, ptr b] [(bl, [.slice none 0 0]), (b, bufC v off)] [] I Q := by
 obtain ⟨hn1, hn2⟩ := head_pos hh
 have hsm := hv.small
 obtain ⟨ds, hf⟩ := arr_nonempty (w := 0) ha fun n t d he => by obtain ⟨rfl, _⟩ := inv_5_44 he; rfl
 have hdl := hf.dlen
 rw [Nat.mul_zero] at hdl
 obtain rfl : data = [] := List.eq_nil_of_length_eq_zero hdl
 have hone : ks.length = 1 := by simp only [List.length_cons, List.length_nil] at hn1; omega
 refine lw K120 [(0,1000),(1,1001)] _ Tryz.func120 ?_
 refine G ?_
 refine Cx [1001] ?_
 refine readArrayHeader_law hv hh hdr fun hr => ?_
 refine G ?_
 refine ⟨0, 0, rfl, rfl, by omega, by omega, ?_⟩
 intro sn hsn
 obtain rfl : sn = .slice none 0 0 := by rw [hsn]; rfl
 refine G ?_
 refine Cx [1001] ?_
 refine readType_law hv hr fun hr => ?_
 replace hr : bs.drop (off + hd.length + 1) = r := hr
 refine G ?_
 (first | (split; omega) | (split; rotate_left; omega)); refine G ?_
 refine ⟨by decide, ks.length, rfl, rfl, by omega, by rw [show ti23.bytes = 8 by kernel_rfl]; omega, fun bb => ?_⟩
 refine G ?_
 refine ⟨⟨[], [], [], [47], ?_⟩⟩
 intro J1 hJ1 ⟨n, hn3, hsl⟩
 obtain rfl : ks.length = n := hn3
 conv => whnf
 refine h J1 _ hJ1 ⟨by omega, List.replicate ks.length (vcells ti23.zero), hsl, by simp, fun i x c hx hc => ?_⟩ hr
 have hi : i < ks.length := (List.getElem?_eq_some_iff.1 hx).1
 have hid : i < ds.length := by rw [hf.len]; exact hi
 obtain ⟨hd0, hs0⟩ := inv_5_44 (hf.enc i hi hid)
 rw [List.getElem?_replicate, if_pos hi] at hc
 rw [List.getElem?_eq_getElem hi] at hx
 cases hx
 cases hc
 refine ⟨?_, rfl⟩
 refine elemC_of ?_ ?_ ?_ ?_ ?_ ?_ ?_ ?_ ?_ ?_ ?_ ?_ ?_ ?_ ?_ <;> intro hk <;> first | omega | skip
 rw [hs0]; rfl
end rd
theorem inv_5_53 {n : Nat} {t d : List UInt8} (h : EncS 5 n t (0x53 :: d)) : ∃ y0, d = [y0] ∧ n = y0.toNat := by
 generalize he : (0x53 : UInt8) :: d = e at h
 cases h with
 | ulong h =>
  cases h <;> first | exact ⟨_, cons_eq he, rfl⟩ | cases he
section rd
variable {I : Imm} {b : Nat} {bs : List UInt8} {v : Value} {off : Nat} {Q : Qt}
theorem arr_5_53 {ks : List V} {data hd r : List UInt8} {bl : Nat} (hv : BufAt I bs v) (hn : 0 < ks.length) (ha : ArrE 5 ks 0x53 data) (hh : HeadE 0xe0 0xf0 ks.length hd (0x53 :: data)) (hdr : bs.drop off = hd ++ ((0x53 :: data) ++ r))
  (h : ∀ I' sv, I.le I' → Row 1 (fun (x : V) c => elemC I' 5 x.num x.text c) I' ks sv → bs.drop (off + (hd.length + 1 + data.length)) = r → Q .nilIface [[sv], bufC v (off + (hd.length + 1 + data.length))] [] I') :
  WP Tryz.prog 120 #[ptr bl, ptr b] [(bl, [.slice none 0 0]), (b, bufC v off)] [] I Q := by
 obtain ⟨hn1, hn2⟩ := head_pos hh
 have hsm := hv.small
 obtain ⟨ds, hf⟩ := arr_nonempty (w := 1) ha fun n t d he => by obtain ⟨y0, rfl, _⟩ := inv_5_53 he; rfl
 have hdl := hf.dlen
 rw [Nat.mul_one] at hdl
 refine lw K120 [(0,1000),(1,1001)] _ Tryz.func120 ?_
 refine G ?_
 refine Cx [1001] ?_
 refine readArrayHeader_law hv hh hdr fun hr => ?_
 refine G ?_
 refine ⟨0, 0, rfl, rfl, by omega, by omega, ?_⟩
 intro sn hsn
 obtain rfl : sn = .slice none 0 0 := by rw [hsn]; rfl
 refine G ?_
 refine Cx [1001] ?_
 refine readType_law hv hr fun hr => ?_
 replace hr : bs.drop (off + hd.length + 1) = data ++ r := hr
 obtain ⟨t1, t2, t3⟩ := take_of_drop hr
 have hlen := congrArg List.length hr
 rw [List.length_drop, List.length_append] at hlen
 refine G ?_
 refine Cx [1001] ?_
 refine Next_law (n := ks.length) hv (by omega) fun sv hsv => ?_
 rw [← hdl, t1] at hsv
 obtain ⟨base, cap, rfl⟩ := bytes_form hsv
 have hcap := (bytes_le hsv).2
 obtain ⟨vb, vo, rfl⟩ := bytes_some hsv (by omega)
 refine G ?_
 (first | (split; omega) | (split; rotate_left; omega)); refine G ?_
 refine ⟨by decide, ks.length, rfl, rfl, by omega, by rw [show ti23.bytes = 8 by kernel_rfl]; omega, fun bb => ?_⟩
 refine G ?_
 refine ⟨⟨[82], [], [], fun m vs cs R J => ∃ (i : Nat) (css : List (List Value)), vs = [.int .i64 (i : Nat)] ∧ cs = [] ∧ i ≤ ks.length ∧ m = ks.length - i ∧ I = J ∧
   R = [(76, .vec (.slice (some ⟨bb, 0, none⟩) ks.length ks.length) 1 css.flatten)] ∧ AR 1 (fun (x : V) c => elemC I 5 x.num x.text c) ks i css, ks.length, _, _, rfl, rfl,
  ⟨0, List.replicate ks.length (vcells ti23.zero), rfl, rfl, by omega, rfl, rfl, rfl, .init rfl⟩, ?_⟩⟩
 rintro m vs cs R J hJ _ _ ⟨i, css, rfl, rfl, hi, rfl, rfl, rfl, har⟩
 refine G ?_
 split
 ·rename_i hlt _
  have hi' : i < ks.length := by omega
  have hid : i < ds.length := by rw [hf.len]; exact hi'
  obtain ⟨y0, hd0, hs0⟩ := inv_5_53 (hf.enc i hi' hid)
  have := y0.toNat_lt
  have hp : elemC I 5 ks[i].num ks[i].text [.int .u64 ((y0.toNat : Nat) : Int)] := by
   refine elemC_of ?_ ?_ ?_ ?_ ?_ ?_ ?_ ?_ ?_ ?_ ?_ ?_ ?_ ?_ ?_ <;> intro hk <;> first | omega | skip
   rw [hs0]
  refine G ?_
  refine ⟨_, _, _, _, i, rfl, rfl, by omega, ?_⟩
  refine G ?_
  refine ⟨_, .imm (bytes_cell hsv (y := y0) (by have := hf.get (j := 0) hid (by rw [hd0]; rfl); simpa using this)), ?_⟩
  refine G ?_
  refine ⟨_, _, _, _, i, rfl, rfl, hi', ?_⟩
  refine G ?_
  refine .vec 76 _ _ 1 css.flatten rfl (by have := har.flen; show 0 + i * 1 + 1 ≤ css.flatten.length; omega) ?_
  refine G ?_
  have hsp := har.splice hi' (c := [.int .u64 ((y0.toNat : Nat) : Int)]) rfl
  refine ⟨ks.length - (i + 1), _, _, by omega, rfl, rfl, rfl, rfl, .inl ⟨i + 1, css.set i [.int .u64 ((y0.toNat : Nat) : Int)], rfl, rfl, hi', rfl, rfl, ?_, har.step hi' rfl hp⟩⟩
  rw [← hsp]
  show [(76, Res.vec _ _ (splice css.flatten (0 + i * 1) _))] = _
  rw [Nat.zero_add]; try rfl
 ·rename_i hge _
  obtain rfl : i = ks.length := by omega
  refine G ?_
  refine ⟨⟨[], [], [], [76], ?_⟩⟩
  intro J1 hJ1 ⟨n, hn, hsl⟩
  obtain rfl : ks.length = n := hn
  conv => whnf
  rw [show off + (hd.length + 1 + data.length) = off + hd.length + 1 + ks.length by omega] at h
  rw [hdl] at t3
  exact h J1 _ hJ1 (har.row (by omega) hsl fun x c h => h.mono hJ1) t3
end rd
theorem inv_5_80 {n : Nat} {t d : List UInt8} (h : EncS 5 n t (0x80 :: d)) : ∃ y0 y1 y2 y3 y4 y5 y6 y7, d = [y0, y1, y2, y3, y4, y5, y6, y7] ∧ n = y7.toNat + y6.toNat * 256 + y5.toNat * 65536 + y4.toNat * 16777216 + y3.toNat * 4294967296 + y2.toNat * 1099511627776 + y1.toNat * 281474976710656 + y0.toNat * 72057594037927936 := by
 generalize he : (0x80 : UInt8) :: d = e at h
 cases h with
 | ulong h =>
  cases h <;> first | exact ⟨_, _, _, _, _, _, _, _, cons_eq he, rfl⟩ | cases he
section rd
variable {I : Imm} {b : Nat} {bs : List UInt8} {v : Value} {off : Nat} {Q : Qt}
theorem arr_5_80 {ks : List V} {data hd r : List UInt8} {bl : Nat} (hv : BufAt I bs v) (hn : 0 < ks.length) (ha : ArrE 5 ks 0x80 data) (hh : HeadE 0xe0 0xf0 ks.length hd (0x80 :: data)) (hdr : bs.drop off = hd ++ ((0x80 :: data) ++ r))
  (h : ∀ I' sv, I.le I' → Row 1 (fun (x : V) c => elemC I' 5 x.num x.text c) I' ks sv → bs.drop (off + (hd.length + 1 + data.length)) = r → Q .nilIface [[sv], bufC v (off + (hd.length + 1 + data.length))] [] I') :
  WP Tryz.prog 120 #[ptr bl, ptr b] [(bl, [.slice none 0 0]), (b, bufC v off)] [] I Q := by
 obtain ⟨hn1, hn2⟩ := head_pos hh
 have hsm := hv.small
 obtain ⟨ds, hf⟩ := arr_nonempty (w := 8) ha fun n t d he => by obtain ⟨y0, y1, y2, y3, y4, y5, y6, y7, rfl, _⟩ := inv_5_80 he; rfl
 have hdl := hf.dlen
 refine lw K120 [(0,1000),(1,1001)] _ Tryz.func120 ?_
 refine G ?_
 refine Cx [1001] ?_
 refine readArrayHeader_law hv hh hdr fun hr => ?_
 refine G ?_
 refine ⟨0, 0, rfl, rfl, by omega, by omega, ?_⟩
 intro sn hsn
 obtain rfl : sn = .slice none 0 0 := by rw [hsn]; rfl
 refine G ?_
 refine Cx [1001] ?_
 refine readType_law hv hr fun hr => ?_
 replace hr : bs.drop (off + hd.length + 1) = data ++ r := hr
 obtain ⟨t1, t2, t3⟩ := take_of_drop hr
 have hlen := congrArg List.length hr
 rw [List.length_drop, List.length_append] at hlen
 refine G ?_
 refine Cx [1001] ?_
 refine Next_law (n := ks.length * 8) hv (by omega) fun sv hsv => ?_
 rw [← hdl, t1] at hsv
 obtain ⟨base, cap, rfl⟩ := bytes_form hsv
 have hcap := (bytes_le hsv).2
 obtain ⟨vb, vo, rfl⟩ := bytes_some hsv (by omega)
 refine G ?_
 (first | (split; omega) | (split; rotate_left; omega)); refine G ?_
 refine ⟨by decide, ks.length, rfl, rfl, by omega, by rw [show ti23.bytes = 8 by kernel_rfl]; omega, fun bb => ?_⟩
 refine G ?_
 refine ⟨⟨[116, 16], [], [], fun m vs cs R J => ∃ (i : Nat) (css : List (List Value)), vs = [.int .i64 (i : Nat), .int .i64 ((i * 8 : Nat) : Int)] ∧ cs = [] ∧ i ≤ ks.length ∧ m = ks.length - i ∧ I = J ∧
   R = [(110, .vec (.slice (some ⟨bb, 0, none⟩) ks.length ks.length) 1 css.flatten)] ∧ AR 1 (fun (x : V) c => elemC I 5 x.num x.text c) ks i css, ks.length, _, _, rfl, rfl,
  ⟨0, List.replicate ks.length (vcells ti23.zero), rfl, rfl, by omega, rfl, rfl, rfl, .init rfl⟩, ?_⟩⟩
 rintro m vs cs R J hJ _ _ ⟨i, css, rfl, rfl, hi, rfl, rfl, rfl, har⟩
 refine G ?_
 split
 ·rename_i hlt _
  have hi' : i < ks.length := by omega
  have hid : i < ds.length := by rw [hf.len]; exact hi'
  obtain ⟨y0, y1, y2, y3, y4, y5, y6, y7, hd0, hs0⟩ := inv_5_80 (hf.enc i hi' hid)
  have := y0.toNat_lt
  have := y1.toNat_lt
  have := y2.toNat_lt
  have := y3.toNat_lt
  have := y4.toNat_lt
  have := y5.toNat_lt
  have := y6.toNat_lt
  have := y7.toNat_lt
  have hp : elemC I 5 ks[i].num ks[i].text [.int .u64 ((y7.toNat + y6.toNat * 256 + y5.toNat * 65536 + y4.toNat * 16777216 + y3.toNat * 4294967296 + y2.toNat * 1099511627776 + y1.toNat * 281474976710656 + y0.toNat * 72057594037927936 : Nat) : Int)] := by
   refine elemC_of ?_ ?_ ?_ ?_ ?_ ?_ ?_ ?_ ?_ ?_ ?_ ?_ ?_ ?_ ?_ <;> intro hk <;> first | omega | skip
   rw [hs0]
  have hcut := bytes_cut hsv (l := i * 8) (u := i * 8 + 8) (by omega) (by omega)
  have g0 : ((data.drop (i * 8)).take (i * 8 + 8 - i * 8))[0]? = some y0 := by rw [List.getElem?_take_of_lt (by omega), List.getElem?_drop]; exact hf.get hid (by rw [hd0]; rfl)
  have g1 : ((data.drop (i * 8)).take (i * 8 + 8 - i * 8))[1]? = some y1 := by rw [List.getElem?_take_of_lt (by omega), List.getElem?_drop]; exact hf.get hid (by rw [hd0]; rfl)
  have g2 : ((data.drop (i * 8)).take (i * 8 + 8 - i * 8))[2]? = some y2 := by rw [List.getElem?_take_of_lt (by omega), List.getElem?_drop]; exact hf.get hid (by rw [hd0]; rfl)
  have g3 : ((data.drop (i * 8)).take (i * 8 + 8 - i * 8))[3]? = some y3 := by rw [List.getElem?_take_of_lt (by omega), List.getElem?_drop]; exact hf.get hid (by rw [hd0]; rfl)
  have g4 : ((data.drop (i * 8)).take (i * 8 + 8 - i * 8))[4]? = some y4 := by rw [List.getElem?_take_of_lt (by omega), List.getElem?_drop]; exact hf.get hid (by rw [hd0]; rfl)
  have g5 : ((data.drop (i * 8)).take (i * 8 + 8 - i * 8))[5]? = some y5 := by rw [List.getElem?_take_of_lt (by omega), List.getElem?_drop]; exact hf.get hid (by rw [hd0]; rfl)
  have g6 : ((data.drop (i * 8)).take (i * 8 + 8 - i * 8))[6]? = some y6 := by rw [List.getElem?_take_of_lt (by omega), List.getElem?_drop]; exact hf.get hid (by rw [hd0]; rfl)
  have g7 : ((data.drop (i * 8)).take (i * 8 + 8 - i * 8))[7]? = some y7 := by rw [List.getElem?_take_of_lt (by omega), List.getElem?_drop]; exact hf.get hid (by rw [hd0]; rfl)
  refine G ?_
  refine ⟨[0,1,2,3,4,5,6,7,8,9,10], [], [], [], by kernel_rfl, ?_⟩
  refine G ?_
  refine ⟨i * 8, i * 8 + 8, rfl, rfl, by omega, by omega, ?_⟩
  intro s1 hs1
  refine G ?_
  refine .inr ?_
  refine G ?_
  refine Uint64_law (hs1 ▸ hcut) g0 g1 g2 g3 g4 g5 g6 g7 ?_
  refine G ?_
  refine ⟨_, _, _, _, i, rfl, rfl, hi', ?_⟩
  refine G ?_
  refine .vec 110 _ _ 1 css.flatten rfl (by have := har.flen; show 0 + i * 1 + 1 ≤ css.flatten.length; omega) ?_
  refine G ?_
  have hsp := har.splice hi' (c := [.int .u64 ((y7.toNat + y6.toNat * 256 + y5.toNat * 65536 + y4.toNat * 16777216 + y3.toNat * 4294967296 + y2.toNat * 1099511627776 + y1.toNat * 281474976710656 + y0.toNat * 72057594037927936 : Nat) : Int)]) rfl
  refine ⟨ks.length - (i + 1), _, _, by omega, rfl, rfl, rfl, rfl, .inl ⟨i + 1, css.set i [.int .u64 ((y7.toNat + y6.toNat * 256 + y5.toNat * 65536 + y4.toNat * 16777216 + y3.toNat * 4294967296 + y2.toNat * 1099511627776 + y1.toNat * 281474976710656 + y0.toNat * 72057594037927936 : Nat) : Int)], (by rw [Nat.succ_mul]; rfl), rfl, hi', rfl, rfl, ?_, har.step hi' rfl hp⟩⟩
  rw [← hsp]
  show [(110, Res.vec _ _ (splice css.flatten (0 + i * 1) _))] = _
  rw [Nat.zero_add]; try rfl
 ·rename_i hge _
  obtain rfl : i = ks.length := by omega
  refine G ?_
  refine ⟨⟨[], [], [], [110], ?_⟩⟩
  intro J1 hJ1 ⟨n, hn, hsl⟩
  obtain rfl : ks.length = n := hn
  conv => whnf
  rw [show off + (hd.length + 1 + data.length) = off + hd.length + 1 + ks.length * 8 by omega] at h
  rw [hdl] at t3
  exact h J1 _ hJ1 (har.row (by omega) hsl fun x c h => h.mono hJ1) t3
end rd
theorem inv_9_55 {n : Nat} {t d : List UInt8} (h : EncS 9 n t (0x55 :: d)) : ∃ y0, d = [y0] ∧ sg n = IntKind.i64.wrap (IntKind.i8.wrap ((y0.toNat : Nat) : Int)) := by
 generalize he : (0x55 : UInt8) :: d = e at h
 cases h with
 | long h =>
  generalize sg n = m at h
  cases h <;> first | exact ⟨_, cons_eq he, rfl⟩ | cases he
section rd
variable {I : Imm} {b : Nat} {bs : List UInt8} {v : Value} {off : Nat} {Q : Qt}
theorem arr_9_55 {ks : List V} {data hd r : List UInt8} {bl : Nat} (hv : BufAt I bs v) (hn : 0 < ks.length) (ha : ArrE 9 ks 0x55 data) (hh : HeadE 0xe0 0xf0 ks.length hd (0x55 :: data)) (hdr : bs.drop off = hd ++ ((0x55 :: data) ++ r))
  (h : ∀ I' sv, I.le I' → Row 1 (fun (x : V) c => elemC I' 9 x.num x.text c) I' ks sv → bs.drop (off + (hd.length + 1 + data.length)) = r → Q .nilIface [[sv], bufC v (off + (hd.length + 1 + data.length))] [] I') :
  WP Tryz.prog 121 #[ptr bl, ptr b] [(bl, [.slice none 0 0]), (b, bufC v off)] [] I Q := by
 obtain ⟨hn1, hn2⟩ := head_pos hh
 have hsm := hv.small
 obtain ⟨ds, hf⟩ := arr_nonempty (w := 1) ha fun n t d he => by obtain ⟨y0, rfl, _⟩ := inv_9_55 he; rfl
 have hdl := hf.dlen
 rw [Nat.mul_one] at hdl
 refine lw K121 [(0,1000),(1,1001)] _ Tryz.func121 ?_
 refine G ?_
 refine Cx [1001] ?_
 refine readArrayHeader_law hv hh hdr fun hr => ?_
 refine G ?_
 refine ⟨0, 0, rfl, rfl, by omega, by omega, ?_⟩
 intro sn hsn
 obtain rfl : sn = .slice none 0 0 := by rw [hsn]; rfl
 refine G ?_
 refine Cx [1001] ?_
 refine readType_law hv hr fun hr => ?_
 replace hr : bs.drop (off + hd.length + 1) = data ++ r := hr
 obtain ⟨t1, t2, t3⟩ := take_of_drop hr
 have hlen := congrArg List.length hr
 rw [List.length_drop, List.length_append] at hlen
 refine G ?_
 refine Cx [1001] ?_
 refine Next_law (n := ks.length) hv (by omega) fun sv hsv => ?_
 rw [← hdl, t1] at hsv
 obtain ⟨base, cap, rfl⟩ := bytes_form hsv
 have hcap := (bytes_le hsv).2
 obtain ⟨vb, vo, rfl⟩ := bytes_some hsv (by omega)
 refine G ?_
 (first | (split; omega) | (split; rotate_left; omega)); refine G ?_
 refine ⟨by decide, ks.length, rfl, rfl, by omega, by rw [show ti2.bytes = 8 by kernel_rfl]; omega, fun bb => ?_⟩
 refine G ?_
 refine ⟨⟨[61], [], [], fun m vs cs R J => ∃ (i : Nat) (css : List (List Value)), vs = [.int .i64 (i : Nat)] ∧ cs = [] ∧ i ≤ ks.length ∧ m = ks.length - i ∧ I = J ∧
   R = [(55, .vec (.slice (some ⟨bb, 0, none⟩) ks.length ks.length) 1 css.flatten)] ∧ AR 1 (fun (x : V) c => elemC I 9 x.num x.text c) ks i css, ks.length, _, _, rfl, rfl,
  ⟨0, List.replicate ks.length (vcells ti2.zero), rfl, rfl, by omega, rfl, rfl, rfl, .init rfl⟩, ?_⟩⟩
 rintro m vs cs R J hJ _ _ ⟨i, css, rfl, rfl, hi, rfl, rfl, rfl, har⟩
 refine G ?_
 split
 ·rename_i hlt _
  have hi' : i < ks.length := by omega
  have hid : i < ds.length := by rw [hf.len]; exact hi'
  obtain ⟨y0, hd0, hs0⟩ := inv_9_55 (hf.enc i hi' hid)
  have := y0.toNat_lt
  have hp : elemC I 9 ks[i].num ks[i].text [.int .i64 (IntKind.i64.wrap (IntKind.i8.wrap ((y0.toNat : Nat) : Int)))] := by
   refine elemC_of ?_ ?_ ?_ ?_ ?_ ?_ ?_ ?_ ?_ ?_ ?_ ?_ ?_ ?_ ?_ <;> intro hk <;> first | omega | skip
   rw [hs0]
  refine G ?_
  refine ⟨_, _, _, _, i, rfl, rfl, by omega, ?_⟩
  refine G ?_
  refine ⟨_, .imm (bytes_cell hsv (y := y0) (by have := hf.get (j := 0) hid (by rw [hd0]; rfl); simpa using this)), ?_⟩
  refine G ?_
  refine ⟨_, _, _, _, i, rfl, rfl, hi', ?_⟩
  refine G ?_
  refine .vec 55 _ _ 1 css.flatten rfl (by have := har.flen; show 0 + i * 1 + 1 ≤ css.flatten.length; omega) ?_
  refine G ?_
  have hsp := har.splice hi' (c := [.int .i64 (IntKind.i64.wrap (IntKind.i8.wrap ((y0.toNat : Nat) : Int)))]) rfl
  refine ⟨ks.length - (i + 1), _, _, by omega, rfl, rfl, rfl, rfl, .inl ⟨i + 1, css.set i [.int .i64 (IntKind.i64.wrap (IntKind.i8.wrap ((y0.toNat : Nat) : Int)))], rfl, rfl, hi', rfl, rfl, ?_, har.step hi' rfl hp⟩⟩
  rw [← hsp]
  show [(55, Res.vec _ _ (splice css.flatten (0 + i * 1) _))] = _
  rw [Nat.zero_add]; try rfl
 ·rename_i hge _
  obtain rfl : i = ks.length := by omega
  refine G ?_
  refine ⟨⟨[], [], [], [55], ?_⟩⟩
  intro J1 hJ1 ⟨n, hn, hsl⟩
  obtain rfl : ks.length = n := hn
  conv => whnf
  rw [show off + (hd.length + 1 + data.length) = off + hd.length + 1 + ks.length by omega] at h
  rw [hdl] at t3
  exact h J1 _ hJ1 (har.row (by omega) hsl fun x c h => h.mono hJ1) t3
end rd
theorem inv_9_81 {n : Nat} {t d : List UInt8} (h : EncS 9 n t (0x81 :: d)) : ∃ y0 y1 y2 y3 y4 y5 y6 y7, d = [y0, y1, y2, y3, y4, y5, y6, y7] ∧ sg n = IntKind.i64.wrap ((y7.toNat + y6.toNat * 256 + y5.toNat * 65536 + y4.toNat * 16777216 + y3.toNat * 4294967296 + y2.toNat * 1099511627776 + y1.toNat * 281474976710656 + y0.toNat * 72057594037927936 : Nat) : Int) := by
 generalize he : (0x81 : UInt8) :: d = e at h
 cases h with
 | long h =>
  generalize sg n = m at h
  cases h <;> first | exact ⟨_, _, _, _, _, _, _, _, cons_eq he, rfl⟩ | cases he
section rd
variable {I : Imm} {b : Nat} {bs : List UInt8} {v : Value} {off : Nat} {Q : Qt}
theorem arr_9_81 {ks : List V} {data hd r : List UInt8} {bl : Nat} (hv : BufAt I bs v) (hn : 0 < ks.length) (ha : ArrE 9 ks 0x81 data) (hh : HeadE 0xe0 0xf0 ks.length hd (0x81 :: data)) (hdr : bs.drop off = hd ++ ((0x81 :: data) ++ r))
  (h : ∀ I' sv, I.le I' → Row 1 (fun (x : V) c => elemC I' 9 x.num x.text c) I' ks sv → bs.drop (off + (hd.length + 1 + data.length)) = r → Q .nilIface [[sv], bufC v (off + (hd.length + 1 + data.length))] [] I') :
  WP Tryz.prog 121 #[ptr bl, ptr b] [(bl, [.slice none 0 0]), (b, bufC v off)] [] I Q := by
 obtain ⟨hn1, hn2⟩ := head_pos hh
 have hsm := hv.small
 obtain ⟨ds, hf⟩ := arr_nonempty (w := 8) ha fun n t d he => by obtain ⟨y0, y1, y2, y3, y4, y5, y6, y7, rfl, _⟩ := inv_9_81 he; rfl
 have hdl := hf.dlen
 refine lw K121 [(0,1000),(1,1001)] _ Tryz.func121 ?_
 refine G ?_
 refine Cx [1001] ?_
 refine readArrayHeader_law hv hh hdr fun hr => ?_
 refine G ?_
 refine ⟨0, 0, rfl, rfl, by omega, by omega, ?_⟩
 intro sn hsn
 obtain rfl : sn = .slice none 0 0 := by rw [hsn]; rfl
 refine G ?_
 refine Cx [1001] ?_
 refine readType_law hv hr fun hr => ?_
 replace hr : bs.drop (off + hd.length + 1) = data ++ r := hr
 obtain ⟨t1, t2, t3⟩ := take_of_drop hr
 have hlen := congrArg List.length hr
 rw [List.length_drop, List.length_append] at hlen
 refine G ?_
 refine Cx [1001] ?_
 refine Next_law (n := ks.length * 8) hv (by omega) fun sv hsv => ?_
 rw [← hdl, t1] at hsv
 obtain ⟨base, cap, rfl⟩ := bytes_form hsv
 have hcap := (bytes_le hsv).2
 obtain ⟨vb, vo, rfl⟩ := bytes_some hsv (by omega)
 refine G ?_
 (first | (split; omega) | (split; rotate_left; omega)); refine G ?_
 refine ⟨by decide, ks.length, rfl, rfl, by omega, by rw [show ti2.bytes = 8 by kernel_rfl]; omega, fun bb => ?_⟩
 refine G ?_
 refine ⟨⟨[96, 15], [], [], fun m vs cs R J => ∃ (i : Nat) (css : List (List Value)), vs = [.int .i64 (i : Nat), .int .i64 ((i * 8 : Nat) : Int)] ∧ cs = [] ∧ i ≤ ks.length ∧ m = ks.length - i ∧ I = J ∧
   R = [(90, .vec (.slice (some ⟨bb, 0, none⟩) ks.length ks.length) 1 css.flatten)] ∧ AR 1 (fun (x : V) c => elemC I 9 x.num x.text c) ks i css, ks.length, _, _, rfl, rfl,
  ⟨0, List.replicate ks.length (vcells ti2.zero), rfl, rfl, by omega, rfl, rfl, rfl, .init rfl⟩, ?_⟩⟩
 rintro m vs cs R J hJ _ _ ⟨i, css, rfl, rfl, hi, rfl, rfl, rfl, har⟩
 refine G ?_
 split
 ·rename_i hlt _
  have hi' : i < ks.length := by omega
  have hid : i < ds.length := by rw [hf.len]; exact hi'
  obtain ⟨y0, y1, y2, y3, y4, y5, y6, y7, hd0, hs0⟩ := inv_9_81 (hf.enc i hi' hid)
  have := y0.toNat_lt
  have := y1.toNat_lt
  have := y2.toNat_lt
  have := y3.toNat_lt
  have := y4.toNat_lt
  have := y5.toNat_lt
  have := y6.toNat_lt
  have := y7.toNat_lt
  have hp : elemC I 9 ks[i].num ks[i].text [.int .i64 (IntKind.i64.wrap ((y7.toNat + y6.toNat * 256 + y5.toNat * 65536 + y4.toNat * 16777216 + y3.toNat * 4294967296 + y2.toNat * 1099511627776 + y1.toNat * 281474976710656 + y0.toNat * 72057594037927936 : Nat) : Int))] := by
   refine elemC_of ?_ ?_ ?_ ?_ ?_ ?_ ?_ ?_ ?_ ?_ ?_ ?_ ?_ ?_ ?_ <;> intro hk <;> first | omega | skip
   rw [hs0]
  have hcut := bytes_cut hsv (l := i * 8) (u := data.length) (by omega) (by omega)
  have g0 : ((data.drop (i * 8)).take (data.length - i * 8))[0]? = some y0 := by rw [List.getElem?_take_of_lt (by omega), List.getElem?_drop]; exact hf.get hid (by rw [hd0]; rfl)
  have g1 : ((data.drop (i * 8)).take (data.length - i * 8))[1]? = some y1 := by rw [List.getElem?_take_of_lt (by omega), List.getElem?_drop]; exact hf.get hid (by rw [hd0]; rfl)
  have g2 : ((data.drop (i * 8)).take (data.length - i * 8))[2]? = some y2 := by rw [List.getElem?_take_of_lt (by omega), List.getElem?_drop]; exact hf.get hid (by rw [hd0]; rfl)
  have g3 : ((data.drop (i * 8)).take (data.length - i * 8))[3]? = some y3 := by rw [List.getElem?_take_of_lt (by omega), List.getElem?_drop]; exact hf.get hid (by rw [hd0]; rfl)
  have g4 : ((data.drop (i * 8)).take (data.length - i * 8))[4]? = some y4 := by rw [List.getElem?_take_of_lt (by omega), List.getElem?_drop]; exact hf.get hid (by rw [hd0]; rfl)
  have g5 : ((data.drop (i * 8)).take (data.length - i * 8))[5]? = some y5 := by rw [List.getElem?_take_of_lt (by omega), List.getElem?_drop]; exact hf.get hid (by rw [hd0]; rfl)
  have g6 : ((data.drop (i * 8)).take (data.length - i * 8))[6]? = some y6 := by rw [List.getElem?_take_of_lt (by omega), List.getElem?_drop]; exact hf.get hid (by rw [hd0]; rfl)
  have g7 : ((data.drop (i * 8)).take (data.length - i * 8))[7]? = some y7 := by rw [List.getElem?_take_of_lt (by omega), List.getElem?_drop]; exact hf.get hid (by rw [hd0]; rfl)
  refine G ?_
  refine ⟨[0,1,2,3,4,5,6,7,8,9], [], [], [], by kernel_rfl, ?_⟩
  refine G ?_
  refine ⟨i * 8, data.length, rfl, rfl, by omega, by omega, ?_⟩
  intro s1 hs1
  refine G ?_
  refine .inr ?_
  refine G ?_
  refine Uint64_law (hs1 ▸ hcut) g0 g1 g2 g3 g4 g5 g6 g7 ?_
  refine G ?_
  refine ⟨_, _, _, _, i, rfl, rfl, hi', ?_⟩
  refine G ?_
  refine .vec 90 _ _ 1 css.flatten rfl (by have := har.flen; show 0 + i * 1 + 1 ≤ css.flatten.length; omega) ?_
  refine G ?_
  have hsp := har.splice hi' (c := [.int .i64 (IntKind.i64.wrap ((y7.toNat + y6.toNat * 256 + y5.toNat * 65536 + y4.toNat * 16777216 + y3.toNat * 4294967296 + y2.toNat * 1099511627776 + y1.toNat * 281474976710656 + y0.toNat * 72057594037927936 : Nat) : Int))]) rfl
  refine ⟨ks.length - (i + 1), _, _, by omega, rfl, rfl, rfl, rfl, .inl ⟨i + 1, css.set i [.int .i64 (IntKind.i64.wrap ((y7.toNat + y6.toNat * 256 + y5.toNat * 65536 + y4.toNat * 16777216 + y3.toNat * 4294967296 + y2.toNat * 1099511627776 + y1.toNat * 281474976710656 + y0.toNat * 72057594037927936 : Nat) : Int))], (by rw [Nat.succ_mul]; rfl), rfl, hi', rfl, rfl, ?_, har.step hi' rfl hp⟩⟩
  rw [← hsp]
  show [(90, Res.vec _ _ (splice css.flatten (0 + i * 1) _))] = _
  rw [Nat.zero_add]; try rfl
 ·rename_i hge _
  obtain rfl : i = ks.length := by omega
  refine G ?_
  refine ⟨⟨[], [], [], [90], ?_⟩⟩
  intro J1 hJ1 ⟨n, hn, hsl⟩
  obtain rfl : ks.length = n := hn
  conv => whnf
  rw [show off + (hd.length + 1 + data.length) = off + hd.length + 1 + ks.length * 8 by omega] at h
  rw [hdl] at t3
  exact h J1 _ hJ1 (har.row (by omega) hsl fun x c h => h.mono hJ1) t3
end rd
theorem UTC_law {I : Imm} {ms : Int} {Q : Qt} (h : Q (timeV ms) [] [] I) : WP Tryz.prog 201 #[timeV ms] [] [] I Q := by
 refine lw K201 [] _ Tryz.func201 ?_
 refine G ?_
 intro b1
 refine G ?_
 intro b2
 refine G ?_
 refine L0 ?_
 exact h
theorem inv_16_83 {n : Nat} {t d : List UInt8} (h : EncS 16 n t (0x83 :: d)) : ∃ y0 y1 y2 y3 y4 y5 y6 y7, d = [y0, y1, y2, y3, y4, y5, y6, y7] ∧ sg n = IntKind.i64.wrap ((y7.toNat + y6.toNat * 256 + y5.toNat * 65536 + y4.toNat * 16777216 + y3.toNat * 4294967296 + y2.toNat * 1099511627776 + y1.toNat * 281474976710656 + y0.toNat * 72057594037927936 : Nat) : Int) := by
 generalize he : (0x83 : UInt8) :: d = e at h
 cases h with
 | time h =>
  generalize sg n = m at h
  cases h <;> first | exact ⟨_, _, _, _, _, _, _, _, cons_eq he, rfl⟩ | cases he
section rd
variable {I : Imm} {b : Nat} {bs : List UInt8} {v : Value} {off : Nat} {Q : Qt}
theorem arr_16_83 {ks : List V} {data hd r : List UInt8} {bl : Nat} (hv : BufAt I bs v) (hn : 0 < ks.length) (ha : ArrE 16 ks 0x83 data) (hh : HeadE 0xe0 0xf0 ks.length hd (0x83 :: data)) (hdr : bs.drop off = hd ++ ((0x83 :: data) ++ r))
  (h : ∀ I' sv, I.le I' → Row 2 (fun (x : V) c => elemC I' 16 x.num x.text c) I' ks sv → bs.drop (off + (hd.length + 1 + data.length)) = r → Q .nilIface [[sv], bufC v (off + (hd.length + 1 + data.length))] [] I') :
  WP Tryz.prog 128 #[ptr bl, ptr b] [(bl, [.slice none 0 0]), (b, bufC v off)] [] I Q := by
 obtain ⟨hn1, hn2⟩ := head_pos hh
 have hsm := hv.small
 obtain ⟨ds, hf⟩ := arr_nonempty (w := 8) ha fun n t d he => by obtain ⟨y0, y1, y2, y3, y4, y5, y6, y7, rfl, _⟩ := inv_16_83 he; rfl
 have hdl := hf.dlen
 refine lw K128 [(0,1000),(1,1001)] _ Tryz.func128 ?_
 refine G ?_
 refine Cx [1001] ?_
 refine readArrayHeader_law hv hh hdr fun hr => ?_
 refine G ?_
 refine Cx [1001] ?_
 refine readType_law hv hr fun hr => ?_
 replace hr : bs.drop (off + hd.length + 1) = data ++ r := hr
 obtain ⟨t1, t2, t3⟩ := take_of_drop hr
 have hlen := congrArg List.length hr
 rw [List.length_drop, List.length_append] at hlen
 refine G ?_
 refine Cx [1001] ?_
 refine Next_law (n := ks.length * 8) hv (by omega) fun sv hsv => ?_
 rw [← hdl, t1] at hsv
 obtain ⟨base, cap, rfl⟩ := bytes_form hsv
 have hcap := (bytes_le hsv).2
 obtain ⟨vb, vo, rfl⟩ := bytes_some hsv (by omega)
 refine G ?_
 refine ⟨0, 0, rfl, rfl, by omega, by omega, ?_⟩
 intro sn hsn
 obtain rfl : sn = .slice none 0 0 := by rw [hsn]; rfl
 refine G ?_
 (first | (split; omega) | (split; rotate_left; omega)); refine G ?_
 refine ⟨by decide, ks.length, rfl, rfl, by omega, by rw [show ti243.bytes = 16 by kernel_rfl]; omega, fun bb => ?_⟩
 refine G ?_
 refine ⟨⟨[58, 11], [], [], fun m vs cs R J => ∃ (i : Nat) (css : List (List Value)), vs = [.int .i64 (i : Nat), .int .i64 ((i * 8 : Nat) : Int)] ∧ cs = [] ∧ i ≤ ks.length ∧ m = ks.length - i ∧ I = J ∧
   R = [(52, .vec (.slice (some ⟨bb, 0, none⟩) ks.length ks.length) 2 css.flatten)] ∧ AR 2 (fun (x : V) c => elemC I 16 x.num x.text c) ks i css, ks.length, _, _, rfl, rfl,
  ⟨0, List.replicate ks.length (vcells ti243.zero), rfl, rfl, by omega, rfl, rfl, rfl, .init rfl⟩, ?_⟩⟩
 rintro m vs cs R J hJ _ _ ⟨i, css, rfl, rfl, hi, rfl, rfl, rfl, har⟩
 refine G ?_
 split
 ·rename_i hlt _
  have hi' : i < ks.length := by omega
  have hid : i < ds.length := by rw [hf.len]; exact hi'
  obtain ⟨y0, y1, y2, y3, y4, y5, y6, y7, hd0, hs0⟩ := inv_16_83 (hf.enc i hi' hid)
  have := y0.toNat_lt
  have := y1.toNat_lt
  have := y2.toNat_lt
  have := y3.toNat_lt
  have := y4.toNat_lt
  have := y5.toNat_lt
  have := y6.toNat_lt
  have := y7.toNat_lt
  have hrange := wrap64_range ((y7.toNat + y6.toNat * 256 + y5.toNat * 65536 + y4.toNat * 16777216 + y3.toNat * 4294967296 + y2.toNat * 1099511627776 + y1.toNat * 281474976710656 + y0.toNat * 72057594037927936 : Nat) : Int)
  obtain ⟨ms, hms⟩ : ∃ ms, IntKind.i64.wrap ((y7.toNat + y6.toNat * 256 + y5.toNat * 65536 + y4.toNat * 16777216 + y3.toNat * 4294967296 + y2.toNat * 1099511627776 + y1.toNat * 281474976710656 + y0.toNat * 72057594037927936 : Nat) : Int) = ms := ⟨_, rfl⟩
  rw [hms] at hrange hs0
  have htd := tdiv_facts ms
  have hp : elemC I 16 ks[i].num ks[i].text (timeC ms) := by
   refine elemC_of ?_ ?_ ?_ ?_ ?_ ?_ ?_ ?_ ?_ ?_ ?_ ?_ ?_ ?_ ?_ <;> intro hk <;> first | omega | skip
   rw [hs0]
  have hcut := bytes_cut hsv (l := i * 8) (u := data.length) (by omega) (by omega)
  have g0 : ((data.drop (i * 8)).take (data.length - i * 8))[0]? = some y0 := by rw [List.getElem?_take_of_lt (by omega), List.getElem?_drop]; exact hf.get hid (by rw [hd0]; rfl)
  have g1 : ((data.drop (i * 8)).take (data.length - i * 8))[1]? = some y1 := by rw [List.getElem?_take_of_lt (by omega), List.getElem?_drop]; exact hf.get hid (by rw [hd0]; rfl)
  have g2 : ((data.drop (i * 8)).take (data.length - i * 8))[2]? = some y2 := by rw [List.getElem?_take_of_lt (by omega), List.getElem?_drop]; exact hf.get hid (by rw [hd0]; rfl)
  have g3 : ((data.drop (i * 8)).take (data.length - i * 8))[3]? = some y3 := by rw [List.getElem?_take_of_lt (by omega), List.getElem?_drop]; exact hf.get hid (by rw [hd0]; rfl)
  have g4 : ((data.drop (i * 8)).take (data.length - i * 8))[4]? = some y4 := by rw [List.getElem?_take_of_lt (by omega), List.getElem?_drop]; exact hf.get hid (by rw [hd0]; rfl)
  have g5 : ((data.drop (i * 8)).take (data.length - i * 8))[5]? = some y5 := by rw [List.getElem?_take_of_lt (by omega), List.getElem?_drop]; exact hf.get hid (by rw [hd0]; rfl)
  have g6 : ((data.drop (i * 8)).take (data.length - i * 8))[6]? = some y6 := by rw [List.getElem?_take_of_lt (by omega), List.getElem?_drop]; exact hf.get hid (by rw [hd0]; rfl)
  have g7 : ((data.drop (i * 8)).take (data.length - i * 8))[7]? = some y7 := by rw [List.getElem?_take_of_lt (by omega), List.getElem?_drop]; exact hf.get hid (by rw [hd0]; rfl)
  refine G ?_
  refine ⟨[0,1,2,3,4,5,6], [], [], [], by kernel_rfl, ?_⟩
  refine G ?_
  refine ⟨i * 8, data.length, rfl, rfl, by omega, by omega, ?_⟩
  intro s1 hs1
  refine G ?_
  refine .inr ?_
  refine G ?_
  refine Uint64_law (hs1 ▸ hcut) g0 g1 g2 g3 g4 g5 g6 g7 ?_
  conv => whnf
  refine ⟨ms, hms, ?_⟩
  clear hms hlen t2 hdl
  refine G ?_
  refine ⟨by decide, _, w64 (by omega), ?_⟩
  refine G ?_
  refine ⟨by decide, _, rfl, ?_⟩
  refine G ?_
  refine Cx [] ?_
  refine At_law hrange htd.1 ⟨htd.2.1, htd.2.2.1⟩ htd.2.2.2.1 htd.2.2.2.2 ?_
  refine G ?_
  refine Cx [] ?_
  refine UTC_law ?_
  refine G ?_
  refine ⟨_, _, _, _, i, rfl, rfl, hi', ?_⟩
  refine G ?_
  refine .vec 52 _ _ 2 css.flatten rfl (by have := har.flen; show 0 + i * 2 + 2 ≤ css.flatten.length; omega) ?_
  refine G ?_
  have hsp := har.splice hi' (c := timeC ms) rfl
  refine ⟨ks.length - (i + 1), _, _, by omega, rfl, rfl, rfl, rfl, .inl ⟨i + 1, css.set i (timeC ms), (by rw [Nat.succ_mul]; rfl), rfl, hi', rfl, rfl, ?_, har.step hi' rfl hp⟩⟩
  rw [← hsp]
  show [(52, Res.vec _ _ (splice css.flatten (0 + i * 2) _))] = _
  rw [Nat.zero_add]; try rfl
 ·rename_i hge _
  obtain rfl : i = ks.length := by omega
  refine G ?_
  refine ⟨⟨[], [], [], [52], ?_⟩⟩
  intro J1 hJ1 ⟨n, hn, hsl⟩
  obtain rfl : ks.length = n := hn
  conv => whnf
  rw [show off + (hd.length + 1 + data.length) = off + hd.length + 1 + ks.length * 8 by omega] at h
  rw [hdl] at t3
  exact h J1 _ hJ1 (har.row (by omega) hsl fun x c h => h.mono hJ1) t3
end rd
theorem inv_1_56 {n : Nat} {t d : List UInt8} (h : EncS 1 n t (0x56 :: d)) : ∃ y, d = [y] ∧ (y = 1 ∧ (n == 1) = true ∨ y = 0 ∧ (n == 1) = false) := by
 generalize he : (0x56 : UInt8) :: d = e at h
 cases h with
 | bool h =>
  generalize (n == 1) = m at h
  cases h <;> first | exact ⟨_, cons_eq he, by decide⟩ | cases he
theorem inv_1_41 {n : Nat} {t d : List UInt8} (h : EncS 1 n t (0x41 :: d)) : d = [] ∧ (n == 1) = true := by
 generalize he : (0x41 : UInt8) :: d = e at h
 cases h with
 | bool h =>
  generalize (n == 1) = m at h
  cases h <;> first | exact ⟨cons_eq he, rfl⟩ | cases he
theorem inv_1_42 {n : Nat} {t d : List UInt8} (h : EncS 1 n t (0x42 :: d)) : d = [] ∧ (n == 1) = false := by
 generalize he : (0x42 : UInt8) :: d = e at h
 cases h with
 | bool h =>
  generalize (n == 1) = m at h
  cases h <;> first | exact ⟨cons_eq he, rfl⟩ | cases he
theorem flat_one (l : List UInt8) : (l.map fun y => [byteV y]).flatten = l.map byteV := by
 induction l with
 | nil => rfl
 | cons y l ih => simp only [List.map_cons, List.flatten_cons, ih]; rfl
theorem inv_2_50 {n : Nat} {t d : List UInt8} (h : EncS 2 n t (0x50 :: d)) : ∃ y0, d = [y0] ∧ n = y0.toNat := by
 generalize he : (0x50 : UInt8) :: d = e at h
 cases h with
 | ubyte h => cases h <;> exact ⟨_, cons_eq he, rfl⟩
theorem inv_17_98 {n : Nat} {t d : List UInt8} (h : EncS 17 n t (0x98 :: d)) : d = t ∧ t.length = 16 := by
 generalize he : (0x98 : UInt8) :: d = e at h
 cases h with
 | uuid h => cases h with | s h => exact ⟨cons_eq he, h⟩
theorem FixE.cut {w : Nat} {k : Int} {ks : List V} {c : UInt8} {data : List UInt8} {ds : List (List UInt8)} (h : FixE w k ks c data ds) {i : Nat} (hi : i < ds.length) : (data.drop (i * w)).take w = ds[i] := by
 have hw := h.wid ds[i] (by simp)
 have hd := h.dlen
 rw [← h.len] at hd
 have h1 : i * w + w ≤ data.length := by rw [hd, ← Nat.succ_mul]; exact Nat.mul_le_mul_right _ hi
 refine List.ext_getElem? fun j => ?_
 by_cases hj : j < w
 ·rw [List.getElem?_take_of_lt hj, List.getElem?_drop]
  have hjl : j < ds[i].length := by omega
  rw [List.getElem?_eq_getElem hjl]
  exact h.get hi (by simp)
 ·rw [List.getElem?_eq_none (by simp; omega), List.getElem?_eq_none (by omega)]
section rd
variable {I : Imm} {b : Nat} {bs : List UInt8} {v : Value} {off : Nat} {Q : Qt}
theorem arr_1_41 {ks : List V} {data hd r : List UInt8} {bl : Nat} (hv : BufAt I bs v) (hn : 0 < ks.length) (ha : ArrE 1 ks 0x41 data) (hh : HeadE 0xe0 0xf0 ks.length hd (0x41 :: data)) (hdr : bs.drop off = hd ++ ((0x41 :: data) ++ r))
  (h : ∀ I' sv, I.le I' → Row 1 (fun (x : V) c => elemC I' 1 x.num x.text c) I' ks sv → bs.drop (off + (hd.length + 1 + data.length)) = r → Q .nilIface [[sv], bufC v (off + (hd.length + 1 + data.length))] [] I') :
  WP Tryz.prog 124 #[ptr bl, ptr b] [(bl, [.slice none 0 0]), (b, bufC v off)] [] I Q := by
 obtain ⟨hn1, hn2⟩ := head_pos hh
 have hsm := hv.small
 obtain ⟨ds, hf⟩ := arr_nonempty (w := 0) ha fun n t d he => by obtain ⟨rfl, _⟩ := inv_1_41 he; rfl
 have hdl := hf.dlen
 rw [Nat.mul_zero] at hdl
 obtain rfl : data = [] := List.eq_nil_of_length_eq_zero hdl
 have hone : ks.length = 1 := by simp only [List.length_cons, List.length_nil] at hn1; omega
 refine lw K124 [(0,1000),(1,1001)] _ Tryz.func124 ?_
 refine G ?_
 refine Cx [1001] ?_
 refine readArrayHeader_law hv hh hdr fun hr => ?_
 refine G ?_
 refine ⟨0, 0, rfl, rfl, by omega, by omega, ?_⟩
 intro sn hsn
 obtain rfl : sn = .slice none 0 0 := by rw [hsn]; rfl
 refine G ?_
 (first | (split; omega) | (split; rotate_left; omega)); refine G ?_
 refine ⟨by decide, ks.length, rfl, rfl, by omega, by rw [show ti4.bytes = 1 by kernel_rfl]; omega, fun bb => ?_⟩
 refine G ?_
 refine Cx [1001] ?_
 refine readType_law hv hr fun hr => ?_
 replace hr : bs.drop (off + hd.length + 1) = r := hr
 refine G ?_
 refine ⟨⟨[77], [], [], fun m vs cs R J => ∃ (i : Nat) (css : List (List Value)), vs = [.int .i64 (i : Nat)] ∧ cs = [] ∧ i ≤ ks.length ∧ m = ks.length - i ∧ I = J ∧
   R = [(32, .vec (.slice (some ⟨bb, 0, none⟩) ks.length ks.length) 1 css.flatten)] ∧ AR 1 (fun (x : V) c => elemC I 1 x.num x.text c) ks i css, ks.length, _, _, rfl, rfl,
  ⟨0, List.replicate ks.length (vcells ti4.zero), rfl, rfl, by omega, rfl, rfl, rfl, .init rfl⟩, ?_⟩⟩
 rintro m vs cs R J hJ _ _ ⟨i, css, rfl, rfl, hi, rfl, rfl, rfl, har⟩
 refine G ?_
 split
 ·rename_i hlt _
  have hi' : i < ks.length := by omega
  have hid : i < ds.length := by rw [hf.len]; exact hi'
  obtain ⟨hd0, hs0⟩ := inv_1_41 (hf.enc i hi' hid)
  have hp : elemC I 1 ks[i].num ks[i].text [.bool true] := by
   refine elemC_of ?_ ?_ ?_ ?_ ?_ ?_ ?_ ?_ ?_ ?_ ?_ ?_ ?_ ?_ ?_ <;> intro hk <;> first | omega | skip
   rw [hs0]
  refine G ?_
  refine ⟨_, _, _, _, i, rfl, rfl, hi', ?_⟩
  refine G ?_
  refine .vec 32 _ _ 1 css.flatten rfl (by have := har.flen; show 0 + i * 1 + 1 ≤ css.flatten.length; omega) ?_
  refine G ?_
  have hsp := har.splice hi' (c := [.bool true]) rfl
  refine ⟨ks.length - (i + 1), _, _, by omega, rfl, rfl, rfl, rfl, .inl ⟨i + 1, css.set i [.bool true], rfl, rfl, hi', rfl, rfl, ?_, har.step hi' rfl hp⟩⟩
  rw [← hsp]
  show [(32, Res.vec _ _ (splice css.flatten (0 + i * 1) _))] = _
  rw [Nat.zero_add]; try rfl
 ·rename_i hge _
  obtain rfl : i = ks.length := by omega
  refine G ?_
  refine ⟨⟨[], [], [], [32], ?_⟩⟩
  intro J1 hJ1 ⟨n, hn, hsl⟩
  obtain rfl : ks.length = n := hn
  conv => whnf
  exact h J1 _ hJ1 (har.row (by omega) hsl fun x c h => h.mono hJ1) hr
theorem arr_1_42 {ks : List V} {data hd r : List UInt8} {bl : Nat} (hv : BufAt I bs v) (hn : 0 < ks.length) (ha : ArrE 1 ks 0x42 data) (hh : HeadE 0xe0 0xf0 ks.length hd (0x42 :: data)) (hdr : bs.drop off = hd ++ ((0x42 :: data) ++ r))
  (h : ∀ I' sv, I.le I' → Row 1 (fun (x : V) c => elemC I' 1 x.num x.text c) I' ks sv → bs.drop (off + (hd.length + 1 + data.length)) = r → Q .nilIface [[sv], bufC v (off + (hd.length + 1 + data.length))] [] I') :
  WP Tryz.prog 124 #[ptr bl, ptr b] [(bl, [.slice none 0 0]), (b, bufC v off)] [] I Q := by
 obtain ⟨hn1, hn2⟩ := head_pos hh
 have hsm := hv.small
 obtain ⟨ds, hf⟩ := arr_nonempty (w := 0) ha fun n t d he => by obtain ⟨rfl, _⟩ := inv_1_42 he; rfl
 have hdl := hf.dlen
 rw [Nat.mul_zero] at hdl
 obtain rfl : data = [] := List.eq_nil_of_length_eq_zero hdl
 have hone : ks.length = 1 := by simp only [List.length_cons, List.length_nil] at hn1; omega
 refine lw K124 [(0,1000),(1,1001)] _ Tryz.func124 ?_
 refine G ?_
 refine Cx [1001] ?_
 refine readArrayHeader_law hv hh hdr fun hr => ?_
 refine G ?_
 refine ⟨0, 0, rfl, rfl, by omega, by omega, ?_⟩
 intro sn hsn
 obtain rfl : sn = .slice none 0 0 := by rw [hsn]; rfl
 refine G ?_
 (first | (split; omega) | (split; rotate_left; omega)); refine G ?_
 refine ⟨by decide, ks.length, rfl, rfl, by omega, by rw [show ti4.bytes = 1 by kernel_rfl]; omega, fun bb => ?_⟩
 refine G ?_
 refine Cx [1001] ?_
 refine readType_law hv hr fun hr => ?_
 replace hr : bs.drop (off + hd.length + 1) = r := hr
 refine G ?_
 refine ⟨⟨[88], [], [], fun m vs cs R J => ∃ (i : Nat) (css : List (List Value)), vs = [.int .i64 (i : Nat)] ∧ cs = [] ∧ i ≤ ks.length ∧ m = ks.length - i ∧ I = J ∧
   R = [(32, .vec (.slice (some ⟨bb, 0, none⟩) ks.length ks.length) 1 css.flatten)] ∧ AR 1 (fun (x : V) c => elemC I 1 x.num x.text c) ks i css, ks.length, _, _, rfl, rfl,
  ⟨0, List.replicate ks.length (vcells ti4.zero), rfl, rfl, by omega, rfl, rfl, rfl, .init rfl⟩, ?_⟩⟩
 rintro m vs cs R J hJ _ _ ⟨i, css, rfl, rfl, hi, rfl, rfl, rfl, har⟩
 refine G ?_
 split
 ·rename_i hlt _
  have hi' : i < ks.length := by omega
  have hid : i < ds.length := by rw [hf.len]; exact hi'
  obtain ⟨hd0, hs0⟩ := inv_1_42 (hf.enc i hi' hid)
  have hp : elemC I 1 ks[i].num ks[i].text [.bool false] := by
   refine elemC_of ?_ ?_ ?_ ?_ ?_ ?_ ?_ ?_ ?_ ?_ ?_ ?_ ?_ ?_ ?_ <;> intro hk <;> first | omega | skip
   rw [hs0]
  refine G ?_
  refine ⟨_, _, _, _, i, rfl, rfl, hi', ?_⟩
  refine G ?_
  refine .vec 32 _ _ 1 css.flatten rfl (by have := har.flen; show 0 + i * 1 + 1 ≤ css.flatten.length; omega) ?_
  refine G ?_
  have hsp := har.splice hi' (c := [.bool false]) rfl
  refine ⟨ks.length - (i + 1), _, _, by omega, rfl, rfl, rfl, rfl, .inl ⟨i + 1, css.set i [.bool false], rfl, rfl, hi', rfl, rfl, ?_, har.step hi' rfl hp⟩⟩
  rw [← hsp]
  show [(32, Res.vec _ _ (splice css.flatten (0 + i * 1) _))] = _
  rw [Nat.zero_add]; try rfl
 ·rename_i hge _
  obtain rfl : i = ks.length := by omega
  refine G ?_
  refine ⟨⟨[], [], [], [32], ?_⟩⟩
  intro J1 hJ1 ⟨n, hn, hsl⟩
  obtain rfl : ks.length = n := hn
  conv => whnf
  exact h J1 _ hJ1 (har.row (by omega) hsl fun x c h => h.mono hJ1) hr
theorem arr_1_56 {ks : List V} {data hd r : List UInt8} {bl : Nat} (hv : BufAt I bs v) (hn : 0 < ks.length) (ha : ArrE 1 ks 0x56 data) (hh : HeadE 0xe0 0xf0 ks.length hd (0x56 :: data)) (hdr : bs.drop off = hd ++ ((0x56 :: data) ++ r))
  (h : ∀ I' sv, I.le I' → Row 1 (fun (x : V) c => elemC I' 1 x.num x.text c) I' ks sv → bs.drop (off + (hd.length + 1 + data.length)) = r → Q .nilIface [[sv], bufC v (off + (hd.length + 1 + data.length))] [] I') :
  WP Tryz.prog 124 #[ptr bl, ptr b] [(bl, [.slice none 0 0]), (b, bufC v off)] [] I Q := by
 obtain ⟨hn1, hn2⟩ := head_pos hh
 have hsm := hv.small
 obtain ⟨ds, hf⟩ := arr_nonempty (w := 1) ha fun n t d he => by obtain ⟨y0, rfl, _⟩ := inv_1_56 he; rfl
 have hdl := hf.dlen
 rw [Nat.mul_one] at hdl
 refine lw K124 [(0,1000),(1,1001)] _ Tryz.func124 ?_
 refine G ?_
 refine Cx [1001] ?_
 refine readArrayHeader_law hv hh hdr fun hr => ?_
 refine G ?_
 refine ⟨0, 0, rfl, rfl, by omega, by omega, ?_⟩
 intro sn hsn
 obtain rfl : sn = .slice none 0 0 := by rw [hsn]; rfl
 refine G ?_
 (first | (split; omega) | (split; rotate_left; omega)); refine G ?_
 refine ⟨by decide, ks.length, rfl, rfl, by omega, by rw [show ti4.bytes = 1 by kernel_rfl]; omega, fun bb => ?_⟩
 refine G ?_
 refine Cx [1001] ?_
 refine readType_law hv hr fun hr => ?_
 replace hr : bs.drop (off + hd.length + 1) = data ++ r := hr
 obtain ⟨t1, t2, t3⟩ := take_of_drop hr
 have hlen := congrArg List.length hr
 rw [List.length_drop, List.length_append] at hlen
 refine G ?_
 refine Cx [1001] ?_
 refine Next_law (n := ks.length) hv (by omega) fun sv hsv => ?_
 rw [← hdl, t1] at hsv
 obtain ⟨base, cap, rfl⟩ := bytes_form hsv
 have hcap := (bytes_le hsv).2
 obtain ⟨vb, vo, rfl⟩ := bytes_some hsv (by omega)
 refine G ?_
 refine ⟨⟨[59], [], [], fun m vs cs R J => ∃ (i : Nat) (css : List (List Value)), vs = [.int .i64 (i : Nat)] ∧ cs = [] ∧ i ≤ ks.length ∧ m = ks.length - i ∧ I = J ∧
   R = [(32, .vec (.slice (some ⟨bb, 0, none⟩) ks.length ks.length) 1 css.flatten)] ∧ AR 1 (fun (x : V) c => elemC I 1 x.num x.text c) ks i css, ks.length, _, _, rfl, rfl,
  ⟨0, List.replicate ks.length (vcells ti4.zero), rfl, rfl, by omega, rfl, rfl, rfl, .init rfl⟩, ?_⟩⟩
 rintro m vs cs R J hJ _ _ ⟨i, css, rfl, rfl, hi, rfl, rfl, rfl, har⟩
 refine G ?_
 split
 ·rename_i hlt _
  have hi' : i < ks.length := by omega
  have hid : i < ds.length := by rw [hf.len]; exact hi'
  obtain ⟨y0, hd0, hs0⟩ := inv_1_56 (hf.enc i hi' hid)
  have hcell : data[i]? = some y0 := by have := hf.get (j := 0) hid (by rw [hd0]; rfl); simpa using this
  refine G ?_
  refine ⟨_, _, _, _, i, rfl, rfl, by omega, ?_⟩
  refine G ?_
  refine ⟨_, .imm (bytes_cell hsv hcell), ?_⟩
  have go1 : ∀ t : Bool, (ks[i].num == 1) = t → elemC I 1 ks[i].num ks[i].text [.bool t] := fun t ht => by
   refine elemC_of ?_ ?_ ?_ ?_ ?_ ?_ ?_ ?_ ?_ ?_ ?_ ?_ ?_ ?_ ?_ <;> intro hk <;> first | omega | skip
   rw [ht]
  rcases hs0 with ⟨rfl, ht⟩ | ⟨rfl, ht⟩
  all_goals
   refine G ?_
   refine ⟨_, _, _, _, i, rfl, rfl, hi', ?_⟩
   refine G ?_
   refine .vec 32 _ _ 1 css.flatten rfl (by have := har.flen; show 0 + i * 1 + 1 ≤ css.flatten.length; omega) ?_
   refine G ?_
   have hsp := har.splice hi' (c := [.bool (ks[i].num == 1)]) rfl
   refine ⟨ks.length - (i + 1), _, _, by omega, rfl, rfl, rfl, rfl, .inl ⟨i + 1, css.set i [.bool (ks[i].num == 1)], rfl, rfl, hi', rfl, rfl, ?_, har.step hi' rfl (go1 _ rfl)⟩⟩
   rw [← hsp, ht]
   show [(32, Res.vec _ _ (splice css.flatten (0 + i * 1) _))] = _
   rw [Nat.zero_add]; try rfl
 ·rename_i hge _
  obtain rfl : i = ks.length := by omega
  refine G ?_
  refine ⟨⟨[], [], [], [32], ?_⟩⟩
  intro J1 hJ1 ⟨n, hn, hsl⟩
  obtain rfl : ks.length = n := hn
  conv => whnf
  rw [show off + (hd.length + 1 + data.length) = off + hd.length + 1 + ks.length by omega] at h
  rw [hdl] at t3
  exact h J1 _ hJ1 (har.row (by omega) hsl fun x c h => h.mono hJ1) t3
theorem arr_17_98 {ks : List V} {data hd r : List UInt8} {bl : Nat} (hv : BufAt I bs v) (hn : 0 < ks.length) (ha : ArrE 17 ks 0x98 data) (hh : HeadE 0xe0 0xf0 ks.length hd (0x98 :: data)) (hdr : bs.drop off = hd ++ ((0x98 :: data) ++ r))
  (h : ∀ I' sv, I.le I' → Row 16 (fun (x : V) c => elemC I' 17 x.num x.text c) I' ks sv → bs.drop (off + (hd.length + 1 + data.length)) = r → Q .nilIface [[sv], bufC v (off + (hd.length + 1 + data.length))] [] I') :
  WP Tryz.prog 130 #[ptr bl, ptr b] [(bl, [.slice none 0 0]), (b, bufC v off)] [] I Q := by
 obtain ⟨hn1, hn2⟩ := head_pos hh
 have hsm := hv.small
 obtain ⟨ds, hf⟩ := arr_nonempty (w := 16) ha fun n t d he => by obtain ⟨rfl, h⟩ := inv_17_98 he; exact h
 have hdl := hf.dlen
 refine lw K130 [(0,1000),(1,1001)] _ Tryz.func130 ?_
 refine G ?_
 refine Cx [1001] ?_
 refine readArrayHeader_law hv hh hdr fun hr => ?_
 refine G ?_
 refine Cx [1001] ?_
 refine readType_law hv hr fun hr => ?_
 replace hr : bs.drop (off + hd.length + 1) = data ++ r := hr
 obtain ⟨t1, t2, t3⟩ := take_of_drop hr
 have hlen := congrArg List.length hr
 rw [List.length_drop, List.length_append] at hlen
 refine G ?_
 refine Cx [1001] ?_
 refine Next_law (n := ks.length * 16) hv (by omega) fun sv hsv => ?_
 rw [← hdl, t1] at hsv
 obtain ⟨base, cap, rfl⟩ := bytes_form hsv
 have hcap := (bytes_le hsv).2
 obtain ⟨vb, vo, rfl⟩ := bytes_some hsv (by omega)
 refine G ?_
 refine ⟨0, 0, rfl, rfl, by omega, by omega, ?_⟩
 intro sn hsn
 obtain rfl : sn = .slice none 0 0 := by rw [hsn]; rfl
 refine G ?_
 (first | (split; omega) | (split; rotate_left; omega)); refine G ?_
 refine ⟨by decide, ks.length, rfl, rfl, by omega, by rw [show ti311.bytes = 16 by kernel_rfl]; omega, fun bb => ?_⟩
 refine G ?_
 refine ⟨⟨[57, 11], [], [], fun m vs cs R J => ∃ (i : Nat) (css : List (List Value)), vs = [.int .i64 (i : Nat), .int .i64 ((i * 16 : Nat) : Int)] ∧ cs = [] ∧ i ≤ ks.length ∧ m = ks.length - i ∧ I = J ∧
   R = [(51, .vec (.slice (some ⟨bb, 0, none⟩) ks.length ks.length) 16 css.flatten)] ∧ AR 16 (fun (x : V) c => elemC I 17 x.num x.text c) ks i css, ks.length, _, _, rfl, rfl,
  ⟨0, List.replicate ks.length (vcells ti311.zero), rfl, rfl, by omega, rfl, rfl, rfl, .init rfl⟩, ?_⟩⟩
 rintro m vs cs R J hJ _ _ ⟨i, css, rfl, rfl, hi, rfl, rfl, rfl, har⟩
 refine G ?_
 split
 ·rename_i hlt _
  have hi' : i < ks.length := by omega
  have hid : i < ds.length := by rw [hf.len]; exact hi'
  obtain ⟨hd0, hs0⟩ := inv_17_98 (hf.enc i hi' hid)
  have hc := hf.cut hid
  rw [hd0] at hc
  have hcut := bytes_cut hsv (l := i * 16) (u := i * 16 + 16) (by omega) (by omega)
  rw [show i * 16 + 16 - i * 16 = 16 by omega, hc] at hcut
  have hp : elemC I 17 ks[i].num ks[i].text (ks[i].text.map byteV) := by
   refine elemC_of ?_ ?_ ?_ ?_ ?_ ?_ ?_ ?_ ?_ ?_ ?_ ?_ ?_ ?_ ?_ <;> intro hk <;> first | omega | skip
   rfl
  refine G ?_
  refine ⟨[0,1,2,3,4,5,6,7,8,9], [], [], [], by kernel_rfl, ?_⟩
  refine G ?_
  refine ⟨_, _, _, _, i, rfl, rfl, hi', ?_⟩
  refine G ?_
  refine ⟨i * 16, i * 16 + 16, rfl, rfl, by omega, by omega, ?_⟩
  intro s1 hs1
  refine G ?_
  have hcut' : BytesAt I ks[i].text s1 := by
   rw [hs1]; exact hcut
  have hmin : min ks[i].text.length 16 = 16 := by omega
  have htk : (ks[i].text.map byteV).take (min ks[i].text.length 16 * 1) = ks[i].text.map byteV := List.take_of_length_le (by simp; omega)
  obtain ⟨sb, sc, rfl⟩ := bytes_form hcut'
  refine ⟨_, _, hcut', oneAll_bytes _, .vec 51 _ _ 16 css.flatten rfl ?_ ?_⟩
  ·have := har.flen
   show 0 + i * 16 + ((ks[i].text.map byteV).take (min ks[i].text.length 16 * 1)).length ≤ css.flatten.length
   rw [htk, List.length_map, hs0]; omega
  have e1 : splice css.flatten (0 + i * 16) ((ks[i].text.map byteV).take (min ks[i].text.length 16 * 1)) = (css.set i (ks[i].text.map byteV)).flatten := by
   rw [htk, Nat.zero_add, har.splice hi' (by simpa using hs0)]
  refine G ?_
  refine ⟨ks.length - (i + 1), _, _, by omega, rfl, rfl, rfl, rfl, .inl ⟨i + 1, css.set i (ks[i].text.map byteV), (by rw [Nat.succ_mul]; rfl), rfl, hi', rfl, rfl, ?_, har.step hi' (by simpa using hs0) hp⟩⟩
  rw [← e1]; try rfl
 ·rename_i hge _
  obtain rfl : i = ks.length := by omega
  refine G ?_
  refine ⟨⟨[], [], [], [51], ?_⟩⟩
  intro J1 hJ1 ⟨n, hn, hsl⟩
  obtain rfl : ks.length = n := hn
  conv => whnf
  rw [show off + (hd.length + 1 + data.length) = off + hd.length + 1 + ks.length * 16 by omega] at h
  rw [hdl] at t3
  exact h J1 _ hJ1 (har.row (by omega) hsl fun x c h => h.mono hJ1) t3
theorem arr_2_50 {ks : List V} {data hd r : List UInt8} {bl : Nat} (hv : BufAt I bs v) (hn : 0 < ks.length) (ha : ArrE 2 ks 0x50 data) (hh : HeadE 0xe0 0xf0 ks.length hd (0x50 :: data)) (hdr : bs.drop off = hd ++ ((0x50 :: data) ++ r))
  (h : ∀ I' sv, I.le I' → Row 1 (fun (x : V) c => elemC I' 2 x.num x.text c) I' ks sv → bs.drop (off + (hd.length + 1 + data.length)) = r → Q .nilIface [[sv], bufC v (off + (hd.length + 1 + data.length))] [] I') :
  WP Tryz.prog 236 #[ptr bl, ptr b] [(bl, [.slice none 0 0]), (b, bufC v off)] [] I Q := by
 obtain ⟨hn1, hn2⟩ := head_pos hh
 have hsm := hv.small
 obtain ⟨ds, hf⟩ := arr_nonempty (w := 1) ha fun n t d he => by obtain ⟨y0, rfl, _⟩ := inv_2_50 he; rfl
 have hdl := hf.dlen
 rw [Nat.mul_one] at hdl
 refine lw K236 [(0,1000),(1,1001)] _ Tryz.func236 ?_
 refine G ?_
 refine Cx [1001] ?_
 refine readArrayHeader_law hv hh hdr fun hr => ?_
 refine G ?_
 refine Cx [1001] ?_
 refine readType_law hv hr fun hr => ?_
 replace hr : bs.drop (off + hd.length + 1) = data ++ r := hr
 obtain ⟨t1, t2, t3⟩ := take_of_drop hr
 have hlen := congrArg List.length hr
 rw [List.length_drop, List.length_append] at hlen
 refine G ?_
 refine Cx [1001] ?_
 refine Next_law (n := ks.length) hv (by omega) fun sv hsv => ?_
 rw [← hdl, t1] at hsv
 obtain ⟨base, cap, rfl⟩ := bytes_form hsv
 refine G ?_
 refine .nil data.length (data.map byteV) rfl hsv (by rw [show ti5.bytes = 1 by kernel_rfl]; omega) fun nb nc => ?_
 refine G ?_
 refine ⟨⟨[], [], [], [40], ?_⟩⟩
 intro J1 hJ1 ⟨n, hn3, hsl⟩
 obtain rfl : data.length = n := hn3
 conv => whnf
 rw [show off + (hd.length + 1 + data.length) = off + hd.length + 1 + ks.length by omega] at h
 rw [hdl] at t3
 refine h J1 _ hJ1 ⟨by omega, data.map fun y => [byteV y], by rw [← hdl, flat_one]; exact hsl, by simp; omega, fun i x c hx hc => ?_⟩ t3
 have hi : i < ks.length := (List.getElem?_eq_some_iff.1 hx).1
 have hid : i < ds.length := by rw [hf.len]; exact hi
 obtain ⟨y0, hd0, hs0⟩ := inv_2_50 (hf.enc i hi hid)
 have hcell : data[i]? = some y0 := by have := hf.get (j := 0) hid (by rw [hd0]; rfl); simpa using this
 rw [List.getElem?_map, hcell] at hc
 simp only [Option.map_some, Option.some.injEq] at hc
 subst hc
 rw [List.getElem?_eq_getElem hi] at hx
 cases hx
 refine ⟨?_, rfl⟩
 refine elemC_of ?_ ?_ ?_ ?_ ?_ ?_ ?_ ?_ ?_ ?_ ?_ ?_ ?_ ?_ ?_ <;> intro hk <;> first | omega | skip
 rw [hs0]; rfl
end rd
theorem AR.mono {sz i : Nat} {P P' : V → List Value → Prop} {ks : List V} {cs : List (List Value)} (h : AR sz P ks i cs) (hp : ∀ x c, P x c → P' x c) : AR sz P' ks i cs := ⟨h.len, h.wid, fun j x c hj hx hc => hp _ _ (h.got j x c hj hx hc)⟩
structure TxtA (s : Bool) (ks : List V) (data : List UInt8) (ds : List (List UInt8)) : Prop where
 len : ds.length = ks.length
 flat : data = ds.flatten
 short : s = true → ∀ (i : Nat) (hi : i < ks.length) (hj : i < ds.length), ∃ y : UInt8, ds[i] = y :: ks[i].text ∧ y.toNat = ks[i].text.length
 long : s = false → ∀ (i : Nat) (hi : i < ks.length) (hj : i < ds.length), ∃ y0 y1 y2 y3 : UInt8, ds[i] = y0 :: y1 :: y2 :: y3 :: ks[i].text ∧ y3.toNat + y2.toNat * 256 + y1.toNat * 65536 + y0.toNat * 16777216 = ks[i].text.length
theorem textE_short {c8 c32 : UInt8} {t d : List UInt8} (hne : c8 ≠ c32) (h : TextE c8 c32 t (c8 :: d)) : ∃ y : UInt8, d = y :: t ∧ y.toNat = t.length := by
 generalize he : c8 :: d = e at h
 cases h with
 | s y h => exact ⟨y, cons_eq he, h⟩
 | l => exact absurd (by injection he) hne
theorem textE_long {c8 c32 : UInt8} {t d : List UInt8} (hne : c8 ≠ c32) (h : TextE c8 c32 t (c32 :: d)) : ∃ y0 y1 y2 y3 : UInt8, d = y0 :: y1 :: y2 :: y3 :: t ∧ y3.toNat + y2.toNat * 256 + y1.toNat * 65536 + y0.toNat * 16777216 = t.length := by
 generalize he : c32 :: d = e at h
 cases h with
 | s => exact absurd (by injection he with a b; exact a.symm) hne
 | l y0 y1 y2 y3 h => exact ⟨y0, y1, y2, y3, cons_eq he, h⟩
theorem txt_of {k : Int} {c8 c32 : UInt8} {ks : List V} {c : UInt8} {data : List UInt8} (hne : c8 ≠ c32) (hk : ∀ n t e, EncS k n t e → TextE c8 c32 t e) (hc : c = c8 ∨ c = c32) (h : ArrE k ks c data) : ∃ ds, TxtA (c == c8) ks data ds := by
 obtain ⟨ds, h1, h2, h3⟩ := h
 refine ⟨ds, h1, h2, fun hs i hi hj => ?_, fun hs i hi hj => ?_⟩
 ·obtain rfl : c = c8 := by simpa using hs
  exact textE_short hne (hk _ _ _ (h3 i ks[i] ds[i] (by simp [hi]) (by simp [hj])))
 ·obtain rfl : c = c32 := by rcases hc with rfl | rfl; simp at hs; rfl
  exact textE_long hne (hk _ _ _ (h3 i ks[i] ds[i] (by simp [hi]) (by simp [hj])))
theorem text18 (n : Nat) (t e : List UInt8) (h : EncS 18 n t e) : TextE 0xa0 0xb0 t e := by cases h; assumption
theorem text19 (n : Nat) (t e : List UInt8) (h : EncS 19 n t e) : TextE 0xa1 0xb1 t e := by cases h; assumption
theorem text20 (n : Nat) (t e : List UInt8) (h : EncS 20 n t e) : TextE 0xa3 0xb3 t e := by cases h; assumption
theorem flatten_ge {α : Type} {w : Nat} : ∀ {ds : List (List α)}, (∀ d ∈ ds, w ≤ d.length) → ds.length * w ≤ ds.flatten.length
 | [], _ => by simp
 | d :: ds, h => by
  have h1 := h d (by simp)
  have h2 := flatten_ge (ds := ds) fun x hx => h x (by simp [hx])
  rw [List.flatten_cons, List.length_append, List.length_cons, Nat.succ_mul]; omega
theorem TxtA.two {s : Bool} {ks : List V} {data : List UInt8} {ds : List (List UInt8)} (h : TxtA s ks data ds) (hne : ∀ (i : Nat) (x : V), ks[i]? = some x → x.text ≠ []) : ks.length * 2 ≤ data.length := by
 rw [h.flat, ← h.len]
 refine flatten_ge fun d hd => ?_
 obtain ⟨i, hi⟩ := List.mem_iff_getElem?.1 hd
 have hil := (List.getElem?_eq_some_iff.1 hi).1
 have hik : i < ks.length := by rw [← h.len]; exact hil
 have hpos : 0 < ks[i].text.length := List.length_pos_iff.2 (hne i ks[i] (by simp [hik]))
 have hdi : d = ds[i] := by have := (List.getElem?_eq_some_iff.1 hi).2; exact this.symm
 cases s with
 | true => obtain ⟨y, e, _⟩ := h.short rfl i hik hil; rw [hdi, e, List.length_cons]; omega
 | false => obtain ⟨y0, y1, y2, y3, e, _⟩ := h.long rfl i hik hil; rw [hdi, e]; simp only [List.length_cons]; omega
section rd
variable {I : Imm} {b : Nat} {bs : List UInt8} {v : Value} {off : Nat} {Q : Qt}
theorem arr_19_a1 {ks : List V} {data hd r : List UInt8} {bl : Nat} (hv : BufAt I bs v) (hn : 0 < ks.length) (hne : ∀ (i : Nat) (x : V), ks[i]? = some x → x.text ≠ []) (ha : ArrE 19 ks 0xa1 data) (hh : HeadE 0xe0 0xf0 ks.length hd (0xa1 :: data)) (hdr : bs.drop off = hd ++ ((0xa1 :: data) ++ r))
  (h : ∀ I' sv, I.le I' → Row 1 (fun (x : V) c => elemC I' 19 x.num x.text c) I' ks sv → bs.drop (off + (hd.length + 1 + data.length)) = r → Q .nilIface [[sv], bufC v (off + (hd.length + 1 + data.length))] [] I') :
  WP Tryz.prog 125 #[ptr bl, ptr b] [(bl, [.slice none 0 0]), (b, bufC v off)] [] I Q := by
 obtain ⟨hn1, hn2⟩ := head_pos hh
 have hsm := hv.small
 obtain ⟨ds, hf⟩ := txt_of (c := 0xa1) (by decide) text19 (by decide) ha
 have h2n := hf.two hne
 refine lw K125 [(0,1000),(1,1001)] _ Tryz.func125 ?_
 refine G ?_
 refine Cx [1001] ?_
 refine readArrayHeader_law hv hh hdr fun hr => ?_
 have hlen0 := congrArg List.length hr
 rw [List.length_drop, List.length_append, List.length_cons] at hlen0
 refine G ?_
 refine Cx [1001] ?_
 refine Len_law hv (by omega) ?_
 refine G ?_
 (first | (split; omega) | (split; rotate_left; omega)); refine G ?_
 refine ⟨0, 0, rfl, rfl, by omega, by omega, ?_⟩
 intro sn hsn
 obtain rfl : sn = .slice none 0 0 := by rw [hsn]; rfl
 refine G ?_
 (first | (split; omega) | (split; rotate_left; omega)); refine G ?_
 refine ⟨by decide, ks.length, rfl, rfl, by omega, by rw [show ti9.bytes = 16 by kernel_rfl]; omega, fun bb => ?_⟩
 refine G ?_
 refine Cx [1001] ?_
 refine readType_law hv hr fun hr => ?_
 replace hr : bs.drop (off + hd.length + 1) = data ++ r := hr
 have hlen := congrArg List.length hr
 rw [List.length_drop, List.length_append] at hlen
 rw [hf.flat] at hr
 refine G ?_
 refine ⟨⟨[59], [1001], [], fun m vs cs R J => ∃ (i : Nat) (css : List (List Value)), vs = [.int .i64 (i : Nat)] ∧ cs = [bufC v (off + hd.length + 1 + (ds.take i).flatten.length)] ∧ i ≤ ks.length ∧ m = ks.length - i ∧
   R = [(41, .vec (.slice (some ⟨bb, 0, none⟩) ks.length ks.length) 1 css.flatten)] ∧ AR 1 (fun (x : V) c => elemC J 19 x.num x.text c) ks i css, ks.length, _, _, rfl, rfl,
  ⟨0, List.replicate ks.length (vcells ti9.zero), rfl, by simp, by omega, rfl, rfl, .init rfl⟩, ?_⟩⟩
 rintro m vs cs R J hJ _ _ ⟨i, css, rfl, rfl, hi, rfl, rfl, har⟩
 replace hJ : I.le J := hJ
 have hvJ := hv.mono hJ
 refine G ?_
 split
 ·rename_i hlt _
  have hi' : i < ks.length := by omega
  have hid : i < ds.length := by rw [hf.len]; exact hi'
  have hdi := drop_flat hr hid
  have htf := take_flat hid
  have hp : elemC J 19 ks[i].num ks[i].text [strV ks[i].text] := by
   refine elemC_of ?_ ?_ ?_ ?_ ?_ ?_ ?_ ?_ ?_ ?_ ?_ ?_ ?_ ?_ ?_ <;> intro hk <;> first | omega | rfl
  obtain ⟨y, hdd, hy⟩ := hf.short rfl i hi' hid
  rw [hdd] at hdi
  have hyl := y.toNat_lt
  have d1 := (drop_cons hdi).2.2
  have d2 := drop_le hdi
  obtain ⟨t1, t2, t3⟩ := take_of_drop d1
  refine G ?_
  refine Cx [1001] ?_
  refine ReadByte_law hvJ hdi fun hr1 => ?_
  rw [show byteV y = .int .u8 (ks[i].text.length : Nat) by rw [← hy]; rfl]
  refine G ?_
  refine Cx [1001] ?_
  refine Next_law (n := ks[i].text.length) hvJ (by omega) fun sv hsv => ?_
  rw [t1] at hsv
  obtain ⟨base, cap, rfl⟩ := bytes_form hsv
  refine G ?_
  refine ⟨_, .imm hsv, ?_⟩
  refine G ?_
  refine ⟨_, _, _, _, i, rfl, rfl, hi', ?_⟩
  refine G ?_
  refine .vec 41 _ _ 1 css.flatten rfl (by have := har.flen; show 0 + i * 1 + 1 ≤ css.flatten.length; omega) ?_
  refine G ?_
  have hsp := har.splice hi' (c := [strV ks[i].text]) rfl
  refine ⟨ks.length - (i + 1), _, _, by omega, rfl, rfl, rfl, rfl, .inl ⟨i + 1, css.set i [strV ks[i].text], rfl, ?_, hi', rfl, ?_, har.step hi' rfl hp⟩⟩
  ·rw [htf, hdd]; simp only [List.length_cons]
   rw [show off + hd.length + 1 + (ds.take i).flatten.length + 1 + ks[i].text.length = off + hd.length + 1 + ((ds.take i).flatten.length + (ks[i].text.length + 1)) by omega]
  ·rw [← hsp]
   show [(41, Res.vec _ _ (splice css.flatten (0 + i * 1) _))] = _
   rw [Nat.zero_add]; try rfl
 ·rename_i hge _
  obtain rfl : i = ks.length := by omega
  have hfl : (ds.take ks.length).flatten.length = data.length := by rw [List.take_of_length_le (by rw [hf.len]; omega), hf.flat]
  rw [hfl]
  refine G ?_
  refine ⟨⟨[], [], [], [41], ?_⟩⟩
  intro J1 hJ1 ⟨n, hn, hsl⟩
  obtain rfl : ks.length = n := hn
  conv => whnf
  rw [show off + (hd.length + 1 + data.length) = off + hd.length + 1 + data.length by omega] at h
  refine h J1 _ (hJ.trans hJ1) (har.row (by omega) hsl fun x c h => h.mono hJ1) ?_
  rw [← hf.flat] at hr
  exact (take_of_drop hr).2.2
theorem arr_19_b1 {ks : List V} {data hd r : List UInt8} {bl : Nat} (hv : BufAt I bs v) (hn : 0 < ks.length) (hne : ∀ (i : Nat) (x : V), ks[i]? = some x → x.text ≠ []) (ha : ArrE 19 ks 0xb1 data) (hh : HeadE 0xe0 0xf0 ks.length hd (0xb1 :: data)) (hdr : bs.drop off = hd ++ ((0xb1 :: data) ++ r))
  (h : ∀ I' sv, I.le I' → Row 1 (fun (x : V) c => elemC I' 19 x.num x.text c) I' ks sv → bs.drop (off + (hd.length + 1 + data.length)) = r → Q .nilIface [[sv], bufC v (off + (hd.length + 1 + data.length))] [] I') :
  WP Tryz.prog 125 #[ptr bl, ptr b] [(bl, [.slice none 0 0]), (b, bufC v off)] [] I Q := by
 obtain ⟨hn1, hn2⟩ := head_pos hh
 have hsm := hv.small
 obtain ⟨ds, hf⟩ := txt_of (c := 0xb1) (by decide) text19 (by decide) ha
 have h2n := hf.two hne
 refine lw K125 [(0,1000),(1,1001)] _ Tryz.func125 ?_
 refine G ?_
 refine Cx [1001] ?_
 refine readArrayHeader_law hv hh hdr fun hr => ?_
 have hlen0 := congrArg List.length hr
 rw [List.length_drop, List.length_append, List.length_cons] at hlen0
 refine G ?_
 refine Cx [1001] ?_
 refine Len_law hv (by omega) ?_
 refine G ?_
 (first | (split; omega) | (split; rotate_left; omega)); refine G ?_
 refine ⟨0, 0, rfl, rfl, by omega, by omega, ?_⟩
 intro sn hsn
 obtain rfl : sn = .slice none 0 0 := by rw [hsn]; rfl
 refine G ?_
 (first | (split; omega) | (split; rotate_left; omega)); refine G ?_
 refine ⟨by decide, ks.length, rfl, rfl, by omega, by rw [show ti9.bytes = 16 by kernel_rfl]; omega, fun bb => ?_⟩
 refine G ?_
 refine Cx [1001] ?_
 refine readType_law hv hr fun hr => ?_
 replace hr : bs.drop (off + hd.length + 1) = data ++ r := hr
 have hlen := congrArg List.length hr
 rw [List.length_drop, List.length_append] at hlen
 rw [hf.flat] at hr
 refine G ?_
 refine ⟨⟨[90], [1001], [], fun m vs cs R J => ∃ (i : Nat) (css : List (List Value)), vs = [.int .i64 (i : Nat)] ∧ cs = [bufC v (off + hd.length + 1 + (ds.take i).flatten.length)] ∧ i ≤ ks.length ∧ m = ks.length - i ∧
   R = [(41, .vec (.slice (some ⟨bb, 0, none⟩) ks.length ks.length) 1 css.flatten)] ∧ AR 1 (fun (x : V) c => elemC J 19 x.num x.text c) ks i css, ks.length, _, _, rfl, rfl,
  ⟨0, List.replicate ks.length (vcells ti9.zero), rfl, by simp, by omega, rfl, rfl, .init rfl⟩, ?_⟩⟩
 rintro m vs cs R J hJ _ _ ⟨i, css, rfl, rfl, hi, rfl, rfl, har⟩
 replace hJ : I.le J := hJ
 have hvJ := hv.mono hJ
 refine G ?_
 split
 ·rename_i hlt _
  have hi' : i < ks.length := by omega
  have hid : i < ds.length := by rw [hf.len]; exact hi'
  have hdi := drop_flat hr hid
  have htf := take_flat hid
  have hp : elemC J 19 ks[i].num ks[i].text [strV ks[i].text] := by
   refine elemC_of ?_ ?_ ?_ ?_ ?_ ?_ ?_ ?_ ?_ ?_ ?_ ?_ ?_ ?_ ?_ <;> intro hk <;> first | omega | rfl
  obtain ⟨y0, y1, y2, y3, hdd, hy⟩ := hf.long rfl i hi' hid
  rw [hdd] at hdi
  have d1 : bs.drop (off + hd.length + 1 + (ds.take i).flatten.length + 4) = ks[i].text ++ ((ds.drop (i + 1)).flatten ++ r) := by
   have := congrArg (List.drop 4) hdi
   rw [List.drop_drop] at this
   exact this
  have d2 : off + hd.length + 1 + (ds.take i).flatten.length + 4 ≤ bs.length := by
   have := congrArg List.length hdi
   simp only [List.length_drop, List.length_append, List.length_cons] at this
   omega
  obtain ⟨t1, t2, t3⟩ := take_of_drop d1
  refine G ?_
  refine Cx [1001] ?_
  refine Next_law (n := 4) hvJ d2 fun sv hsv => ?_
  rw [hdi] at hsv
  refine G ?_
  refine Cx [] ?_
  refine Uint32_law hsv (y0 := y0) (y1 := y1) (y2 := y2) (y3 := y3) rfl rfl rfl rfl ?_
  rw [hy]
  refine G ?_
  refine Cx [1001] ?_
  refine Next_law (n := ks[i].text.length) hvJ (by omega) fun sv2 hsv2 => ?_
  rw [t1] at hsv2
  obtain ⟨base, cap, rfl⟩ := bytes_form hsv2
  refine G ?_
  refine ⟨_, .imm hsv2, ?_⟩
  refine G ?_
  refine ⟨_, _, _, _, i, rfl, rfl, hi', ?_⟩
  refine G ?_
  refine .vec 41 _ _ 1 css.flatten rfl (by have := har.flen; show 0 + i * 1 + 1 ≤ css.flatten.length; omega) ?_
  refine G ?_
  have hsp := har.splice hi' (c := [strV ks[i].text]) rfl
  refine ⟨ks.length - (i + 1), _, _, by omega, rfl, rfl, rfl, rfl, .inl ⟨i + 1, css.set i [strV ks[i].text], rfl, ?_, hi', rfl, ?_, har.step hi' rfl hp⟩⟩
  ·rw [htf, hdd]; simp only [List.length_cons]
   rw [show off + hd.length + 1 + (ds.take i).flatten.length + 4 + ks[i].text.length = off + hd.length + 1 + ((ds.take i).flatten.length + (ks[i].text.length + 1 + 1 + 1 + 1)) by omega]
  ·rw [← hsp]
   show [(41, Res.vec _ _ (splice css.flatten (0 + i * 1) _))] = _
   rw [Nat.zero_add]; try rfl
 ·rename_i hge _
  obtain rfl : i = ks.length := by omega
  have hfl : (ds.take ks.length).flatten.length = data.length := by rw [List.take_of_length_le (by rw [hf.len]; omega), hf.flat]
  rw [hfl]
  refine G ?_
  refine ⟨⟨[], [], [], [41], ?_⟩⟩
  intro J1 hJ1 ⟨n, hn, hsl⟩
  obtain rfl : ks.length = n := hn
  conv => whnf
  rw [show off + (hd.length + 1 + data.length) = off + hd.length + 1 + data.length by omega] at h
  refine h J1 _ (hJ.trans hJ1) (har.row (by omega) hsl fun x c h => h.mono hJ1) ?_
  rw [← hf.flat] at hr
  exact (take_of_drop hr).2.2
theorem arrP_20_a3 {ks : List V} {data hd r : List UInt8} {bx kk : Nat} {cs0 : List Value} (hkk : cs0[kk]? = some (.slice none 0 0)) (hv : BufAt I bs v) (hn : 0 < ks.length) (hne : ∀ (i : Nat) (x : V), ks[i]? = some x → x.text ≠ []) (ha : ArrE 20 ks 0xa3 data) (hh : HeadE 0xe0 0xf0 ks.length hd (0xa3 :: data)) (hdr : bs.drop off = hd ++ ((0xa3 :: data) ++ r))
  (h : ∀ I' sv, I.le I' → Row 1 (fun (x : V) c => elemC I' 20 x.num x.text c) I' ks sv → bs.drop (off + (hd.length + 1 + data.length)) = r → Q .nilIface [splice cs0 kk [sv], bufC v (off + (hd.length + 1 + data.length))] [] I') :
  WP Tryz.prog 126 #[.pointer (some ⟨bx, kk, none⟩), ptr b] [(bx, cs0), (b, bufC v off)] [] I Q := by
 obtain ⟨hn1, hn2⟩ := head_pos hh
 have hsm := hv.small
 obtain ⟨ds, hf⟩ := txt_of (c := 0xa3) (by decide) text20 (by decide) ha
 have h2n := hf.two hne
 have hkl : kk < cs0.length := (List.getElem?_eq_some_iff.1 hkk).1
 refine lw K126 [(1,1001)] _ Tryz.func126 ?_
 refine G ?_
 refine Cx [1001] ?_
 refine readArrayHeader_law hv hh hdr fun hr => ?_
 have hlen0 := congrArg List.length hr
 rw [List.length_drop, List.length_append, List.length_cons] at hlen0
 refine G ?_
 refine Cx [1001] ?_
 refine Len_law hv (by omega) ?_
 refine G ?_
 (first | (split; omega) | (split; rotate_left; omega)); refine G ?_
 refine ⟨_, .loc 1000 cs0 rfl (fun j x e => by cases j with | zero => cases e; exact hkk | succ j => cases e), ?_⟩
 refine G ?_
 refine ⟨0, 0, rfl, rfl, by omega, by omega, ?_⟩
 intro sn hsn
 obtain rfl : sn = .slice none 0 0 := by rw [hsn]; rfl
 refine G ?_
 (first | (split; omega) | (split; rotate_left; omega)); refine G ?_
 refine ⟨by decide, ks.length, rfl, rfl, by omega, by rw [show ti164.bytes = 16 by kernel_rfl]; omega, fun bb => ?_⟩
 refine G ?_
 refine Cx [1001] ?_
 refine readType_law hv hr fun hr => ?_
 replace hr : bs.drop (off + hd.length + 1) = data ++ r := hr
 have hlen := congrArg List.length hr
 rw [List.length_drop, List.length_append] at hlen
 rw [hf.flat] at hr
 refine G ?_
 refine ⟨⟨[59], [1001], [], fun m vs cs R J => ∃ (i : Nat) (css : List (List Value)), vs = [.int .i64 (i : Nat)] ∧ cs = [bufC v (off + hd.length + 1 + (ds.take i).flatten.length)] ∧ i ≤ ks.length ∧ m = ks.length - i ∧
   R = [(41, .vec (.slice (some ⟨bb, 0, none⟩) ks.length ks.length) 1 css.flatten)] ∧ AR 1 (fun (x : V) c => elemC J 20 x.num x.text c) ks i css, ks.length, _, _, rfl, rfl,
  ⟨0, List.replicate ks.length (vcells ti164.zero), rfl, by simp, by omega, rfl, rfl, .init rfl⟩, ?_⟩⟩
 rintro m vs cs R J hJ _ _ ⟨i, css, rfl, rfl, hi, rfl, rfl, har⟩
 replace hJ : I.le J := hJ
 have hvJ := hv.mono hJ
 refine G ?_
 split
 ·rename_i hlt _
  have hi' : i < ks.length := by omega
  have hid : i < ds.length := by rw [hf.len]; exact hi'
  have hdi := drop_flat hr hid
  have htf := take_flat hid
  have hp : elemC J 20 ks[i].num ks[i].text [strV ks[i].text] := by
   refine elemC_of ?_ ?_ ?_ ?_ ?_ ?_ ?_ ?_ ?_ ?_ ?_ ?_ ?_ ?_ ?_ <;> intro hk <;> first | omega | rfl
  obtain ⟨y, hdd, hy⟩ := hf.short rfl i hi' hid
  rw [hdd] at hdi
  have hyl := y.toNat_lt
  have d1 := (drop_cons hdi).2.2
  have d2 := drop_le hdi
  obtain ⟨t1, t2, t3⟩ := take_of_drop d1
  refine G ?_
  refine Cx [1001] ?_
  refine ReadByte_law hvJ hdi fun hr1 => ?_
  rw [show byteV y = .int .u8 (ks[i].text.length : Nat) by rw [← hy]; rfl]
  refine G ?_
  refine Cx [1001] ?_
  refine Next_law (n := ks[i].text.length) hvJ (by omega) fun sv hsv => ?_
  rw [t1] at hsv
  obtain ⟨base, cap, rfl⟩ := bytes_form hsv
  refine G ?_
  refine ⟨_, .imm hsv, ?_⟩
  refine G ?_
  refine ⟨_, _, _, _, i, rfl, rfl, hi', ?_⟩
  refine G ?_
  refine .vec 41 _ _ 1 css.flatten rfl (by have := har.flen; show 0 + i * 1 + 1 ≤ css.flatten.length; omega) ?_
  refine G ?_
  have hsp := har.splice hi' (c := [strV ks[i].text]) rfl
  refine ⟨ks.length - (i + 1), _, _, by omega, rfl, rfl, rfl, rfl, .inl ⟨i + 1, css.set i [strV ks[i].text], rfl, ?_, hi', rfl, ?_, har.step hi' rfl hp⟩⟩
  ·rw [htf, hdd]; simp only [List.length_cons]
   rw [show off + hd.length + 1 + (ds.take i).flatten.length + 1 + ks[i].text.length = off + hd.length + 1 + ((ds.take i).flatten.length + (ks[i].text.length + 1)) by omega]
  ·rw [← hsp]
   show [(41, Res.vec _ _ (splice css.flatten (0 + i * 1) _))] = _
   rw [Nat.zero_add]; try rfl
 ·rename_i hge _
  obtain rfl : i = ks.length := by omega
  have hfl : (ds.take ks.length).flatten.length = data.length := by rw [List.take_of_length_le (by rw [hf.len]; omega), hf.flat]
  rw [hfl]
  refine G ?_
  refine .loc 1000 cs0 rfl hkl ?_
  refine G ?_
  refine ⟨⟨[], [], [], [41], ?_⟩⟩
  intro J1 hJ1 ⟨n, hn, hsl⟩
  obtain rfl : ks.length = n := hn
  conv => whnf
  rw [show off + (hd.length + 1 + data.length) = off + hd.length + 1 + data.length by omega] at h
  refine h J1 _ (hJ.trans hJ1) (har.row (by omega) hsl fun x c h => h.mono hJ1) ?_
  rw [← hf.flat] at hr
  exact (take_of_drop hr).2.2
theorem arrP_20_b3 {ks : List V} {data hd r : List UInt8} {bx kk : Nat} {cs0 : List Value} (hkk : cs0[kk]? = some (.slice none 0 0)) (hv : BufAt I bs v) (hn : 0 < ks.length) (hne : ∀ (i : Nat) (x : V), ks[i]? = some x → x.text ≠ []) (ha : ArrE 20 ks 0xb3 data) (hh : HeadE 0xe0 0xf0 ks.length hd (0xb3 :: data)) (hdr : bs.drop off = hd ++ ((0xb3 :: data) ++ r))
  (h : ∀ I' sv, I.le I' → Row 1 (fun (x : V) c => elemC I' 20 x.num x.text c) I' ks sv → bs.drop (off + (hd.length + 1 + data.length)) = r → Q .nilIface [splice cs0 kk [sv], bufC v (off + (hd.length + 1 + data.length))] [] I') :
  WP Tryz.prog 126 #[.pointer (some ⟨bx, kk, none⟩), ptr b] [(bx, cs0), (b, bufC v off)] [] I Q := by
 obtain ⟨hn1, hn2⟩ := head_pos hh
 have hsm := hv.small
 obtain ⟨ds, hf⟩ := txt_of (c := 0xb3) (by decide) text20 (by decide) ha
 have h2n := hf.two hne
 have hkl : kk < cs0.length := (List.getElem?_eq_some_iff.1 hkk).1
 refine lw K126 [(1,1001)] _ Tryz.func126 ?_
 refine G ?_
 refine Cx [1001] ?_
 refine readArrayHeader_law hv hh hdr fun hr => ?_
 have hlen0 := congrArg List.length hr
 rw [List.length_drop, List.length_append, List.length_cons] at hlen0
 refine G ?_
 refine Cx [1001] ?_
 refine Len_law hv (by omega) ?_
 refine G ?_
 (first | (split; omega) | (split; rotate_left; omega)); refine G ?_
 refine ⟨_, .loc 1000 cs0 rfl (fun j x e => by cases j with | zero => cases e; exact hkk | succ j => cases e), ?_⟩
 refine G ?_
 refine ⟨0, 0, rfl, rfl, by omega, by omega, ?_⟩
 intro sn hsn
 obtain rfl : sn = .slice none 0 0 := by rw [hsn]; rfl
 refine G ?_
 (first | (split; omega) | (split; rotate_left; omega)); refine G ?_
 refine ⟨by decide, ks.length, rfl, rfl, by omega, by rw [show ti164.bytes = 16 by kernel_rfl]; omega, fun bb => ?_⟩
 refine G ?_
 refine Cx [1001] ?_
 refine readType_law hv hr fun hr => ?_
 replace hr : bs.drop (off + hd.length + 1) = data ++ r := hr
 have hlen := congrArg List.length hr
 rw [List.length_drop, List.length_append] at hlen
 rw [hf.flat] at hr
 refine G ?_
 refine ⟨⟨[90], [1001], [], fun m vs cs R J => ∃ (i : Nat) (css : List (List Value)), vs = [.int .i64 (i : Nat)] ∧ cs = [bufC v (off + hd.length + 1 + (ds.take i).flatten.length)] ∧ i ≤ ks.length ∧ m = ks.length - i ∧
   R = [(41, .vec (.slice (some ⟨bb, 0, none⟩) ks.length ks.length) 1 css.flatten)] ∧ AR 1 (fun (x : V) c => elemC J 20 x.num x.text c) ks i css, ks.length, _, _, rfl, rfl,
  ⟨0, List.replicate ks.length (vcells ti164.zero), rfl, by simp, by omega, rfl, rfl, .init rfl⟩, ?_⟩⟩
 rintro m vs cs R J hJ _ _ ⟨i, css, rfl, rfl, hi, rfl, rfl, har⟩
 replace hJ : I.le J := hJ
 have hvJ := hv.mono hJ
 refine G ?_
 split
 ·rename_i hlt _
  have hi' : i < ks.length := by omega
  have hid : i < ds.length := by rw [hf.len]; exact hi'
  have hdi := drop_flat hr hid
  have htf := take_flat hid
  have hp : elemC J 20 ks[i].num ks[i].text [strV ks[i].text] := by
   refine elemC_of ?_ ?_ ?_ ?_ ?_ ?_ ?_ ?_ ?_ ?_ ?_ ?_ ?_ ?_ ?_ <;> intro hk <;> first | omega | rfl
  obtain ⟨y0, y1, y2, y3, hdd, hy⟩ := hf.long rfl i hi' hid
  rw [hdd] at hdi
  have d1 : bs.drop (off + hd.length + 1 + (ds.take i).flatten.length + 4) = ks[i].text ++ ((ds.drop (i + 1)).flatten ++ r) := by
   have := congrArg (List.drop 4) hdi
   rw [List.drop_drop] at this
   exact this
  have d2 : off + hd.length + 1 + (ds.take i).flatten.length + 4 ≤ bs.length := by
   have := congrArg List.length hdi
   simp only [List.length_drop, List.length_append, List.length_cons] at this
   omega
  obtain ⟨t1, t2, t3⟩ := take_of_drop d1
  refine G ?_
  refine Cx [1001] ?_
  refine Next_law (n := 4) hvJ d2 fun sv hsv => ?_
  rw [hdi] at hsv
  refine G ?_
  refine Cx [] ?_
  refine Uint32_law hsv (y0 := y0) (y1 := y1) (y2 := y2) (y3 := y3) rfl rfl rfl rfl ?_
  rw [hy]
  refine G ?_
  refine Cx [1001] ?_
  refine Next_law (n := ks[i].text.length) hvJ (by omega) fun sv2 hsv2 => ?_
  rw [t1] at hsv2
  obtain ⟨base, cap, rfl⟩ := bytes_form hsv2
  refine G ?_
  refine ⟨_, .imm hsv2, ?_⟩
  refine G ?_
  refine ⟨_, _, _, _, i, rfl, rfl, hi', ?_⟩
  refine G ?_
  refine .vec 41 _ _ 1 css.flatten rfl (by have := har.flen; show 0 + i * 1 + 1 ≤ css.flatten.length; omega) ?_
  refine G ?_
  have hsp := har.splice hi' (c := [strV ks[i].text]) rfl
  refine ⟨ks.length - (i + 1), _, _, by omega, rfl, rfl, rfl, rfl, .inl ⟨i + 1, css.set i [strV ks[i].text], rfl, ?_, hi', rfl, ?_, har.step hi' rfl hp⟩⟩
  ·rw [htf, hdd]; simp only [List.length_cons]
   rw [show off + hd.length + 1 + (ds.take i).flatten.length + 4 + ks[i].text.length = off + hd.length + 1 + ((ds.take i).flatten.length + (ks[i].text.length + 1 + 1 + 1 + 1)) by omega]
  ·rw [← hsp]
   show [(41, Res.vec _ _ (splice css.flatten (0 + i * 1) _))] = _
   rw [Nat.zero_add]; try rfl
 ·rename_i hge _
  obtain rfl : i = ks.length := by omega
  have hfl : (ds.take ks.length).flatten.length = data.length := by rw [List.take_of_length_le (by rw [hf.len]; omega), hf.flat]
  rw [hfl]
  refine G ?_
  refine .loc 1000 cs0 rfl hkl ?_
  refine G ?_
  refine ⟨⟨[], [], [], [41], ?_⟩⟩
  intro J1 hJ1 ⟨n, hn, hsl⟩
  obtain rfl : ks.length = n := hn
  conv => whnf
  rw [show off + (hd.length + 1 + data.length) = off + hd.length + 1 + data.length by omega] at h
  refine h J1 _ (hJ.trans hJ1) (har.row (by omega) hsl fun x c h => h.mono hJ1) ?_
  rw [← hf.flat] at hr
  exact (take_of_drop hr).2.2
theorem arr_20_a3 {ks : List V} {data hd r : List UInt8} {bl : Nat} (hv : BufAt I bs v) (hn : 0 < ks.length) (hne : ∀ (i : Nat) (x : V), ks[i]? = some x → x.text ≠ []) (ha : ArrE 20 ks 0xa3 data) (hh : HeadE 0xe0 0xf0 ks.length hd (0xa3 :: data)) (hdr : bs.drop off = hd ++ ((0xa3 :: data) ++ r))
  (h : ∀ I' sv, I.le I' → Row 1 (fun (x : V) c => elemC I' 20 x.num x.text c) I' ks sv → bs.drop (off + (hd.length + 1 + data.length)) = r → Q .nilIface [[sv], bufC v (off + (hd.length + 1 + data.length))] [] I') :
  WP Tryz.prog 126 #[ptr bl, ptr b] [(bl, [.slice none 0 0]), (b, bufC v off)] [] I Q := arrP_20_a3 (cs0 := [.slice none 0 0]) (kk := 0) rfl hv hn hne ha hh hdr h
theorem arr_20_b3 {ks : List V} {data hd r : List UInt8} {bl : Nat} (hv : BufAt I bs v) (hn : 0 < ks.length) (hne : ∀ (i : Nat) (x : V), ks[i]? = some x → x.text ≠ []) (ha : ArrE 20 ks 0xb3 data) (hh : HeadE 0xe0 0xf0 ks.length hd (0xb3 :: data)) (hdr : bs.drop off = hd ++ ((0xb3 :: data) ++ r))
  (h : ∀ I' sv, I.le I' → Row 1 (fun (x : V) c => elemC I' 20 x.num x.text c) I' ks sv → bs.drop (off + (hd.length + 1 + data.length)) = r → Q .nilIface [[sv], bufC v (off + (hd.length + 1 + data.length))] [] I') :
  WP Tryz.prog 126 #[ptr bl, ptr b] [(bl, [.slice none 0 0]), (b, bufC v off)] [] I Q := arrP_20_b3 (cs0 := [.slice none 0 0]) (kk := 0) rfl hv hn hne ha hh hdr h
theorem arr_18_a0 {ks : List V} {data hd r : List UInt8} {bl : Nat} (hv : BufAt I bs v) (hn : 0 < ks.length) (hne : ∀ (i : Nat) (x : V), ks[i]? = some x → x.text ≠ []) (ha : ArrE 18 ks 0xa0 data) (hh : HeadE 0xe0 0xf0 ks.length hd (0xa0 :: data)) (hdr : bs.drop off = hd ++ ((0xa0 :: data) ++ r))
  (h : ∀ I' sv, I.le I' → Row 1 (fun (x : V) c => elemC I' 18 x.num x.text c) I' ks sv → bs.drop (off + (hd.length + 1 + data.length)) = r → Q .nilIface [[sv], bufC v (off + (hd.length + 1 + data.length))] [] I') :
  WP Tryz.prog 127 #[ptr bl, ptr b] [(bl, [.slice none 0 0]), (b, bufC v off)] [] I Q := by
 obtain ⟨hn1, hn2⟩ := head_pos hh
 have hsm := hv.small
 obtain ⟨ds, hf⟩ := txt_of (c := 0xa0) (by decide) text18 (by decide) ha
 have h2n := hf.two hne
 refine law (kp := [0,1,4,5,6,7,8,9,10,11,12,13,14,15,16,17,24,30,39,51,53,55,58,59,60,68,78,86,89,90,91,99,112,10083,10117]) [(0,1000),(1,1001)] (args := [ptr bl, ptr b]) Tryz.func127 (by kernel_rfl) (by kernel_rfl) ⟨rfl, ⟨rfl, trivial⟩⟩ ?_
 refine G ?_
 refine Cx [1001] ?_
 refine readArrayHeader_law hv hh hdr fun hr => ?_
 have hlen0 := congrArg List.length hr
 rw [List.length_drop, List.length_append, List.length_cons] at hlen0
 refine G ?_
 refine Cx [1001] ?_
 refine Len_law hv (by omega) ?_
 refine G ?_
 (first | (split; omega) | (split; rotate_left; omega)); refine G ?_
 refine ⟨0, 0, rfl, rfl, by omega, by omega, ?_⟩
 intro sn hsn
 obtain rfl : sn = .slice none 0 0 := by rw [hsn]; rfl
 refine G ?_
 (first | (split; omega) | (split; rotate_left; omega)); refine G ?_
 refine ⟨by decide, ks.length, rfl, rfl, by omega, by rw [show ti24.bytes = 24 by kernel_rfl]; omega, fun bb => ?_⟩
 refine G ?_
 refine Cx [1001] ?_
 refine readType_law hv hr fun hr => ?_
 replace hr : bs.drop (off + hd.length + 1) = data ++ r := hr
 have hlen := congrArg List.length hr
 rw [List.length_drop, List.length_append] at hlen
 rw [hf.flat] at hr
 refine G ?_
 refine ⟨⟨[59], [1001], [], fun m vs cs R J => ∃ (i : Nat) (css : List (List Value)), vs = [.int .i64 (i : Nat)] ∧ cs = [bufC v (off + hd.length + 1 + (ds.take i).flatten.length)] ∧ i ≤ ks.length ∧ m = ks.length - i ∧
   R = [(41, .vec (.slice (some ⟨bb, 0, none⟩) ks.length ks.length) 1 css.flatten)] ∧ AR 1 (fun (x : V) c => elemC J 18 x.num x.text c) ks i css, ks.length, _, _, rfl, rfl,
  ⟨0, List.replicate ks.length (vcells ti24.zero), rfl, by simp, by omega, rfl, rfl, .init rfl⟩, ?_⟩⟩
 rintro m vs cs R J hJ _ _ ⟨i, css, rfl, rfl, hi, rfl, rfl, har⟩
 replace hJ : I.le J := hJ
 have hvJ := hv.mono hJ
 refine G ?_
 split
 ·rename_i hlt _
  have hi' : i < ks.length := by omega
  have hid : i < ds.length := by rw [hf.len]; exact hi'
  have hdi := drop_flat hr hid
  have htf := take_flat hid
  obtain ⟨y, hdd, hy⟩ := hf.short rfl i hi' hid
  rw [hdd] at hdi
  have hyl := y.toNat_lt
  have d1 := (drop_cons hdi).2.2
  have d2 := drop_le hdi
  obtain ⟨t1, t2, t3⟩ := take_of_drop d1
  refine G ?_
  refine Cx [1001] ?_
  refine ReadByte_law hvJ hdi fun hr1 => ?_
  rw [show byteV y = .int .u8 (ks[i].text.length : Nat) by rw [← hy]; rfl]
  refine G ?_
  refine Cx [1001] ?_
  refine Next_law (n := ks[i].text.length) hvJ (by omega) fun sv hsv => ?_
  rw [t1] at hsv
  obtain ⟨base, cap, rfl⟩ := bytes_form hsv
  refine G ?_
  refine .nil ks[i].text.length (ks[i].text.map byteV) rfl hsv (by rw [show ti5.bytes = 1 by kernel_rfl]; omega) fun nb nc => ?_
  refine G ?_
  refine ⟨_, _, _, _, i, rfl, rfl, hi', ?_⟩
  refine G ?_
  refine .vec 41 _ _ 1 css.flatten rfl (by have := har.flen; show 0 + i * 1 + 1 ≤ css.flatten.length; omega) ?_
  conv => whnf
  intro J2 hJ2 hfz
  have hbz := froz_bytes (n := ks[i].text.length) hfz ⟨_, _, rfl⟩ rfl
  refine G ?_
  have hp : elemC J2 18 ks[i].num ks[i].text [.slice nb ks[i].text.length nc] := by
   refine elemC_of ?_ ?_ ?_ ?_ ?_ ?_ ?_ ?_ ?_ ?_ ?_ ?_ ?_ ?_ ?_ <;> intro hk <;> first | omega | exact ⟨_, rfl, hbz⟩
  have hsp := har.splice hi' (c := [.slice nb ks[i].text.length nc]) rfl
  refine ⟨ks.length - (i + 1), _, _, by omega, rfl, rfl, rfl, rfl, .inl ⟨i + 1, css.set i [.slice nb ks[i].text.length nc], rfl, ?_, hi', rfl, ?_, (har.mono fun x c h => h.mono hJ2).step hi' rfl hp⟩⟩
  ·rw [htf, hdd]; simp only [List.length_cons]
   rw [show off + hd.length + 1 + (ds.take i).flatten.length + 1 + ks[i].text.length = off + hd.length + 1 + ((ds.take i).flatten.length + (ks[i].text.length + 1)) by omega]
  ·rw [← hsp]
   show [(41, Res.vec _ _ (splice css.flatten (0 + i * 1) _))] = _
   rw [Nat.zero_add]; try rfl
 ·rename_i hge _
  obtain rfl : i = ks.length := by omega
  have hfl : (ds.take ks.length).flatten.length = data.length := by rw [List.take_of_length_le (by rw [hf.len]; omega), hf.flat]
  rw [hfl]
  refine G ?_
  refine ⟨⟨[], [], [], [41], ?_⟩⟩
  intro J1 hJ1 ⟨n, hn, hsl⟩
  obtain rfl : ks.length = n := hn
  conv => whnf
  rw [show off + (hd.length + 1 + data.length) = off + hd.length + 1 + data.length by omega] at h
  refine h J1 _ (hJ.trans hJ1) (har.row (by omega) hsl fun x c h => h.mono hJ1) ?_
  rw [← hf.flat] at hr
  exact (take_of_drop hr).2.2
theorem arr_18_b0 {ks : List V} {data hd r : List UInt8} {bl : Nat} (hv : BufAt I bs v) (hn : 0 < ks.length) (hne : ∀ (i : Nat) (x : V), ks[i]? = some x → x.text ≠ []) (ha : ArrE 18 ks 0xb0 data) (hh : HeadE 0xe0 0xf0 ks.length hd (0xb0 :: data)) (hdr : bs.drop off = hd ++ ((0xb0 :: data) ++ r))
  (h : ∀ I' sv, I.le I' → Row 1 (fun (x : V) c => elemC I' 18 x.num x.text c) I' ks sv → bs.drop (off + (hd.length + 1 + data.length)) = r → Q .nilIface [[sv], bufC v (off + (hd.length + 1 + data.length))] [] I') :
  WP Tryz.prog 127 #[ptr bl, ptr b] [(bl, [.slice none 0 0]), (b, bufC v off)] [] I Q := by
 obtain ⟨hn1, hn2⟩ := head_pos hh
 have hsm := hv.small
 obtain ⟨ds, hf⟩ := txt_of (c := 0xb0) (by decide) text18 (by decide) ha
 have h2n := hf.two hne
 refine law (kp := [0,1,4,5,6,7,8,9,10,11,12,13,14,15,16,17,24,30,39,51,53,55,58,59,60,68,78,86,89,90,91,99,112,10083,10117]) [(0,1000),(1,1001)] (args := [ptr bl, ptr b]) Tryz.func127 (by kernel_rfl) (by kernel_rfl) ⟨rfl, ⟨rfl, trivial⟩⟩ ?_
 refine G ?_
 refine Cx [1001] ?_
 refine readArrayHeader_law hv hh hdr fun hr => ?_
 have hlen0 := congrArg List.length hr
 rw [List.length_drop, List.length_append, List.length_cons] at hlen0
 refine G ?_
 refine Cx [1001] ?_
 refine Len_law hv (by omega) ?_
 refine G ?_
 (first | (split; omega) | (split; rotate_left; omega)); refine G ?_
 refine ⟨0, 0, rfl, rfl, by omega, by omega, ?_⟩
 intro sn hsn
 obtain rfl : sn = .slice none 0 0 := by rw [hsn]; rfl
 refine G ?_
 (first | (split; omega) | (split; rotate_left; omega)); refine G ?_
 refine ⟨by decide, ks.length, rfl, rfl, by omega, by rw [show ti24.bytes = 24 by kernel_rfl]; omega, fun bb => ?_⟩
 refine G ?_
 refine Cx [1001] ?_
 refine readType_law hv hr fun hr => ?_
 replace hr : bs.drop (off + hd.length + 1) = data ++ r := hr
 have hlen := congrArg List.length hr
 rw [List.length_drop, List.length_append] at hlen
 rw [hf.flat] at hr
 refine G ?_
 refine ⟨⟨[90], [1001], [], fun m vs cs R J => ∃ (i : Nat) (css : List (List Value)), vs = [.int .i64 (i : Nat)] ∧ cs = [bufC v (off + hd.length + 1 + (ds.take i).flatten.length)] ∧ i ≤ ks.length ∧ m = ks.length - i ∧
   R = [(41, .vec (.slice (some ⟨bb, 0, none⟩) ks.length ks.length) 1 css.flatten)] ∧ AR 1 (fun (x : V) c => elemC J 18 x.num x.text c) ks i css, ks.length, _, _, rfl, rfl,
  ⟨0, List.replicate ks.length (vcells ti24.zero), rfl, by simp, by omega, rfl, rfl, .init rfl⟩, ?_⟩⟩
 rintro m vs cs R J hJ _ _ ⟨i, css, rfl, rfl, hi, rfl, rfl, har⟩
 replace hJ : I.le J := hJ
 have hvJ := hv.mono hJ
 refine G ?_
 split
 ·rename_i hlt _
  have hi' : i < ks.length := by omega
  have hid : i < ds.length := by rw [hf.len]; exact hi'
  have hdi := drop_flat hr hid
  have htf := take_flat hid
  obtain ⟨y0, y1, y2, y3, hdd, hy⟩ := hf.long rfl i hi' hid
  rw [hdd] at hdi
  have d1 : bs.drop (off + hd.length + 1 + (ds.take i).flatten.length + 4) = ks[i].text ++ ((ds.drop (i + 1)).flatten ++ r) := by
   have := congrArg (List.drop 4) hdi
   rw [List.drop_drop] at this
   exact this
  have d2 : off + hd.length + 1 + (ds.take i).flatten.length + 4 ≤ bs.length := by
   have := congrArg List.length hdi
   simp only [List.length_drop, List.length_append, List.length_cons] at this
   omega
  obtain ⟨t1, t2, t3⟩ := take_of_drop d1
  refine G ?_
  refine Cx [1001] ?_
  refine Next_law (n := 4) hvJ d2 fun sv hsv => ?_
  rw [hdi] at hsv
  refine G ?_
  refine Cx [] ?_
  refine Uint32_law hsv (y0 := y0) (y1 := y1) (y2 := y2) (y3 := y3) rfl rfl rfl rfl ?_
  rw [hy]
  refine G ?_
  refine Cx [1001] ?_
  refine Next_law (n := ks[i].text.length) hvJ (by omega) fun sv2 hsv2 => ?_
  rw [t1] at hsv2
  obtain ⟨base, cap, rfl⟩ := bytes_form hsv2
  refine G ?_
  refine .nil ks[i].text.length (ks[i].text.map byteV) rfl hsv2 (by rw [show ti5.bytes = 1 by kernel_rfl]; omega) fun nb nc => ?_
  refine G ?_
  refine ⟨_, _, _, _, i, rfl, rfl, hi', ?_⟩
  refine G ?_
  refine .vec 41 _ _ 1 css.flatten rfl (by have := har.flen; show 0 + i * 1 + 1 ≤ css.flatten.length; omega) ?_
  conv => whnf
  intro J2 hJ2 hfz
  have hbz := froz_bytes (n := ks[i].text.length) hfz ⟨_, _, rfl⟩ rfl
  refine G ?_
  have hp : elemC J2 18 ks[i].num ks[i].text [.slice nb ks[i].text.length nc] := by
   refine elemC_of ?_ ?_ ?_ ?_ ?_ ?_ ?_ ?_ ?_ ?_ ?_ ?_ ?_ ?_ ?_ <;> intro hk <;> first | omega | exact ⟨_, rfl, hbz⟩
  have hsp := har.splice hi' (c := [.slice nb ks[i].text.length nc]) rfl
  refine ⟨ks.length - (i + 1), _, _, by omega, rfl, rfl, rfl, rfl, .inl ⟨i + 1, css.set i [.slice nb ks[i].text.length nc], rfl, ?_, hi', rfl, ?_, (har.mono fun x c h => h.mono hJ2).step hi' rfl hp⟩⟩
  ·rw [htf, hdd]; simp only [List.length_cons]
   rw [show off + hd.length + 1 + (ds.take i).flatten.length + 4 + ks[i].text.length = off + hd.length + 1 + ((ds.take i).flatten.length + (ks[i].text.length + 1 + 1 + 1 + 1)) by omega]
  ·rw [← hsp]
   show [(41, Res.vec _ _ (splice css.flatten (0 + i * 1) _))] = _
   rw [Nat.zero_add]; try rfl
 ·rename_i hge _
  obtain rfl : i = ks.length := by omega
  have hfl : (ds.take ks.length).flatten.length = data.length := by rw [List.take_of_length_le (by rw [hf.len]; omega), hf.flat]
  rw [hfl]
  refine G ?_
  refine ⟨⟨[], [], [], [41], ?_⟩⟩
  intro J1 hJ1 ⟨n, hn, hsl⟩
  obtain rfl : ks.length = n := hn
  conv => whnf
  rw [show off + (hd.length + 1 + data.length) = off + hd.length + 1 + data.length by omega] at h
  refine h J1 _ (hJ.trans hJ1) (har.row (by omega) hsl fun x c h => h.mono hJ1) ?_
  rw [← hf.flat] at hr
  exact (take_of_drop hr).2.2
end rd
theorem head_form {n : Nat} {hd body : List UInt8} (h : HeadE 0xe0 0xf0 n hd body) : (∃ y z, hd = [0xe0, y, z]) ∨ ∃ y0 y1 y2 y3 z0 z1 z2 z3, hd = [0xf0, y0, y1, y2, y3, z0, z1, z2, z3] := by
 cases h
 ·exact .inl ⟨_, _, rfl⟩
 ·exact .inr ⟨_, _, _, _, _, _, _, _, rfl⟩
section rd
variable {I : Imm} {b : Nat} {bs : List UInt8} {v : Value} {off : Nat} {Q : Qt}
theorem goArr {J : Imm} {ks : List V} {o k : Int} {sv : Value} (h : ∀ (i : Nat) (x : V), ks[i]? = some x → ∃ n t o, x = .mk k n t [] o [] ∧ Scal k n t) (hk : arrK k) (hn : 0 < ks.length) (hs : Row (arrSz k) (fun (x : V) c => elemC J k x.num x.text c) J ks sv) : GoAny J (.mk 23 0 [] ks o []) (.iface (arrT k) sv) := .arr hk hn hs h
theorem raa_all {ks : List V} {o k : Int} {c : UInt8} {data hd r : List UInt8} (hkc : k = 1 ∧ c = 0x56 ∨ k = 1 ∧ c = 0x41 ∨ k = 1 ∧ c = 0x42 ∨ k = 2 ∧ c = 0x50 ∨ k = 3 ∧ c = 0x60 ∨ k = 4 ∧ c = 0x43 ∨ k = 4 ∧ c = 0x52 ∨ k = 4 ∧ c = 0x70 ∨ k = 5 ∧ c = 0x44 ∨ k = 5 ∧ c = 0x53 ∨ k = 5 ∧ c = 0x80 ∨ k = 6 ∧ c = 0x51 ∨ k = 7 ∧ c = 0x61 ∨ k = 8 ∧ c = 0x54 ∨ k = 8 ∧ c = 0x71 ∨ k = 9 ∧ c = 0x55 ∨ k = 9 ∧ c = 0x81 ∨ k = 10 ∧ c = 0x72 ∨ k = 11 ∧ c = 0x82 ∨ k = 16 ∧ c = 0x83 ∨ k = 17 ∧ c = 0x98 ∨ k = 18 ∧ c = 0xa0 ∨ k = 18 ∧ c = 0xb0 ∨ k = 19 ∧ c = 0xa1 ∨ k = 19 ∧ c = 0xb1 ∨ k = 20 ∧ c = 0xa3 ∨ k = 20 ∧ c = 0xb3) (hv : BufAt I bs v) (hn : 0 < ks.length)
  (hs : ∀ (i : Nat) (x : V), ks[i]? = some x → ∃ n t o, x = .mk k n t [] o [] ∧ Scal k n t) (hne : 18 ≤ k → ∀ (i : Nat) (x : V), ks[i]? = some x → x.text ≠ []) (ha : ArrE k ks c data) (hh : HeadE 0xe0 0xf0 ks.length hd (c :: data)) (hdr : bs.drop off = hd ++ ((c :: data) ++ r))
  (h : ∀ I' g, I.le I' → GoAny I' (.mk 23 0 [] ks o []) g → bs.drop (off + (hd.length + 1 + data.length)) = r → Q (.tuple #[g, .nilIface]) [bufC v (off + (hd.length + 1 + data.length))] [] I') :
  WP Tryz.prog 208 #[ptr b] [(b, bufC v off)] [] I Q := by
 rcases hkc with ⟨rfl, rfl⟩ | ⟨rfl, rfl⟩ | ⟨rfl, rfl⟩ | ⟨rfl, rfl⟩ | ⟨rfl, rfl⟩ | ⟨rfl, rfl⟩ | ⟨rfl, rfl⟩ | ⟨rfl, rfl⟩ | ⟨rfl, rfl⟩ | ⟨rfl, rfl⟩ | ⟨rfl, rfl⟩ | ⟨rfl, rfl⟩ | ⟨rfl, rfl⟩ | ⟨rfl, rfl⟩ | ⟨rfl, rfl⟩ | ⟨rfl, rfl⟩ | ⟨rfl, rfl⟩ | ⟨rfl, rfl⟩ | ⟨rfl, rfl⟩ | ⟨rfl, rfl⟩ | ⟨rfl, rfl⟩ | ⟨rfl, rfl⟩ | ⟨rfl, rfl⟩ | ⟨rfl, rfl⟩ | ⟨rfl, rfl⟩ | ⟨rfl, rfl⟩ | ⟨rfl, rfl⟩
 all_goals
  rcases head_form hh with ⟨y, z, rfl⟩ | ⟨y0, y1, y2, y3, z0, z1, z2, z3, rfl⟩
  ·have hd0 : bs.drop off = 0xe0 :: y :: z :: _ :: (data ++ r) := hdr
   have hlen : (bs.drop off).length = 4 + (data ++ r).length := by rw [hd0]; simp only [List.length_cons]; omega
   have hle := drop_le hd0
   have hy0 : (bs.drop off)[0]? = some 0xe0 := by rw [hd0]; rfl
   have hy : (bs.drop off)[3]? = some _ := (congrArg (·[3]?) hd0).trans rfl
   refine lw K208 [(0,1000)] _ Tryz.func208 ?_
   refine G ?_
   refine Cx [1000] ?_
   refine Bytes_law hv (Nat.le_of_lt hle) fun sv hsv => ?_
   obtain ⟨base, cap, rfl⟩ := bytes_form hsv
   obtain ⟨vb, vo, rfl⟩ := bytes_some hsv (by omega)
   refine G ?_
   repeat ((first | (split; omega) | (split; rotate_left; omega)); refine G ?_)
   refine ⟨_, _, _, _, 0, rfl, rfl, by omega, ?_⟩
   refine G ?_
   refine ⟨_, .imm (bytes_cell hsv hy0), ?_⟩
   refine G ?_
   repeat ((first | (split; omega) | (split; rotate_left; omega)); refine G ?_)
   refine ⟨_, _, _, _, 3, rfl, rfl, by omega, ?_⟩
   refine G ?_
   refine ⟨_, .imm (bytes_cell hsv hy), ?_⟩
   refine G ?_
   intro b9
   refine G ?_
   first
   | (refine Cx [26,1000] ?_); refine arr_1_56 hv hn ha hh hdr fun I1 sv hi1 hrow hr => ?_
   | (refine Cx [26,1000] ?_); refine arr_1_41 hv hn ha hh hdr fun I1 sv hi1 hrow hr => ?_
   | (refine Cx [26,1000] ?_); refine arr_1_42 hv hn ha hh hdr fun I1 sv hi1 hrow hr => ?_
   | (refine Cx [8,1000] ?_); refine arr_2_50 hv hn ha hh hdr fun I1 sv hi1 hrow hr => ?_
   | (refine Cx [10,1000] ?_); refine arr_3_60 hv hn ha hh hdr fun I1 sv hi1 hrow hr => ?_
   | (refine Cx [14,1000] ?_); refine arr_4_43 hv hn ha hh hdr fun I1 sv hi1 hrow hr => ?_
   | (refine Cx [14,1000] ?_); refine arr_4_52 hv hn ha hh hdr fun I1 sv hi1 hrow hr => ?_
   | (refine Cx [14,1000] ?_); refine arr_4_70 hv hn ha hh hdr fun I1 sv hi1 hrow hr => ?_
   | (refine Cx [18,1000] ?_); refine arr_5_44 hv hn ha hh hdr fun I1 sv hi1 hrow hr => ?_
   | (refine Cx [18,1000] ?_); refine arr_5_53 hv hn ha hh hdr fun I1 sv hi1 hrow hr => ?_
   | (refine Cx [18,1000] ?_); refine arr_5_80 hv hn ha hh hdr fun I1 sv hi1 hrow hr => ?_
   | (refine Cx [6,1000] ?_); refine arr_6_51 hv hn ha hh hdr fun I1 sv hi1 hrow hr => ?_
   | (refine Cx [12,1000] ?_); refine arr_7_61 hv hn ha hh hdr fun I1 sv hi1 hrow hr => ?_
   | (refine Cx [16,1000] ?_); refine arr_8_54 hv hn ha hh hdr fun I1 sv hi1 hrow hr => ?_
   | (refine Cx [16,1000] ?_); refine arr_8_71 hv hn ha hh hdr fun I1 sv hi1 hrow hr => ?_
   | (refine Cx [20,1000] ?_); refine arr_9_55 hv hn ha hh hdr fun I1 sv hi1 hrow hr => ?_
   | (refine Cx [20,1000] ?_); refine arr_9_81 hv hn ha hh hdr fun I1 sv hi1 hrow hr => ?_
   | (refine Cx [22,1000] ?_); refine arr_10_72 hv hn ha hh hdr fun I1 sv hi1 hrow hr => ?_
   | (refine Cx [24,1000] ?_); refine arr_11_82 hv hn ha hh hdr fun I1 sv hi1 hrow hr => ?_
   | (refine Cx [34,1000] ?_); refine arr_16_83 hv hn ha hh hdr fun I1 sv hi1 hrow hr => ?_
   | (refine Cx [36,1000] ?_); refine arr_17_98 hv hn ha hh hdr fun I1 sv hi1 hrow hr => ?_
   | (refine Cx [32,1000] ?_); refine arr_18_a0 hv hn (hne (by decide)) ha hh hdr fun I1 sv hi1 hrow hr => ?_
   | (refine Cx [32,1000] ?_); refine arr_18_b0 hv hn (hne (by decide)) ha hh hdr fun I1 sv hi1 hrow hr => ?_
   | (refine Cx [28,1000] ?_); refine arr_19_a1 hv hn (hne (by decide)) ha hh hdr fun I1 sv hi1 hrow hr => ?_
   | (refine Cx [28,1000] ?_); refine arr_19_b1 hv hn (hne (by decide)) ha hh hdr fun I1 sv hi1 hrow hr => ?_
   | (refine Cx [30,1000] ?_); refine arr_20_a3 hv hn (hne (by decide)) ha hh hdr fun I1 sv hi1 hrow hr => ?_
   | (refine Cx [30,1000] ?_); refine arr_20_b3 hv hn (hne (by decide)) ha hh hdr fun I1 sv hi1 hrow hr => ?_
   have hrow' := hrow
   obtain ⟨xb, xc, rfl⟩ := hrow.form
   refine G ?_
   refine L0 ?_
   exact h I1 _ hi1 (goArr hs (by unfold arrK; omega) hn hrow') hr
  ·have hd0 : bs.drop off = 0xf0 :: y0 :: y1 :: y2 :: y3 :: z0 :: z1 :: z2 :: z3 :: _ :: (data ++ r) := hdr
   have hlen : (bs.drop off).length = 10 + (data ++ r).length := by rw [hd0]; simp only [List.length_cons]; omega
   have hle := drop_le hd0
   have hy0 : (bs.drop off)[0]? = some 0xf0 := by rw [hd0]; rfl
   have hy : (bs.drop off)[9]? = some _ := (congrArg (·[9]?) hd0).trans rfl
   refine lw K208 [(0,1000)] _ Tryz.func208 ?_
   refine G ?_
   refine Cx [1000] ?_
   refine Bytes_law hv (Nat.le_of_lt hle) fun sv hsv => ?_
   obtain ⟨base, cap, rfl⟩ := bytes_form hsv
   obtain ⟨vb, vo, rfl⟩ := bytes_some hsv (by omega)
   refine G ?_
   repeat ((first | (split; omega) | (split; rotate_left; omega)); refine G ?_)
   refine ⟨_, _, _, _, 0, rfl, rfl, by omega, ?_⟩
   refine G ?_
   refine ⟨_, .imm (bytes_cell hsv hy0), ?_⟩
   refine G ?_
   repeat ((first | (split; omega) | (split; rotate_left; omega)); refine G ?_)
   refine ⟨_, _, _, _, 9, rfl, rfl, by omega, ?_⟩
   refine G ?_
   refine ⟨_, .imm (bytes_cell hsv hy), ?_⟩
   refine G ?_
   intro b9
   refine G ?_
   first
   | (refine Cx [26,1000] ?_); refine arr_1_56 hv hn ha hh hdr fun I1 sv hi1 hrow hr => ?_
   | (refine Cx [26,1000] ?_); refine arr_1_41 hv hn ha hh hdr fun I1 sv hi1 hrow hr => ?_
   | (refine Cx [26,1000] ?_); refine arr_1_42 hv hn ha hh hdr fun I1 sv hi1 hrow hr => ?_
   | (refine Cx [8,1000] ?_); refine arr_2_50 hv hn ha hh hdr fun I1 sv hi1 hrow hr => ?_
   | (refine Cx [10,1000] ?_); refine arr_3_60 hv hn ha hh hdr fun I1 sv hi1 hrow hr => ?_
   | (refine Cx [14,1000] ?_); refine arr_4_43 hv hn ha hh hdr fun I1 sv hi1 hrow hr => ?_
   | (refine Cx [14,1000] ?_); refine arr_4_52 hv hn ha hh hdr fun I1 sv hi1 hrow hr => ?_
   | (refine Cx [14,1000] ?_); refine arr_4_70 hv hn ha hh hdr fun I1 sv hi1 hrow hr => ?_
   | (refine Cx [18,1000] ?_); refine arr_5_44 hv hn ha hh hdr fun I1 sv hi1 hrow hr => ?_
   | (refine Cx [18,1000] ?_); refine arr_5_53 hv hn ha hh hdr fun I1 sv hi1 hrow hr => ?_
   | (refine Cx [18,1000] ?_); refine arr_5_80 hv hn ha hh hdr fun I1 sv hi1 hrow hr => ?_
   | (refine Cx [6,1000] ?_); refine arr_6_51 hv hn ha hh hdr fun I1 sv hi1 hrow hr => ?_
   | (refine Cx [12,1000] ?_); refine arr_7_61 hv hn ha hh hdr fun I1 sv hi1 hrow hr => ?_
   | (refine Cx [16,1000] ?_); refine arr_8_54 hv hn ha hh hdr fun I1 sv hi1 hrow hr => ?_
   | (refine Cx [16,1000] ?_); refine arr_8_71 hv hn ha hh hdr fun I1 sv hi1 hrow hr => ?_
   | (refine Cx [20,1000] ?_); refine arr_9_55 hv hn ha hh hdr fun I1 sv hi1 hrow hr => ?_
   | (refine Cx [20,1000] ?_); refine arr_9_81 hv hn ha hh hdr fun I1 sv hi1 hrow hr => ?_
   | (refine Cx [22,1000] ?_); refine arr_10_72 hv hn ha hh hdr fun I1 sv hi1 hrow hr => ?_
   | (refine Cx [24,1000] ?_); refine arr_11_82 hv hn ha hh hdr fun I1 sv hi1 hrow hr => ?_
   | (refine Cx [34,1000] ?_); refine arr_16_83 hv hn ha hh hdr fun I1 sv hi1 hrow hr => ?_
   | (refine Cx [36,1000] ?_); refine arr_17_98 hv hn ha hh hdr fun I1 sv hi1 hrow hr => ?_
   | (refine Cx [32,1000] ?_); refine arr_18_a0 hv hn (hne (by decide)) ha hh hdr fun I1 sv hi1 hrow hr => ?_
   | (refine Cx [32,1000] ?_); refine arr_18_b0 hv hn (hne (by decide)) ha hh hdr fun I1 sv hi1 hrow hr => ?_
   | (refine Cx [28,1000] ?_); refine arr_19_a1 hv hn (hne (by decide)) ha hh hdr fun I1 sv hi1 hrow hr => ?_
   | (refine Cx [28,1000] ?_); refine arr_19_b1 hv hn (hne (by decide)) ha hh hdr fun I1 sv hi1 hrow hr => ?_
   | (refine Cx [30,1000] ?_); refine arr_20_a3 hv hn (hne (by decide)) ha hh hdr fun I1 sv hi1 hrow hr => ?_
   | (refine Cx [30,1000] ?_); refine arr_20_b3 hv hn (hne (by decide)) ha hh hdr fun I1 sv hi1 hrow hr => ?_
   have hrow' := hrow
   obtain ⟨xb, xc, rfl⟩ := hrow.form
   refine G ?_
   refine L0 ?_
   exact h I1 _ hi1 (goArr hs (by unfold arrK; omega) hn hrow') hr
end rd
def bk (x : V) : V := .mk x.kind x.num x.text [] 0 []
theorem wrapU64_sg {n : Nat} (h : n < 18446744073709551616) : IntKind.u64.wrap (sg n) = ((n : Nat) : Int) := by
 rw [wrap_u64i]; unfold sg; split <;> omega
theorem oneV_len {k : Int} {n : Nat} : (numC k n).length = 6 := rfl
theorem bk_num {I : Imm} {k o : Int} {n : Nat} {t : List UInt8} (hs : Scal k n t) (hk : k ≤ 16) : VRep I (bk (.mk k n t [] o [])) (numC k n) := by
 have h := scal_kind hs
 obtain rfl := h.2.1 hk
 show VRep I (vNum k n) (numC k n)
 exact vNum_rep (by omega) (scal_num hs)
theorem bk_text {I : Imm} {k o : Int} {n : Nat} {t : List UInt8} (hs : Scal k n t) (hk : 17 ≤ k) : VRep I (bk (.mk k n t [] o [])) (textC k t) := by
 have h := scal_kind hs
 obtain rfl := h.2.2 hk
 show VRep I (.mk k 0 t [] 0 []) (textC k t)
 exact vText_rep (by omega) (by have := scal_text hs; omega)
section fr
variable {I : Imm} {Q : Qt}
theorem from_1 {n : Nat} (hn : n < 2) (h : Q (.int .u64 (n : Nat)) [] [] I) : WP Tryz.prog 138 #[.bool (n == 1)] [] [] I Q := by
 refine lw K138 [] _ Tryz.func138 ?_
 rcases (show n = 0 ∨ n = 1 by omega) with rfl | rfl
 ·refine G ?_
  refine L0 ?_
  exact h
 ·refine G ?_
  refine L0 ?_
  exact h
theorem from_2 {n : Nat} (hn : n < 256) (h : Q (.int .u64 (n : Nat)) [] [] I) : WP Tryz.prog 146 #[.int .u8 (n : Nat)] [] [] I Q := by
 refine lw K146 [] _ Tryz.func146 ?_
 refine G ?_
 refine L0 ?_
 exact h
theorem from_3 {n : Nat} (hn : n < 65536) (h : Q (.int .u64 (n : Nat)) [] [] I) : WP Tryz.prog 148 #[.int .u16 (n : Nat)] [] [] I Q := by
 refine lw K148 [] _ Tryz.func148 ?_
 refine G ?_
 refine L0 ?_
 exact h
theorem from_4 {n : Nat} (hn : n < 4294967296) (h : Q (.int .u64 (n : Nat)) [] [] I) : WP Tryz.prog 150 #[.int .u32 (n : Nat)] [] [] I Q := by
 refine lw K150 [] _ Tryz.func150 ?_
 refine G ?_
 refine L0 ?_
 exact h
theorem from_5 {n : Nat} (h : Q (.int .u64 (n : Nat)) [] [] I) : WP Tryz.prog 152 #[.int .u64 (n : Nat)] [] [] I Q := by
 refine lw K152 [] _ Tryz.func152 ?_
 refine G ?_
 refine L0 ?_
 exact h
theorem from_6 {n : Nat} (hn : n < 18446744073709551616) (h : Q (.int .u64 (n : Nat)) [] [] I) : WP Tryz.prog 154 #[.int .i8 (sg n)] [] [] I Q := by
 refine lw K154 [] _ Tryz.func154 ?_
 conv => whnf
 refine ⟨_, wrapU64_sg hn, ?_⟩
 refine G ?_
 refine L0 ?_
 exact h
theorem from_7 {n : Nat} (hn : n < 18446744073709551616) (h : Q (.int .u64 (n : Nat)) [] [] I) : WP Tryz.prog 156 #[.int .i16 (sg n)] [] [] I Q := by
 refine lw K156 [] _ Tryz.func156 ?_
 conv => whnf
 refine ⟨_, wrapU64_sg hn, ?_⟩
 refine G ?_
 refine L0 ?_
 exact h
theorem from_8 {n : Nat} (hn : n < 18446744073709551616) (h : Q (.int .u64 (n : Nat)) [] [] I) : WP Tryz.prog 158 #[.int .i32 (sg n)] [] [] I Q := by
 refine lw K158 [] _ Tryz.func158 ?_
 conv => whnf
 refine ⟨_, wrapU64_sg hn, ?_⟩
 refine G ?_
 refine L0 ?_
 exact h
theorem from_9 {n : Nat} (hn : n < 18446744073709551616) (h : Q (.int .u64 (n : Nat)) [] [] I) : WP Tryz.prog 160 #[.int .i64 (sg n)] [] [] I Q := by
 refine lw K160 [] _ Tryz.func160 ?_
 conv => whnf
 refine ⟨_, wrapU64_sg hn, ?_⟩
 refine G ?_
 refine L0 ?_
 exact h
theorem from_10 {n : Nat} (hn : n < 4294967296) (h : Q (.int .u64 (n : Nat)) [] [] I) : WP Tryz.prog 162 #[.float .f32 n] [] [] I Q := by
 refine lw K162 [] _ Tryz.func162 ?_
 refine G ?_
 refine .inl ⟨_, f32_bits _, ?_⟩
 refine G ?_
 refine L0 ?_
 exact h
theorem from_16 {n : Nat} (hn : n < 18446744073709551616) (h : Q (.int .u64 (n : Nat)) [] [] I) : WP Tryz.prog 165 #[timeV (sg n)] [] [] I Q := by
 have hr : -9223372036854775808 ≤ sg n ∧ sg n < 9223372036854775808 := by unfold sg; split <;> omega
 refine lw K165 [] _ Tryz.func165 ?_
 refine G ?_
 intro b1
 refine G ?_
 refine Cx [] ?_
 refine UnixMilli_law hr ?_
 conv => whnf
 refine ⟨_, wrapU64_sg hn, ?_⟩
 refine G ?_
 refine L0 ?_
 exact h
theorem from_17 {t : List UInt8} (ht : t.length = 16) (h : Q (strV t) [] [] I) : WP Tryz.prog 167 #[uuidV t] [] [] I Q := by
 obtain ⟨x0, x1, x2, x3, x4, x5, x6, x7, x8, x9, x10, x11, x12, x13, x14, x15, rfl⟩ := list16 ht
 refine lw K167 [] [uuidV [x0, x1, x2, x3, x4, x5, x6, x7, x8, x9, x10, x11, x12, x13, x14, x15]] Tryz.func167 ?_
 refine G ?_
 intro b1
 refine G ?_
 refine ⟨[x0, x1, x2, x3, x4, x5, x6, x7, x8, x9, x10, x11, x12, x13, x14, x15], .own (Nat.le_refl _) (.loc 1 _ rfl fun j x h => by rw [Nat.zero_add]; exact h), ?_⟩
 refine G ?_
 refine L0 ?_
 exact h
theorem from_18 {t : List UInt8} {sv : Value} (hb : BytesAt I t sv) (h : Q (strV t) [] [] I) : WP Tryz.prog 169 #[sv] [] [] I Q := by
 obtain ⟨base, cap, rfl⟩ := bytes_form hb
 refine lw K169 [] [.slice base t.length cap] Tryz.func169 ?_
 refine G ?_
 refine ⟨_, .imm hb, ?_⟩
 refine G ?_
 refine L0 ?_
 exact h
theorem from_19 {t : List UInt8} (h : Q (strV t) [] [] I) : WP Tryz.prog 171 #[strV t] [] [] I Q := by
 refine lw K171 [] _ Tryz.func171 ?_
 refine G ?_
 refine L0 ?_
 exact h
theorem from_20 {t : List UInt8} (h : Q (strV t) [] [] I) : WP Tryz.prog 173 #[strV t] [] [] I Q := by
 refine lw K173 [] _ Tryz.func173 ?_
 refine G ?_
 refine L0 ?_
 exact h
end fr
end Go.Proofs.YtcfglgelckjpmaaGreatDoor
