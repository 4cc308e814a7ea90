/- Own machinery, and laws of the functions that the statement reaches (part 35). -/
import Derived.Test.YtcfglgelckjpmaaGreatDoorB34
set_option linter.all false
namespace Go.Proofs.YtcfglgelckjpmaaGreatDoor
set_option maxRecDepth 100000
set_option maxHeartbeats 4000000
structure FldsX (br bx b2 : Nat) (c2 : List Value) (bs : List UInt8) (v : Value) (l : List (Value × Value)) (kids : List V) (S : Nat → List Value → Imm → Prop) : Prop where
 mono : ∀ {i cs I J}, I.le J → S i cs I → S i cs J
 form : ∀ {p}, p ∈ l → (∃ ty x, p.1 = .iface ty x) ∧ (p.2 = .nilFunc ∨ ∃ g a b, p.2 = .func g a b)
 field : ∀ (i : Nat) (p : Value × Value) (k : V) (J : Imm) (cs : List Value) (off : Nat) (e r : List UInt8) (Q : Qt), l[i]? = some p → kids[i]? = some k → k.kind ≠ 0 → S i cs J → BufAt J bs v → Enc k e → bs.drop off = e ++ r →
  (∀ J' cs', J.le J' → S (i + 1) cs' J' → Q .nilIface [bufC v (off + e.length), cs'] [] J') → WP Tryz.prog 84 #[ptr br, p.1] [(br, bufC v off), (bx, cs)] [] J Q
 null : ∀ (i : Nat) (p : Value × Value) (J : Imm) (cs : List Value), l[i]? = some p → (∀ k, kids[i]? = some k → k.kind = 0) → S i cs J →
  (p.2 = .nilFunc ∧ S (i + 1) cs J) ∨ ∃ (g : Nat) (cap : Array Value), p.2 = .func (.func g) #[] cap ∧ ∀ (Q : Qt), (∀ cs', S (i + 1) cs' J → Q .nilIface [cs', c2] [] J) → WP Tryz.prog g cap [(bx, cs), (b2, c2)] [] J Q
section rd
variable {I : Imm} {br bx : Nat} {bs : List UInt8} {v : Value} {off : Nat} {Q : Qt}
theorem UnmarshalCompositeX_law {b2 : Nat} {c2 : List Value} {l : List (Value × Value)} {kids : List V} {S : Nat → List Value → Imm → Prop} {c : Nat} {o : Int} {e r : List UInt8} {cs : List Value} {fv : Value} (hf : FldsX br bx b2 c2 bs v l kids S) (hl : Row 2 FldRep I l fv) (hv : BufAt I bs v)
  (hc8 : c < 256) (hn : kids.length ≤ l.length) (he : Enc (.mk 21 0 [] kids o [vNum 5 c]) e) (hdr : bs.drop off = e ++ r) (hS : S 0 cs I)
  (h : ∀ I' cs', I.le I' → S l.length cs' I' → bs.drop (off + e.length) = r → Q .nilIface [bufC v (off + e.length), cs', c2] [] I') :
  WP Tryz.prog 58 #[ptr br, .int .u8 (c : Nat), fv] [(br, bufC v off), (bx, cs), (b2, c2)] [] I Q := by
 have hsm := hv.small
 cases he with
 | comp hc hle hen hh =>
 rename_i ed es hd
 have hdr' : bs.drop off = 0 :: (ed ++ (hd ++ (es.flatten ++ r))) := by rw [hdr]; simp
 have hlen0 : (0 :: (ed ++ (hd ++ es.flatten))).length = 1 + ed.length + hd.length + es.flatten.length := by simp; omega
 rw [hlen0] at h
 obtain ⟨fb, fc, rfl⟩ := hl.form
 have hll := hl.1
 refine lw K58 [(0,1000)] [ptr br, .int .u8 (c : Nat), .slice fb l.length fc] Tryz.func58 ?_
 refine G ?_
 refine Cx [1000] ?_
 refine compHeader_law hv hc hc8 hh hdr' fun hr => ?_
 have hbl := congrArg List.length hr
 rw [List.length_drop, List.length_append] at hbl
 refine G ?_
 repeat ((first | (split; omega) | (split; rotate_left; omega)); refine G ?_)
 refine ⟨0, kids.length, rfl, rfl, by omega, by have := (slAt_le hl.2.choose_spec.1).2.1; omega, ?_⟩
 intro s1 hs1
 have hl1 : Row 2 FldRep I (l.take kids.length) s1 := by
  have := Row.cut hl (a := 0) (u := kids.length) (by omega) hn
  rw [hs1]
  show Row 2 FldRep I (l.take kids.length) (sliceV fb 0 kids.length fc 2)
  simpa using this
 obtain ⟨b1, c1, rfl⟩ := hl1.form
 have ht1 : (l.take kids.length).length = kids.length := by simp; omega
 rw [ht1]
 clear hs1
 refine G ?_
 refine ⟨⟨[36], [1000, 1001], [], fun m vs css R J => ∃ (i : Nat) (cs : List Value), vs = [.int .i64 (i : Nat)] ∧ css = [bufC v (off + 1 + ed.length + hd.length + (es.take i).flatten.length), cs] ∧ i ≤ kids.length ∧ m = kids.length - i ∧ R = [] ∧ S i cs J,
  kids.length, _, _, rfl, rfl, ⟨0, cs, rfl, by simp, by omega, rfl, rfl, hS⟩, ?_⟩⟩
 rintro m vs css R J hJ _ _ ⟨i, cs, rfl, rfl, hi, rfl, rfl, hSi⟩
 replace hJ : I.le J := hJ
 refine G ?_
 split
 ·rename_i hlt _
  have hi' : i < kids.length := by omega
  have hie : i < es.length := by omega
  have hil : i < l.length := by omega
  obtain ⟨vb, vo, rfl, _⟩ := hl1.some (by omega)
  have hg1 : (l.take kids.length)[i]? = some l[i] := by rw [List.getElem?_take_of_lt hi']; simp [hil]
  obtain ⟨cx, hcx, hcw, hcc⟩ := hl1.get hg1
  have hlg : l[i]? = some l[i] := by simp [hil]
  have hkg : kids[i]? = some kids[i] := by simp [hi']
  obtain ⟨⟨ty, x, hx⟩, hnul⟩ := hf.form (List.mem_of_getElem? hlg)
  have hdi := drop_flat hr hie
  have htf := take_flat hie
  have hen' := hen i kids[i] es[i] hkg (by simp [hie])
  obtain rfl : cx = [l[i].1, l[i].2] := hcx
  by_cases hk0 : kids[i].kind = 0
  ·have hen0 := enc_null hen' hk0
   rw [hen0] at hdi
   rcases hf.null i l[i] J cs hlg (fun k hk => by rw [hkg] at hk; cases hk; exact hk0) hSi with ⟨hp, hS1⟩ | ⟨g, cap, hp, hcall⟩
   ·rw [hx, hp] at hcc
    refine G ?_
    refine ⟨_, _, _, _, i, rfl, rfl, hi', ?_⟩
    refine G ?_
    refine ⟨_, .imm (hcc.mono hJ), rfl, ?_⟩
    refine G ?_
    intro b11
    refine G ?_
    refine Cx [1000] ?_
    refine tryReadNull_law' (hv.mono hJ) hdi fun hr1 => ?_
    refine G ?_
    refine ⟨kids.length - (i + 1), _, _, by omega, rfl, rfl, rfl, rfl, .inl ⟨i + 1, cs, rfl, ?_, hi', rfl, rfl, hS1⟩⟩
    rw [htf, hen0]; rfl
   ·rw [hx, hp] at hcc
    refine G ?_
    refine ⟨_, _, _, _, i, rfl, rfl, hi', ?_⟩
    refine G ?_
    refine ⟨_, .imm (hcc.mono hJ), rfl, ?_⟩
    refine G ?_
    intro b11
    refine G ?_
    refine Cx [1000] ?_
    refine tryReadNull_law' (hv.mono hJ) hdi fun hr1 => ?_
    refine G ?_
    refine Cx [1001,1002] ?_
    have hcap : (#[].toList ++ [] ++ cap.toList).toArray = cap := by simp
    refine hcall _ fun cs' hS1 => ?_
    refine G ?_
    refine ⟨kids.length - (i + 1), _, _, by omega, rfl, rfl, rfl, rfl, .inl ⟨i + 1, cs', rfl, ?_, hi', rfl, rfl, hS1⟩⟩
    rw [htf, hen0]; rfl
  ·obtain ⟨z, t, hz1, hz2⟩ := enc_first hen' hk0
   have hfield := hf.field i l[i] kids[i] J cs (off + 1 + ed.length + hd.length + (es.take i).flatten.length) es[i] ((es.drop (i + 1)).flatten ++ r)
   rw [hx] at hfield
   have hoff := drop_le (y := z) (r := t ++ ((es.drop (i + 1)).flatten ++ r)) (hdi.trans (by rw [hz1]; rfl))
   rcases hnul with hp | ⟨g, a1, a2, hp⟩
   all_goals
    rw [hx, hp] at hcc
    refine G ?_
    refine ⟨_, _, _, _, i, rfl, rfl, hi', ?_⟩
    refine G ?_
    refine ⟨_, .imm (hcc.mono hJ), rfl, ?_⟩
    refine G ?_
    intro b11
    refine G ?_
    refine Cx [1000] ?_
    refine tryReadNull_law (hv.mono hJ) (Nat.le_of_lt hoff) hdi (fun z' r' hz => by rw [hz1] at hz; cases hz; exact hz2) ?_
    refine G ?_
    refine Cx [1000,1001] ?_
    refine hfield _ hlg hkg hk0 hSi (hv.mono hJ) hen' hdi fun J1 cs1 hJ1 hS1 => ?_
    refine G ?_
    refine ⟨kids.length - (i + 1), _, _, by omega, rfl, rfl, rfl, rfl, .inl ⟨i + 1, cs1, rfl, ?_, hi', rfl, rfl, hS1⟩⟩
    rw [htf]; simp only [Nat.add_assoc]
 ·rename_i hge _
  obtain rfl : i = kids.length := by omega
  have hfl : (es.take kids.length).flatten.length = es.flatten.length := by rw [List.take_of_length_le (by omega)]
  have hend := (take_of_drop hr).2.2
  rw [hfl]
  refine G ?_
  refine ⟨kids.length, l.length, rfl, rfl, hn, by have := (slAt_le hl.2.choose_spec.1).2.1; omega, ?_⟩
  intro s2 hs2
  have hl2 : Row 2 FldRep I (l.drop kids.length) s2 := by
   have := Row.cut hl (a := kids.length) (u := l.length) hn (Nat.le_refl _)
   rw [hs2]
   show Row 2 FldRep I (l.drop kids.length) (sliceV fb kids.length l.length fc 2)
   rw [List.take_of_length_le (by simp)] at this
   exact this
  obtain ⟨b2, c2, rfl⟩ := hl2.form
  have ht2 : (l.drop kids.length).length = l.length - kids.length := by simp
  rw [ht2]
  clear hs2
  refine G ?_
  refine ⟨⟨[63], [1001], [], fun m vs css R J2 => ∃ (i : Nat) (cs : List Value), vs = [.int .i64 (i : Nat)] ∧ css = [cs] ∧ i ≤ l.length - kids.length ∧ m = l.length - kids.length - i ∧ R = [] ∧ S (kids.length + i) cs J2,
   l.length - kids.length, _, _, rfl, rfl, ⟨0, cs, rfl, rfl, by omega, rfl, rfl, hSi⟩, ?_⟩⟩
  rintro m vs css R J2 hJ2 _ _ ⟨i, cs, rfl, rfl, hi, rfl, rfl, hSi⟩
  replace hJ2 : J.le J2 := hJ2
  refine G ?_
  split
  ·rename_i hlt2 _
   have hi' : i < l.length - kids.length := by omega
   have hil : kids.length + i < l.length := by omega
   obtain ⟨vb, vo, rfl, _⟩ := hl2.some (by omega)
   have hlg : l[kids.length + i]? = some l[kids.length + i] := by simp [hil]
   have hg1 : (l.drop kids.length)[i]? = some l[kids.length + i] := by rw [List.getElem?_drop, hlg]
   obtain ⟨cx, hcx, hcw, hcc⟩ := hl2.get hg1
   obtain ⟨⟨ty, x, hx⟩, _⟩ := hf.form (List.mem_of_getElem? hlg)
   obtain rfl : cx = [l[kids.length + i].1, l[kids.length + i].2] := hcx
   rcases hf.null (kids.length + i) l[kids.length + i] J2 cs hlg (fun k hk => by have := (List.getElem?_eq_some_iff.1 hk).1; omega) hSi with ⟨hp, hS1⟩ | ⟨g, cap, hp, hcall⟩
   ·rw [hx, hp] at hcc
    refine G ?_
    refine ⟨_, _, _, _, i, rfl, rfl, hi', ?_⟩
    refine G ?_
    refine ⟨_, .imm (hcc.mono (hJ.trans hJ2)), rfl, ?_⟩
    refine G ?_
    intro b13
    refine G ?_
    refine ⟨l.length - kids.length - (i + 1), _, _, by omega, rfl, rfl, rfl, rfl, .inl ⟨i + 1, cs, rfl, rfl, hi', rfl, rfl, hS1⟩⟩
   ·rw [hx, hp] at hcc
    refine G ?_
    refine ⟨_, _, _, _, i, rfl, rfl, hi', ?_⟩
    refine G ?_
    refine ⟨_, .imm (hcc.mono (hJ.trans hJ2)), rfl, ?_⟩
    refine G ?_
    intro b13
    refine G ?_
    refine Cx [1001,1002] ?_
    refine hcall _ fun cs' hS1 => ?_
    refine G ?_
    refine ⟨l.length - kids.length - (i + 1), _, _, by omega, rfl, rfl, rfl, rfl, .inl ⟨i + 1, cs', rfl, rfl, hi', rfl, rfl, hS1⟩⟩
  ·rename_i hge2 _
   have e1 : kids.length + i = l.length := by omega
   rw [e1] at hSi
   refine G ?_
   refine L0 ?_
   have e2 : off + 1 + ed.length + hd.length + es.flatten.length = off + (1 + ed.length + hd.length + es.flatten.length) := by omega
   rw [← e2] at h
   exact h J2 cs (hJ.trans hJ2) hSi hend
end rd
end Go.Proofs.YtcfglgelckjpmaaGreatDoor
