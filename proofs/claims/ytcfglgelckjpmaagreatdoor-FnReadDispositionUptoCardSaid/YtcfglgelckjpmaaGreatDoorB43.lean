/- Own machinery, and laws of the functions that the statement reaches (part 43). -/
import Derived.Test.YtcfglgelckjpmaaGreatDoorB24
import Derived.Test.YtcfglgelckjpmaaGreatDoorB41
set_option linter.all false
namespace Go.Proofs.YtcfglgelckjpmaaGreatDoor
set_option maxRecDepth 100000
set_option maxHeartbeats 8000000
def AnnBack (l l' : List V) : Prop := ∃ ps' : List (V × V), ps'.Perm (prs l) ∧ l'.length = 2 * ps'.length ∧ ∀ (i : Nat) (p : V × V), ps'[i]? = some p → ∃ a b, l'[2 * i]? = some a ∧ l'[2 * i + 1]? = some b ∧ Back p.1 a ∧ Back p.2 b
theorem back_ann {l l' : List V} (h : AnnBack l l') : Back (.mk 22 0 [] l 0 []) (.mk 22 0 [] l' 0 []) := by
 obtain ⟨ps', hp, hl, hb⟩ := h
 refine .map hp hl (fun i p a b hi ha hb1 => ?_) (fun i p a b hi ha hb1 => ?_)
 ·obtain ⟨a', b', e1, e2, e3, e4⟩ := hb i p hi
  rw [ha] at e1; cases e1; exact e3
 ·obtain ⟨a', b', e1, e2, e3, e4⟩ := hb i p hi
  rw [hb1] at e2; cases e2; exact e4
theorem ann_nil {l l' : List V} (h : AnnBack l l') (he : l.length % 2 = 0) : l = [] ↔ l' = [] := by
 obtain ⟨ps', hp, hl, _⟩ := h
 have h1 := hp.length_eq
 rw [prs_len] at h1
 constructor
 ·rintro rfl
  have h2 : ps'.length = 0 := by rw [h1]; rfl
  exact nil_of_len (by omega)
 ·rintro rfl; exact nil_of_len (by simp at hl; omega)
theorem sf_ann {l l' : List V} (h : AnnBack l l') (hm : MapRd l) (hf : l ≠ [] → Fine (.mk 22 0 [] l 0 [])) : SfP vNull (mapFieldV l).1 (mapFieldV l').1 := by
 by_cases hl : l = []
 ·have hl' : l' = [] := (ann_nil h (by rw [hl]; rfl)).1 hl
  rw [hl, hl']
  exact sf_null
 ·have hl' : l' ≠ [] := fun e => hl ((ann_nil h (hm.txt hl).even).2 e)
  unfold mapFieldV
  rw [if_neg hl, if_neg hl']
  exact sf_back (hf hl) (back_ann h) (by simp [V.kind]) (by simp [V.kind])
structure StateRd (s : StateD) : Prop where
 code : s.code = 35 ∨ s.code = 36 ∨ s.code = 37 ∨ s.code = 38 ∨ s.code = 39
 number : s.number < 4294967296
 offset : s.offset < 18446744073709551616
 faults : s.code = 37 → ∀ f ∈ s.faults, FaultRd f
 ann : s.code = 39 → MapRd s.ann
structure StateOk (s : StateD) : Prop where
 rd : StateRd s
 faults : s.code = 37 → ∀ f ∈ s.faults, FaultOk f
 fine : s.code = 39 → s.ann ≠ [] → Fine (.mk 22 0 [] s.ann 0 [])
structure StateBack (s s' : StateD) : Prop where
 code : s'.code = s.code
 nums : s.code = 35 → s'.number = s.number ∧ s'.offset = s.offset
 faults : s.code = 37 → FaultsBack s.faults s'.faults
 flags : s.code = 39 → s'.failed = s.failed ∧ s'.elsewhere = s.elsewhere
 ann : s.code = 39 → AnnBack s.ann s'.ann
theorem bit_lt (t : Bool) : bit t < 2 := by cases t <;> decide
theorem sf_flag (t : Bool) {z : V} : SfP z (flagV t).1 (flagV t).1 := sf_num (.bool (bit_lt t)) (by decide)
theorem sf_state {s s' : StateD} (h : StateOk s) (hb : StateBack s s') : SfP vNull (whole (stateOf s)) (whole (stateOf s')) := by
 obtain ⟨⟨hc, hn, ho, hfr, har⟩, hfo, hfi⟩ := h
 obtain ⟨b1, b2, b3, b4, b5⟩ := hb
 obtain ⟨c, n, o, fs, fa, el, an⟩ := s
 obtain ⟨c', n', o', fs', fa', el', an'⟩ := s'
 simp only at hc hn ho hfr har hfo hfi b1 b2 b3 b4 b5
 subst b1
 rcases hc with rfl | rfl | rfl | rfl | rfl
 ·obtain ⟨rfl, rfl⟩ := b2 rfl
  refine sf_comp (code := 35) (ks := [vNum 4 n', vNum 5 o']) (ks' := [vNum 4 n', vNum 5 o']) known_35 (by decide) (show 2 ≤ 2 by decide) (show 2 ≤ 2 by decide) fun i g hg => ?_
  match i, hg with
  | 0, hg => cases hg; exact sf_num (.uint hn) (by decide)
  | 1, hg => cases hg; exact sf_num (.ulong ho) (by decide)
  | i + 2, hg => simp [known, stateOf] at hg
 ·exact sf_comp (code := 36) (ks := []) (ks' := []) known_36 (by decide) (Nat.zero_le _) (Nat.zero_le _) fun i g hg => by simp [known, stateOf] at hg
 ·refine sf_comp (code := 37) (ks := [(faultsV fs).1]) (ks' := [(faultsV fs').1]) known_37 (by decide) (show 1 ≤ 1 by decide) (show 1 ≤ 1 by decide) fun i g hg => ?_
  match i, hg with
  | 0, hg => cases hg; exact sf_faults (hfo rfl) (b3 rfl)
  | i + 1, hg => simp [known, stateOf] at hg
 ·exact sf_comp (code := 38) (ks := []) (ks' := []) known_38 (by decide) (Nat.zero_le _) (Nat.zero_le _) fun i g hg => by simp [known, stateOf] at hg
 ·obtain ⟨rfl, rfl⟩ := b4 rfl
  refine sf_comp (code := 39) (ks := [(flagV fa').1, (flagV el').1, (mapFieldV an).1]) (ks' := [(flagV fa').1, (flagV el').1, (mapFieldV an').1]) known_39 (by decide) (show 3 ≤ 3 by decide) (show 3 ≤ 3 by decide) fun i g hg => ?_
  match i, hg with
  | 0, hg => cases hg; exact sf_flag fa'
  | 1, hg => cases hg; exact sf_flag el'
  | 2, hg => cases hg; exact sf_ann (b5 rfl) (har rfl) (hfi rfl)
  | i + 3, hg => simp [known, stateOf] at hg
def StatesBack (l l' : List StateD) : Prop := (l = [] ∧ l' = []) ∨ ∃ s t s', l = s :: t ∧ l' = [s'] ∧ StateBack s s'
theorem sf_states {l l' : List StateD} (h : ∀ s ∈ l, StateOk s) (hb : StatesBack l l') : SfP vNull (statesV l).1 (statesV l').1 := by
 rcases hb with ⟨rfl, rfl⟩ | ⟨s, t, s', rfl, rfl, hb⟩
 ·exact sf_null
 ·exact sf_state (h s (by simp)) hb
theorem pv_state {s : StateD} (h : StateOk s) : Pv (whole (stateOf s)) := by
 obtain ⟨⟨hc, hn, ho, hfr, har⟩, hfo, hfi⟩ := h
 obtain ⟨c, n, o, fs, fa, el, an⟩ := s
 simp only at hc hn ho hfr har hfo hfi
 rcases hc with rfl | rfl | rfl | rfl | rfl
 ·refine .comp (c := 35) (ks := [vNum 4 n, vNum 5 o]) (by decide) fun i x hx => ?_
  match i, hx with
  | 0, hx => cases hx; exact .sc (.uint hn)
  | 1, hx => cases hx; exact .sc (.ulong ho)
  | i + 2, hx => simp at hx
 ·exact .comp (c := 36) (ks := []) (by decide) fun i x hx => by simp at hx
 ·refine .comp (c := 37) (ks := [(faultsV fs).1]) (by decide) fun i x hx => ?_
  match i, hx with
  | 0, hx => cases hx; exact pv_faults (hfo rfl)
  | i + 1, hx => simp at hx
 ·exact .comp (c := 38) (ks := []) (by decide) fun i x hx => by simp at hx
 ·refine .comp (c := 39) (ks := [(flagV fa).1, (flagV el).1, (mapFieldV an).1]) (by decide) fun i x hx => ?_
  match i, hx with
  | 0, hx => cases hx; exact .sc (.bool (bit_lt fa))
  | 1, hx => cases hx; exact .sc (.bool (bit_lt el))
  | 2, hx => cases hx; exact pv_map (hfi rfl)
  | i + 3, hx => simp at hx
theorem statesV_2 (l : List StateD) : (statesV l).2 = vNull := by cases l <;> rfl
theorem statesV_kind (l : List StateD) : (statesV l).1.kind ≠ 23 := by cases l <;> simp [statesV, vNull, whole, V.kind]
theorem pv_states {l : List StateD} (h : ∀ s ∈ l, StateOk s) : Pv (statesV l).1 := by
 cases l with
 | nil => exact .sc .null
 | cons s t => exact pv_state (h s (by simp))
theorem maybeV_2 (k : Int) (l : List Nat) : (maybeV k l).2 = vNull := by cases l <;> rfl
theorem maybeV_kind {k : Int} (hk : k ≠ 23) (l : List Nat) : (maybeV k l).1.kind ≠ 23 := by cases l <;> simp [maybeV, vNull, vNum, V.kind, hk]
theorem maybeV_take (k : Int) (l : List Nat) : maybeV k (l.take 1) = maybeV k l := by cases l <;> rfl
structure DispRd (d : DispD) : Prop where
 first : d.first < 4294967296
 last : ∀ n ∈ d.last, n < 4294967296
 state : ∀ s ∈ d.state, StateRd s
structure DispOk (d : DispD) : Prop where
 rd : DispRd d
 state : ∀ s ∈ d.state, StateOk s
structure DispBack (d d' : DispD) : Prop where
 receiver : d'.receiver = d.receiver
 first : d'.first = d.first
 last : d'.last = d.last.take 1
 settled : d'.settled = d.settled
 batchable : d'.batchable = d.batchable
 state : StatesBack d.state d'.state
theorem pv_last {l : List Nat} (h : ∀ n ∈ l, n < 4294967296) : Pv (maybeV 4 l).1 := by
 cases l with
 | nil => exact .sc .null
 | cons n t => exact .sc (.uint (h n (by simp)))
theorem sf_last {l : List Nat} (h : ∀ n ∈ l, n < 4294967296) : SfP vNull (maybeV 4 l).1 (maybeV 4 l).1 := by
 cases l with
 | nil => exact sf_null
 | cons n t => exact sf_num (.uint (h n (by simp))) (by decide)
theorem disp_pv {d : DispD} (h : DispOk d) : ∀ (j : Nat) (f : V × V) (y : V), (dispOf d).fields[j]? = some f → FieldVar f y → Pv y := fun j f y hj hy => by
 match j, hj with
 | 0, hj =>
  cases hj
  rw [hy.plain rfl (by simp [vNum, V.kind])]
  exact .sc (.bool (bit_lt _))
 | 1, hj =>
  cases hj
  rw [hy.plain rfl (by simp [vNum, V.kind])]
  exact .sc (.uint h.rd.first)
 | 2, hj =>
  cases hj
  rw [hy.plain (by rw [maybeV_2]; rfl) (maybeV_kind (by decide) _)]
  exact pv_last h.rd.last
 | 3, hj => cases hj; exact pv_num (.bool (bit_lt _)) (by decide) hy
 | 4, hj =>
  cases hj
  rw [hy.plain (by rw [statesV_2]; rfl) (statesV_kind _)]
  exact pv_states h.state
 | 5, hj => cases hj; exact pv_num (.bool (bit_lt _)) (by decide) hy
 | j + 6, hj => simp [dispOf] at hj
theorem disp_same {d d' : DispD} (h : DispOk d) (hb : DispBack d d') : ∀ (i : Nat) (f : V × V), (dispOf d).fields[i]? = some f → SfP f.2 f.1 (((dispOf d').fields.map Prod.fst).getD i vNull) := fun i f hi => by
 match i, hi with
 | 0, hi =>
  cases hi
  show SfP _ (vNum 1 (bit d.receiver)) (vNum 1 (bit d'.receiver))
  rw [hb.receiver]
  exact sf_num (.bool (bit_lt _)) (by decide)
 | 1, hi =>
  cases hi
  show SfP _ (vNum 4 d.first) (vNum 4 d'.first)
  rw [hb.first]
  exact sf_num (.uint h.rd.first) (by decide)
 | 2, hi =>
  cases hi
  show SfP (maybeV 4 d.last).2 (maybeV 4 d.last).1 (maybeV 4 d'.last).1
  rw [hb.last, maybeV_take, maybeV_2]
  exact sf_last h.rd.last
 | 3, hi =>
  cases hi
  show SfP _ (flagV d.settled).1 (flagV d'.settled).1
  rw [hb.settled]
  exact sf_flag _
 | 4, hi =>
  cases hi
  show SfP (statesV d.state).2 (statesV d.state).1 (statesV d'.state).1
  rw [statesV_2]
  exact sf_states h.state hb.state
 | 5, hi =>
  cases hi
  show SfP _ (flagV d.batchable).1 (flagV d'.batchable).1
  rw [hb.batchable]
  exact sf_flag _
 | i + 6, hi => simp [dispOf] at hi
def StateAsked (s : StateD) : Prop := s.code = 35 ∨ s.code = 36 ∨ s.code = 38 ∨ (s.code = 37 ∧ FaultsAsked s.faults) ∨ (s.code = 39 ∧ MapAsked s.ann 20)
def StatesAsked (l : List StateD) : Prop := l.length ≤ 1 ∧ ∀ s ∈ l, StateAsked s
theorem state_ok {I : Imm} {s : StateD} {cs : List Value} {lv : Nat} (ha : StateAsked s) (hf : Fit (lv + 4) (whole (stateOf s))) (hr : StateRep I s cs) : StateOk s := by
 obtain ⟨v1, v2, _, _, h2, h3, r1, r2⟩ := hr
 obtain ⟨c, n, o, fs, fa, el, an⟩ := s
 simp only [StateAsked] at ha
 simp only at h2 h3 r1 r2
 rcases ha with rfl | rfl | rfl | ⟨rfl, ha⟩ | ⟨rfl, ha⟩
 ·exact ⟨⟨.inl rfl, h2, h3, (fun h => by cases h), (fun h => by cases h)⟩, (fun h => by cases h), (fun h => by cases h)⟩
 ·exact ⟨⟨.inr (.inl rfl), h2, h3, (fun h => by cases h), (fun h => by cases h)⟩, (fun h => by cases h), (fun h => by cases h)⟩
 ·exact ⟨⟨.inr (.inr (.inr (.inl rfl))), h2, h3, (fun h => by cases h), (fun h => by cases h)⟩, (fun h => by cases h), (fun h => by cases h)⟩
 ·have k0 : Fit (lv + 3) (faultsV fs).1 := fit_kid hf (i := 0) rfl
  have hok := faults_ok ha k0 r1
  exact ⟨⟨.inr (.inr (.inl rfl)), h2, h3, fun _ f hf => (hok f hf).rd, (fun h => by cases h)⟩, fun _ => hok, (fun h => by cases h)⟩
 ·obtain ⟨m1, m2⟩ := map_ok (.inr rfl) ha r2
  exact ⟨⟨.inr (.inr (.inr (.inr rfl))), h2, h3, (fun h => by cases h), fun _ => m1⟩, (fun h => by cases h), fun _ => m2⟩
theorem states_ok {I : Imm} {l : List StateD} {v : Value} {lv : Nat} (ha : StatesAsked l) (hf : Fit (lv + 4) (statesV l).1) (hr : Row 7 (StateRep I) I l v) : ∀ s ∈ l, StateOk s := by
 obtain ⟨h1, h2⟩ := ha
 match l, h1, h2, hf, hr with
 | [], _, _, _, _ => simp
 | [f], _, h2, hf, hr =>
  intro g hg
  obtain rfl := List.mem_singleton.1 hg
  obtain ⟨_, cs, hs, hl, hrep⟩ := hr
  exact state_ok (h2 g (by simp)) hf (hrep 0 g _ rfl (List.getElem?_eq_getElem (by rw [hl]; simp))).1
 | f :: g :: t, h1, _, _, _ => simp at h1
def DispAsked (d : DispD) : Prop := d.last.length ≤ 1 ∧ StatesAsked d.state
theorem disp_ok {I : Imm} {d : DispD} {cs : List Value} {lv : Nat} (ha : DispAsked d) (hf : Fit (lv + 5) (whole (dispOf d))) (hr : DispRep I d cs) : DispOk d := by
 obtain ⟨v1, v2, _, h1, r1, r2⟩ := hr
 have k4 : Fit (lv + 4) (statesV d.state).1 := fit_kid hf (i := 4) rfl
 have hok := states_ok ha.2 k4 r2
 refine ⟨⟨h1, fun n hn => ?_, fun s hs => (hok s hs).rd⟩, hok⟩
 obtain ⟨i, hi⟩ := List.mem_iff_getElem?.1 hn
 obtain ⟨_, cs, hs, hl, hrep⟩ := r1
 have hil := (List.getElem?_eq_some_iff.1 hi).1
 exact (hrep i n _ hi (List.getElem?_eq_getElem (by rw [hl]; exact hil))).1.2
section ya
variable {I : Imm} {br bx k : Nat} {bs : List UInt8} {v : Value} {off : Nat} {cs : List Value} {e r : List UInt8} {Q : Qt}
theorem peek_s {y : UInt8} (hv : BytesAt I bs v) (hlen : bs.length < 1099511627776) (g0 : bs[0]? = some 0) (g1 : bs[1]? = some 0x53) (g2 : bs[2]? = some y) (h : ∀ m : Int, Q (.tuple #[byteV y, .int .u8 m, .nilIface]) [] [] I) : WP Tryz.prog 135 #[v] [] [] I Q := by
 have h3 : 2 < bs.length := (List.getElem?_eq_some_iff.1 g2).1
 obtain ⟨base, cap, rfl⟩ := bytes_form hv
 obtain ⟨vb, vo, rfl⟩ := bytes_some hv (by omega)
 have hle := (bytes_le hv).2
 refine lw K135 [] [.slice (some ⟨vb, vo, none⟩) bs.length cap] Tryz.func135 ?_
 refine G ?_
 (split; omega); refine G ?_
 (refine ⟨_, _, _, _, 0, rfl, rfl, by omega, ?_⟩); (refine G ?_); (refine ⟨_, .imm (bytes_cell hv g0), ?_⟩); (refine G ?_)
 (refine ⟨_, _, _, _, 1, rfl, rfl, by omega, ?_⟩); (refine G ?_); (refine ⟨_, .imm (bytes_cell hv g1), ?_⟩); (refine G ?_)
 refine ⟨2, bs.length, rfl, rfl, by omega, by omega, ?_⟩
 intro s2 hs2
 have hcut : BytesAt I ((bs.drop 2).take (bs.length - 2)) s2 := hs2 ▸ bytes_cut hv (l := 2) (u := bs.length) (by omega) (Nat.le_refl _)
 obtain ⟨xb, xc, rfl⟩ := bytes_form hcut
 have hl2 : ((bs.drop 2).take (bs.length - 2)).length = bs.length - 2 := by simp
 rw [hl2]
 refine G ?_
 (split; omega); refine G ?_
 (refine ⟨_, _, _, _, 2, rfl, rfl, by omega, ?_⟩); (refine G ?_); (refine ⟨_, .imm (bytes_cell hv g2), ?_⟩); (refine G ?_)
 refine L0 ?_
 exact h _
theorem peek_l {y0 y1 y2 y3 y4 y5 y6 y7 : UInt8} (hv : BytesAt I bs v) (hlen : bs.length < 1099511627776) (g0 : bs[0]? = some 0) (g1 : bs[1]? = some 0x80) (q0 : bs[2]? = some y0) (q1 : bs[3]? = some y1) (q2 : bs[4]? = some y2) (q3 : bs[5]? = some y3) (q4 : bs[6]? = some y4) (q5 : bs[7]? = some y5) (q6 : bs[8]? = some y6) (q7 : bs[9]? = some y7)
  (hc : y7.toNat + y6.toNat * 256 + y5.toNat * 65536 + y4.toNat * 16777216 + y3.toNat * 4294967296 + y2.toNat * 1099511627776 + y1.toNat * 281474976710656 + y0.toNat * 72057594037927936 < 256)
  (h : ∀ m : Int, Q (.tuple #[.int .u8 ((y7.toNat + y6.toNat * 256 + y5.toNat * 65536 + y4.toNat * 16777216 + y3.toNat * 4294967296 + y2.toNat * 1099511627776 + y1.toNat * 281474976710656 + y0.toNat * 72057594037927936 : Nat) : Int), .int .u8 m, .nilIface]) [] [] I) : WP Tryz.prog 135 #[v] [] [] I Q := by
 have h3 : 9 < bs.length := (List.getElem?_eq_some_iff.1 q7).1
 obtain ⟨base, cap, rfl⟩ := bytes_form hv
 obtain ⟨vb, vo, rfl⟩ := bytes_some hv (by omega)
 have hle := (bytes_le hv).2
 refine lw K135 [] [.slice (some ⟨vb, vo, none⟩) bs.length cap] Tryz.func135 ?_
 refine G ?_
 (split; omega); refine G ?_
 (refine ⟨_, _, _, _, 0, rfl, rfl, by omega, ?_⟩); (refine G ?_); (refine ⟨_, .imm (bytes_cell hv g0), ?_⟩); (refine G ?_)
 (refine ⟨_, _, _, _, 1, rfl, rfl, by omega, ?_⟩); (refine G ?_); (refine ⟨_, .imm (bytes_cell hv g1), ?_⟩); (refine G ?_)
 refine ⟨2, bs.length, rfl, rfl, by omega, by omega, ?_⟩
 intro s2 hs2
 have hcut : BytesAt I ((bs.drop 2).take (bs.length - 2)) s2 := hs2 ▸ bytes_cut hv (l := 2) (u := bs.length) (by omega) (Nat.le_refl _)
 obtain ⟨xb, xc, rfl⟩ := bytes_form hcut
 have hl2 : ((bs.drop 2).take (bs.length - 2)).length = bs.length - 2 := by simp
 rw [hl2]
 refine G ?_
 (split; omega); refine G ?_
 refine ⟨[0,1,2,3,4], [], [], [], by kernel_rfl, ?_⟩
 refine G ?_
 refine ⟨2, 10, rfl, rfl, by omega, by omega, ?_⟩
 intro s3 hs3
 have hcut3 : BytesAt I ((bs.drop 2).take (10 - 2)) s3 := hs3 ▸ bytes_cut hv (l := 2) (u := 10) (by omega) (by omega)
 have get : ∀ {i : Nat} {y : UInt8}, i < 8 → bs[2 + i]? = some y → ((bs.drop 2).take (10 - 2))[i]? = some y := fun hi hy => by
  rw [List.getElem?_take_of_lt hi, List.getElem?_drop]; exact hy
 refine G ?_
 refine .inr ?_
 refine G ?_
 refine Uint64_law hcut3 (get (by decide) q0) (get (by decide) q1) (get (by decide) q2) (get (by decide) q3) (get (by decide) q4) (get (by decide) q5) (get (by decide) q6) (get (by decide) q7) ?_
 refine G ?_
 refine L0 ?_
 exact h _
theorem peek_law {c : Nat} {ed r : List UInt8} (hc : UlongE c ed) (h0 : 0 < c) (hc8 : c < 256) (hv : BytesAt I (0 :: (ed ++ r)) v) (hlen : (0 :: (ed ++ r)).length < 1099511627776) (h : ∀ m : Int, Q (.tuple #[.int .u8 (c : Nat), .int .u8 m, .nilIface]) [] [] I) : WP Tryz.prog 135 #[v] [] [] I Q := by
 cases hc with
 | z => omega
 | s y => exact peek_s (y := y) hv hlen rfl rfl rfl h
 | l y0 y1 y2 y3 y4 y5 y6 y7 => exact peek_l (y0 := y0) (y1 := y1) (y2 := y2) (y3 := y3) (y4 := y4) (y5 := y5) (y6 := y6) (y7 := y7) hv hlen rfl rfl rfl rfl rfl rfl rfl rfl rfl rfl hc8 h
def AnnV (I : Imm) (l : List V) (mv : Value) : Prop := (l = [] ∧ mv = .map none) ∨ ∃ r es, mv = .map (some r) ∧ MapIs I keyV l r es
theorem AnnV.mono {I J : Imm} (hi : I.le J) {l : List V} {mv : Value} (h : AnnV I l mv) : AnnV J l mv := by
 rcases h with h | ⟨r, es, e, h⟩
 ·exact .inl h
 ·exact .inr ⟨r, es, e, h.mono hi⟩
theorem annUnm_law {ks : List V} {o : Int} {es : List (List UInt8)} {hd r : List UInt8} (hk : k < cs.length) (hrd : ∀ (i : Nat) (y : V), ks[i]? = some y → RdP y) (hx : Kv (.mk 22 0 [] ks o [])) (hv : BufAt I bs v) (hl : es.length = ks.length)
  (he : ∀ (i : Nat) (x : V) (e : List UInt8), ks[i]? = some x → es[i]? = some e → Enc x e) (hh : HeadE 0xc1 0xd1 ks.length hd es.flatten) (hdr : bs.drop off = hd ++ (es.flatten ++ r))
  (h : ∀ I' m me, I.le I' → MapIs I' keyV ks m me → bs.drop (off + hd.length + es.flatten.length) = r → Q .nilIface [bufC v (off + hd.length + es.flatten.length), splice cs k [.map (some m)]] [] I') :
  WP Tryz.prog 386 #[pt bx k, ptr br] [(br, bufC v off), (bx, cs)] [] I Q := by
 have hsm := hv.small
 have hn : ks.length ≤ 65536 := (head_pos hh).2
 have hx' : (ks.length % 2 = 0) ∧ (∀ (i : Nat) (x : V), i % 2 = 0 → ks[i]? = some x → ∃ k n t o, x = .mk k n t [] o [] ∧ Scal k n t ∧ keyK k) ∧
   (∀ (i j : Nat) (x y : V), i % 2 = 0 → j % 2 = 0 → j < i → ks[i]? = some x → ks[j]? = some y → ¬ Same (asKey y) (asKey x)) := by
  cases hx with
  | sc hs => cases hs
  | map he h hk hd => exact ⟨he, hk, hd⟩
 obtain ⟨hev, hkey, hdist⟩ := hx'
 refine lw K386 [(1,1000)] _ Tryz.func386 ?_
 refine G ?_
 refine Cx [1000] ?_
 refine readMapHeader_law hv hh hdr fun hr => ?_
 refine G ?_
 refine ⟨by decide, _, rfl, ?_⟩
 refine G ?_
 intro m
 refine G ?_
 refine ⟨⟨[8], [1000], [], fun me vs css R J => ∃ (i : Nat) (ms : Array MapEntry), vs = [.int .u32 ((i * 2 : Nat) : Int)] ∧ css = [bufC v (off + hd.length + (es.take (i * 2)).flatten.length)] ∧ i * 2 ≤ ks.length ∧ me = ks.length - i * 2 ∧
   R = [(22, .map m ms ms.size)] ∧ ms.size = i ∧
   (∀ (j : Nat) (k x : V) (e : MapEntry), ks[2 * j]? = some k → ks[2 * j + 1]? = some x → ms.toList[j]? = some e → e.key = keyV k ∧ e.born = j ∧ GoAny J x e.val), ks.length, _, _, rfl, rfl,
  ⟨0, #[], rfl, by simp, by omega, rfl, rfl, rfl, fun j k x e _ _ he => by simp at he⟩, ?_⟩⟩
 rintro me vs css R J hJ _ _ ⟨i, ms, rfl, rfl, hi, rfl, rfl, hms, hent⟩
 replace hJ : I.le J := hJ
 refine G ?_
 split
 ·rename_i hlt _
  have hi1 : i * 2 < ks.length := by omega
  have hi2 : i * 2 + 1 < ks.length := by omega
  have hie : i * 2 < es.length := by omega
  have hie2 : i * 2 + 1 < es.length := by omega
  have hd1 := drop_flat hr hie
  have hd2 := drop_flat hr hie2
  have htf := take_flat hie
  have htf2 := take_flat hie2
  obtain ⟨kk, kn, kt, ko, hkx, hks, hkk⟩ := hkey (i * 2) ks[i * 2] (by omega) (by simp [hi1])
  refine G ?_
  refine Cx [1000] ?_
  refine hrd (i * 2) ks[i * 2] (by simp [hi1]) J br bs v _ es[i * 2] _ _ (hv.mono hJ) (he (i * 2) ks[i * 2] es[i * 2] (by simp [hi1]) (by simp [hie])) hd1 fun J1 g hJ1 hg hr1 => ?_
  have hgv : g = goV kk kn kt := by
   rw [hkx] at hg
   cases hg with
   | sc => rfl
   | bin => exfalso; revert hkk; unfold keyK; omega
   | list => cases hks
   | arr => cases hks
   | map => cases hks
   | smap => cases hks
  subst hgv
  rw [goV_key hkk]
  refine G ?_
  rw [show off + hd.length + (es.take (i * 2)).flatten.length + es[i * 2].length = off + hd.length + (es.take (i * 2 + 1)).flatten.length by rw [htf]; omega]
  refine Cx [1000] ?_
  refine hrd (i * 2 + 1) ks[i * 2 + 1] (by simp [hi2]) J1 br bs v _ es[i * 2 + 1] _ _ (hv.mono (hJ.trans hJ1)) (he (i * 2 + 1) ks[i * 2 + 1] es[i * 2 + 1] (by simp [hi2]) (by simp [hie2])) hd2 fun J2 g2 hJ2 hg2 hr2 => ?_
  have hnew : NewKey Tryz.prog 20 (.iface (goT kk) (goP kk kn kt)) ms := by
   rw [← goV_key hkk]
   refine newKey_any hks hkk fun e he => ?_
   obtain ⟨j, hj⟩ := List.mem_iff_getElem?.1 he
   have hjl : j < i := by have := (List.getElem?_eq_some_iff.1 hj).1; simp at this; omega
   have g1 : ks[2 * j]? = some (ks[2 * j]'(by omega)) := by simp
   have g2 : ks[2 * j + 1]? = some (ks[2 * j + 1]'(by omega)) := by simp
   obtain ⟨k', n', t', o', e1, e2, e3⟩ := hkey (2 * j) _ (by omega) g1
   refine ⟨k', n', t', ?_, e2, e3, fun ⟨q1, q2, q3⟩ => ?_⟩
   ·rw [(hent j _ _ e g1 g2 hj).1, e1]; rfl
   ·refine hdist (i * 2) (2 * j) _ _ (by omega) (by omega) (by omega) (show ks[i * 2]? = some ks[i * 2] by simp [hi1]) g1 ?_
    rw [e1, hkx, asKey, asKey]
    simp only [V.kind, V.num, V.text, V.of, V.desc]
    rw [q1, q2, q3]
    exact same_sc
  rcases hg2.form with rfl | ⟨ty, p, rfl⟩
  all_goals
   refine G ?_
   refine ⟨22, _, _, rfl, hnew, ?_⟩
   refine G ?_
   refine ⟨ks.length - (i + 1) * 2, _, _, by omega, rfl, rfl, rfl, rfl, .inl ⟨i + 1, _, by rw [Nat.succ_mul]; rfl, ?_, by omega, rfl, by rw [Array.size_push], by rw [Array.size_push, hms], fun j k x e hk1 hk2 he1 => ?_⟩⟩
   ·rw [show (i + 1) * 2 = i * 2 + 1 + 1 by omega, htf2, Nat.add_assoc]
   ·rcases arr_push he1 with ⟨hj, he2⟩ | ⟨hj, rfl⟩
    ·obtain ⟨q1, q2, q3⟩ := hent j k x e hk1 hk2 he2
     exact ⟨q1, q2, q3.mono (hJ1.trans hJ2)⟩
    ·subst hj
     rw [hms, show 2 * i = i * 2 by omega] at hk1 hk2
     simp [hi1] at hk1
     simp [hi2] at hk2
     subst hk1 hk2
     refine ⟨?_, rfl, hg2⟩
     rw [hkx]
     exact (goV_key hkk kn kt).symm
 ·rename_i hge _
  have hik : i * 2 = ks.length := by omega
  have hfl : (es.take (i * 2)).flatten.length = es.flatten.length := by rw [List.take_of_length_le (by omega)]
  rw [hfl]
  refine G ?_
  refine .loc 1001 cs rfl hk ?_
  refine G ?_
  refine ⟨⟨[], [], [], [22], ?_⟩⟩
  intro J1 hJ1 hm
  conv => whnf
  refine h J1 m ms (hJ.trans hJ1) ⟨hm, by omega, fun j k x e h1 h2 h3 => ?_⟩ (take_of_drop hr).2.2
  obtain ⟨q1, q2, q3⟩ := hent j k x e h1 h2 h3
  exact ⟨q1, q2, q3.mono hJ1⟩
theorem unm_ann {ks : List V} {o : Int} (hk : k < cs.length) (hrd : ∀ (i : Nat) (y : V), ks[i]? = some y → RdP y) (hx : Kv (.mk 22 0 [] ks o [])) (hv : BufAt I bs v) (hz : ∃ z zt, e = z :: zt ∧ z ≠ 0x40) (he : Enc (.mk 22 0 [] ks o []) e) (hdr : bs.drop off = e ++ r)
  (h : ∀ I' m me, I.le I' → MapIs I' keyV ks m me → bs.drop (off + e.length) = r → Q .nilIface [bufC v (off + e.length), splice cs k [.map (some m)]] [] I') : WP Tryz.prog 84 #[ptr br, .iface 458 (pt bx k)] [(br, bufC v off), (bx, cs)] [] I Q := by
 cases he with
 | sc hs => cases hs
 | map hl hen hh =>
  rename_i es hd
  have hdr' := hdr
  rw [List.append_assoc] at hdr'
  rw [List.length_append, ← Nat.add_assoc] at h
  obtain ⟨z, zt, hz1, hz2⟩ := hz
  have hoff := drop_le (y := z) (r := zt ++ r) (hdr.trans (by rw [hz1]; rfl))
  refine lw K84 [(0,1000)] _ Tryz.func84 ?_
  refine G ?_
  refine Cx [1000] ?_
  refine tryReadNull_law hv (Nat.le_of_lt hoff) hdr (fun z' r' hz => by rw [hz1] at hz; cases hz; exact hz2) ?_
  refine G ?_
  refine ⟨true, missing_is (by kernel_rfl), ?_⟩
  refine G ?_
  refine ⟨386, pt bx k, fun w => by kernel_rfl, ?_⟩
  refine G ?_
  refine Cx [1000,1001] ?_
  refine annUnm_law hk hrd hx hv hl hen hh hdr' fun I1 m me hi1 hm hr => ?_
  refine G ?_
  refine L0 ?_
  exact h I1 m me hi1 hm hr
end ya
theorem bit_eq (t : Bool) : (bit t == 1) = t := by cases t <;> rfl
theorem enc_bit {t : Bool} {e : List UInt8} (he : Enc (vNum 1 (bit t)) e) : BoolE t e := by
 generalize hn : bit t = n at he
 cases he with
 | sc hs => cases hs with
  | bool h => subst hn; rw [bit_eq] at h; exact h
def recF (b : Nat) : List (Value × Value) := [(.iface 116 (pt b 0), .func (.func 254) #[] #[]), (.iface 218 (pt b 1), .func (.func 255) #[] #[])]
def recS (n o : Nat) (i : Nat) (cs : List Value) (_ : Imm) : Prop := cs = [if 1 ≤ i then .int .u32 (n : Nat) else .int .u32 0, if 2 ≤ i then .int .u64 (o : Nat) else .int .u64 0]
def modF (b : Nat) : List (Value × Value) := [(.iface 65 (pt b 0), .nilFunc), (.iface 65 (pt b 1), .nilFunc), (.iface 458 (pt b 2), .nilFunc)]
def modS (fa el : Bool) (an : List V) (i : Nat) (cs : List Value) (J : Imm) : Prop := ∃ mv, cs = [if 1 ≤ i then .bool fa else .bool false, if 2 ≤ i then .bool el else .bool false, mv] ∧ if 3 ≤ i then AnnV J an mv else mv = .map none
section yb
variable {I : Imm} {br bx k : Nat} {bs : List UInt8} {v : Value} {off : Nat} {cs : List Value} {e r : List UInt8} {Q : Qt}
theorem rec_flds {n o : Nat} : Flds br bx bs v (recF bx) [vNum 4 n, vNum 5 o] (recS n o) := {
 mono := fun _ h => h
 form := by
  intro p hp
  simp only [recF, List.mem_cons, List.not_mem_nil, or_false] at hp
  rcases hp with rfl | rfl <;> exact ⟨⟨_, _, rfl⟩, .inr ⟨_, _, _, rfl⟩⟩
 field := by
  rintro i p y J cs off e r Q hp hk hy rfl hv he hd h
  match i, hp, hk with
  | 0, hp, hk =>
   simp only [recF, List.getElem?_cons_zero, Option.some.injEq] at hp hk
   subst hp hk
   have hz := enc_first he hy
   cases he with
   | sc hs => cases hs with
    | uint hu => exact unm_u32 (show 0 < 2 by decide) hv hz hu hd fun hr => h J _ (.refl J) rfl
  | 1, hp, hk =>
   simp only [recF, List.getElem?_cons_succ, List.getElem?_cons_zero, Option.some.injEq] at hp hk
   subst hp hk
   have hz := enc_first he hy
   cases he with
   | sc hs => cases hs with
    | ulong hu => exact unm_u64 (show 1 < 2 by decide) hv hz hu hd fun hr => h J _ (.refl J) rfl
  | i + 2, hp, hk => simp [recF] at hp
 null := by
  rintro i p J cs hp hk rfl
  match i, hp, hk with
  | 0, hp, hk => exact absurd (hk _ rfl) (by simp [vNum, V.kind])
  | 1, hp, hk => exact absurd (hk _ rfl) (by simp [vNum, V.kind])
  | i + 2, hp, hk => simp [recF] at hp }
theorem received_law {n o : Nat} {w : Int} (hv : BufAt I bs v) (he : Enc (.mk 21 0 [] [vNum 4 n, vNum 5 o] w [vNum 5 35]) e) (hdr : bs.drop off = e ++ r)
  (h : ∀ I', I.le I' → bs.drop (off + e.length) = r → Q .nilIface [bufC v (off + e.length), [.int .u32 (n : Nat), .int .u64 (o : Nat)]] [] I') :
  WP Tryz.prog 233 #[pt bx 0, ptr br] [(br, bufC v off), (bx, [.int .u32 0, .int .u64 0])] [] I Q := by
 refine lw K233 [(1,1000)] _ Tryz.func233 ?_
 refine G ?_
 refine ⟨[0,1,2,3,4,5,6,7,8,9,10,11,12,13], [1000,1001], [], [], by kernel_rfl, ?_⟩
 refine G ?_
 refine .inl fun bl I1 hi1 hce => ?_
 refine G ?_
 refine .inr ?_
 refine G ?_
 refine UnmarshalComposite_law (rec_flds (n := n) (o := o)) (row_lit (css := [[.iface 116 (pt bx 0), .func (.func 254) #[] #[]], [.iface 218 (pt bx 1), .func (.func 255) #[] #[]]]) hce rfl (show 2 < 1099511627776 by decide) rfl (rowsC ⟨rfl, rfl⟩ (rowsC ⟨rfl, rfl⟩ rows0))) (hv.mono hi1) (show (35 : Nat) < 256 by decide) (show 2 ≤ 2 from Nat.le_refl _) he hdr rfl fun I2 cs2 hi2 hS hr => ?_
 refine G ?_
 refine L0 ?_
 obtain rfl : cs2 = _ := hS
 exact h I2 (hi1.trans hi2) hr
theorem mod_flds {fa el : Bool} {an : List V} (hm : MapRd an) : Flds br bx bs v (modF bx) [vNum 1 (bit fa), vNum 1 (bit el), (mapFieldV an).1] (modS fa el an) := {
 mono := by
  rintro i cs I J hi ⟨mv, rfl, h⟩
  refine ⟨mv, rfl, ?_⟩
  split
  ·rename_i h3; rw [if_pos h3] at h; exact h.mono hi
  ·rename_i h3; rw [if_neg h3] at h; exact h
 form := by
  intro p hp
  simp only [modF, List.mem_cons, List.not_mem_nil, or_false] at hp
  rcases hp with rfl | rfl | rfl <;> exact ⟨⟨_, _, rfl⟩, .inl rfl⟩
 field := by
  rintro i p y J cs off e r Q hp hk hy ⟨mv, rfl, hmv⟩ hv he hd h
  match i, hp, hk with
  | 0, hp, hk =>
   simp only [modF, List.getElem?_cons_zero, Option.some.injEq] at hp hk
   subst hp hk
   exact unm_bool (show 0 < 3 by decide) hv (enc_first he hy) (enc_bit he) hd fun hr => h J _ (.refl J) ⟨mv, rfl, hmv⟩
  | 1, hp, hk =>
   simp only [modF, List.getElem?_cons_succ, List.getElem?_cons_zero, Option.some.injEq] at hp hk
   subst hp hk
   exact unm_bool (show 1 < 3 by decide) hv (enc_first he hy) (enc_bit he) hd fun hr => h J _ (.refl J) ⟨mv, rfl, hmv⟩
  | 2, hp, hk =>
   simp only [modF, List.getElem?_cons_succ, List.getElem?_cons_zero, Option.some.injEq] at hp hk
   subst hp hk
   unfold mapFieldV at he hy
   split at he
   ·rename_i h0; rw [if_pos h0] at hy; exact absurd rfl hy
   ·rename_i h0
    have ht := hm.txt h0
    refine unm_ann (show 2 < 3 by decide) (fun i y hy => ?_) ht.kv hv (enc_first he (by simp [V.kind])) he hd fun I1 m me hi1 hm1 hr => ?_
    ·rcases Nat.mod_two_eq_zero_or_one i with h0 | h1
     ·obtain ⟨k, t, o, rfl, hs, _⟩ := ht.key i y h0 hy
      exact ReadAny_law (.sc hs)
     ·exact ReadAny_law (hm.rv i y h1 hy)
    ·exact h I1 _ hi1 ⟨_, rfl, .inr ⟨m, me, rfl, hm1⟩⟩
  | i + 3, hp, hk => simp [modF] at hp
 null := by
  rintro i p J cs hp hk ⟨mv, rfl, hmv⟩
  match i, hp, hk with
  | 0, hp, hk => exact absurd (hk _ rfl) (by simp [vNum, V.kind])
  | 1, hp, hk => exact absurd (hk _ rfl) (by simp [vNum, V.kind])
  | 2, hp, hk =>
   simp only [modF, List.getElem?_cons_succ, List.getElem?_cons_zero, Option.some.injEq] at hp
   subst hp
   have h0 := hk _ rfl
   unfold mapFieldV at h0
   split at h0
   ·rename_i h1
    exact .inl ⟨rfl, mv, rfl, .inl ⟨h1, hmv⟩⟩
   ·simp [V.kind] at h0
  | i + 3, hp, hk => simp [modF] at hp }
theorem modified_law {fa el : Bool} {an : List V} {w : Int} (hm : MapRd an) (hv : BufAt I bs v) (he : Enc (.mk 21 0 [] [vNum 1 (bit fa), vNum 1 (bit el), (mapFieldV an).1] w [vNum 5 39]) e) (hdr : bs.drop off = e ++ r)
  (h : ∀ I' mv, I.le I' → AnnV I' an mv → bs.drop (off + e.length) = r → Q .nilIface [bufC v (off + e.length), [.bool fa, .bool el, mv]] [] I') :
  WP Tryz.prog 232 #[pt bx 0, ptr br] [(br, bufC v off), (bx, [.bool false, .bool false, .map none])] [] I Q := by
 refine lw K232 [(1,1000)] _ Tryz.func232 ?_
 refine G ?_
 refine ⟨[0,1,2,3,4,5,6,7,8,9,10,11,12,13,14,15,16,17,18], [1000,1001], [], [], by kernel_rfl, ?_⟩
 refine G ?_
 refine .inl fun bl I1 hi1 hce => ?_
 refine G ?_
 refine .inr ?_
 refine G ?_
 refine UnmarshalComposite_law (mod_flds (fa := fa) (el := el) hm) (row_lit (css := [[.iface 65 (pt bx 0), .nilFunc], [.iface 65 (pt bx 1), .nilFunc], [.iface 458 (pt bx 2), .nilFunc]]) hce rfl (show 3 < 1099511627776 by decide) rfl (rowsC ⟨rfl, rfl⟩ (rowsC ⟨rfl, rfl⟩ (rowsC ⟨rfl, rfl⟩ rows0)))) (hv.mono hi1) (show (39 : Nat) < 256 by decide) (show 3 ≤ 3 from Nat.le_refl _) he hdr ⟨_, rfl, rfl⟩ fun I2 cs2 hi2 hS hr => ?_
 refine G ?_
 refine L0 ?_
 obtain ⟨mv, rfl, hmv⟩ := hS
 exact h I2 mv (hi1.trans hi2) hmv hr
theorem none_flds : Flds br bx bs v [] [] (fun _ cs _ => cs = []) := {
 mono := fun _ h => h
 form := by intro p hp; cases hp
 field := by rintro i p y J cs off e r Q hp; simp at hp
 null := by rintro i p J cs hp; simp at hp }
theorem accepted_law {w : Int} (hv : BufAt I bs v) (he : Enc (.mk 21 0 [] [] w [vNum 5 36]) e) (hdr : bs.drop off = e ++ r)
  (h : ∀ I', I.le I' → bs.drop (off + e.length) = r → Q .nilIface [bufC v (off + e.length), []] [] I') :
  WP Tryz.prog 231 #[pt bx 0, ptr br] [(br, bufC v off), (bx, [])] [] I Q := by
 refine lw K231 [(1,1000)] _ Tryz.func231 ?_
 refine G ?_
 refine Cx [1000,1001] ?_
 refine UnmarshalComposite_law none_flds Row.nil hv (show (36 : Nat) < 256 by decide) (Nat.le_refl _) he hdr rfl fun I2 cs2 hi2 hS hr => ?_
 obtain rfl : cs2 = [] := hS
 refine G ?_
 refine L0 ?_
 exact h I2 hi2 hr
theorem released_law {w : Int} (hv : BufAt I bs v) (he : Enc (.mk 21 0 [] [] w [vNum 5 38]) e) (hdr : bs.drop off = e ++ r)
  (h : ∀ I', I.le I' → bs.drop (off + e.length) = r → Q .nilIface [bufC v (off + e.length), []] [] I') :
  WP Tryz.prog 235 #[pt bx 0, ptr br] [(br, bufC v off), (bx, [])] [] I Q := by
 refine lw K235 [(1,1000)] _ Tryz.func235 ?_
 refine G ?_
 refine Cx [1000,1001] ?_
 refine UnmarshalComposite_law none_flds Row.nil hv (show (38 : Nat) < 256 by decide) (Nat.le_refl _) he hdr rfl fun I2 cs2 hi2 hS hr => ?_
 obtain rfl : cs2 = [] := hS
 refine G ?_
 refine L0 ?_
 exact h I2 hi2 hr
theorem unm_received {n o : Nat} {w : Int} (hv : BufAt I bs v) (hz : ∃ z zt, e = z :: zt ∧ z ≠ 0x40) (he : Enc (.mk 21 0 [] [vNum 4 n, vNum 5 o] w [vNum 5 35]) e) (hdr : bs.drop off = e ++ r)
  (h : ∀ I', I.le I' → bs.drop (off + e.length) = r → Q .nilIface [bufC v (off + e.length), [.int .u32 (n : Nat), .int .u64 (o : Nat)]] [] I') :
  WP Tryz.prog 84 #[ptr br, .iface 295 (pt bx 0)] [(br, bufC v off), (bx, [.int .u32 0, .int .u64 0])] [] I Q := by
 obtain ⟨z, zt, hz1, hz2⟩ := hz
 have hoff := drop_le (y := z) (r := zt ++ r) (hdr.trans (by rw [hz1]; rfl))
 refine lw K84 [(0,1000)] _ Tryz.func84 ?_
 refine G ?_
 refine Cx [1000] ?_
 refine tryReadNull_law hv (Nat.le_of_lt hoff) hdr (fun z' r' hz => by rw [hz1] at hz; cases hz; exact hz2) ?_
 refine G ?_
 refine ⟨true, missing_is (by kernel_rfl), ?_⟩
 refine G ?_
 refine ⟨233, pt bx 0, fun w => by kernel_rfl, ?_⟩
 refine G ?_
 refine Cx [1000,1001] ?_
 refine received_law hv he hdr fun I1 hi1 hr => ?_
 refine G ?_
 refine L0 ?_
 exact h I1 hi1 hr
theorem unm_modified {fa el : Bool} {an : List V} {w : Int} (hm : MapRd an) (hv : BufAt I bs v) (hz : ∃ z zt, e = z :: zt ∧ z ≠ 0x40) (he : Enc (.mk 21 0 [] [vNum 1 (bit fa), vNum 1 (bit el), (mapFieldV an).1] w [vNum 5 39]) e) (hdr : bs.drop off = e ++ r)
  (h : ∀ I' mv, I.le I' → AnnV I' an mv → bs.drop (off + e.length) = r → Q .nilIface [bufC v (off + e.length), [.bool fa, .bool el, mv]] [] I') :
  WP Tryz.prog 84 #[ptr br, .iface 290 (pt bx 0)] [(br, bufC v off), (bx, [.bool false, .bool false, .map none])] [] I Q := by
 obtain ⟨z, zt, hz1, hz2⟩ := hz
 have hoff := drop_le (y := z) (r := zt ++ r) (hdr.trans (by rw [hz1]; rfl))
 refine lw K84 [(0,1000)] _ Tryz.func84 ?_
 refine G ?_
 refine Cx [1000] ?_
 refine tryReadNull_law hv (Nat.le_of_lt hoff) hdr (fun z' r' hz => by rw [hz1] at hz; cases hz; exact hz2) ?_
 refine G ?_
 refine ⟨true, missing_is (by kernel_rfl), ?_⟩
 refine G ?_
 refine ⟨232, pt bx 0, fun w => by kernel_rfl, ?_⟩
 refine G ?_
 refine Cx [1000,1001] ?_
 refine modified_law hm hv he hdr fun I1 mv hi1 hmv hr => ?_
 refine G ?_
 refine L0 ?_
 exact h I1 mv hi1 hmv hr
theorem unm_rejected {l : List Fault} {kids : List V} (hl : ∀ f ∈ l, FaultRd f) (hk : kids = [(faultsV l).1]) (hv : BufAt I bs v) (hz : ∃ z zt, e = z :: zt ∧ z ≠ 0x40) (he : Enc (.mk 21 0 [] kids 0 [vNum 5 37]) e) (hdr : bs.drop off = e ++ r)
  (h : ∀ I' x, I.le I' → ErrsAt I' l x → bs.drop (off + e.length) = r → Q .nilIface [bufC v (off + e.length), [x]] [] I') :
  WP Tryz.prog 84 #[ptr br, .iface 298 (pt bx 0)] [(br, bufC v off), (bx, [.pointer none])] [] I Q := by
 obtain ⟨z, zt, hz1, hz2⟩ := hz
 have hoff := drop_le (y := z) (r := zt ++ r) (hdr.trans (by rw [hz1]; rfl))
 refine lw K84 [(0,1000)] _ Tryz.func84 ?_
 refine G ?_
 refine Cx [1000] ?_
 refine tryReadNull_law hv (Nat.le_of_lt hoff) hdr (fun z' r' hz => by rw [hz1] at hz; cases hz; exact hz2) ?_
 refine G ?_
 refine ⟨true, missing_is (by kernel_rfl), ?_⟩
 refine G ?_
 refine ⟨234, pt bx 0, fun w => by kernel_rfl, ?_⟩
 refine G ?_
 refine Cx [1000,1001] ?_
 refine rejected_law hl hk hv he hdr fun I1 x hi1 hx hr => ?_
 refine G ?_
 refine L0 ?_
 exact h I1 x hi1 hx hr
theorem unm_accepted {w : Int} (hv : BufAt I bs v) (hz : ∃ z zt, e = z :: zt ∧ z ≠ 0x40) (he : Enc (.mk 21 0 [] [] w [vNum 5 36]) e) (hdr : bs.drop off = e ++ r)
  (h : ∀ I', I.le I' → bs.drop (off + e.length) = r → Q .nilIface [bufC v (off + e.length), []] [] I') :
  WP Tryz.prog 84 #[ptr br, .iface 287 (pt bx 0)] [(br, bufC v off), (bx, [])] [] I Q := by
 obtain ⟨z, zt, hz1, hz2⟩ := hz
 have hoff := drop_le (y := z) (r := zt ++ r) (hdr.trans (by rw [hz1]; rfl))
 refine lw K84 [(0,1000)] _ Tryz.func84 ?_
 refine G ?_
 refine Cx [1000] ?_
 refine tryReadNull_law hv (Nat.le_of_lt hoff) hdr (fun z' r' hz => by rw [hz1] at hz; cases hz; exact hz2) ?_
 refine G ?_
 refine ⟨true, missing_is (by kernel_rfl), ?_⟩
 refine G ?_
 refine ⟨231, pt bx 0, fun w => by kernel_rfl, ?_⟩
 refine G ?_
 refine Cx [1000,1001] ?_
 refine accepted_law hv he hdr fun I1 hi1 hr => ?_
 refine G ?_
 refine L0 ?_
 exact h I1 hi1 hr
theorem unm_released {w : Int} (hv : BufAt I bs v) (hz : ∃ z zt, e = z :: zt ∧ z ≠ 0x40) (he : Enc (.mk 21 0 [] [] w [vNum 5 38]) e) (hdr : bs.drop off = e ++ r)
  (h : ∀ I', I.le I' → bs.drop (off + e.length) = r → Q .nilIface [bufC v (off + e.length), []] [] I') :
  WP Tryz.prog 84 #[ptr br, .iface 300 (pt bx 0)] [(br, bufC v off), (bx, [])] [] I Q := by
 obtain ⟨z, zt, hz1, hz2⟩ := hz
 have hoff := drop_le (y := z) (r := zt ++ r) (hdr.trans (by rw [hz1]; rfl))
 refine lw K84 [(0,1000)] _ Tryz.func84 ?_
 refine G ?_
 refine Cx [1000] ?_
 refine tryReadNull_law hv (Nat.le_of_lt hoff) hdr (fun z' r' hz => by rw [hz1] at hz; cases hz; exact hz2) ?_
 refine G ?_
 refine ⟨true, missing_is (by kernel_rfl), ?_⟩
 refine G ?_
 refine ⟨235, pt bx 0, fun w => by kernel_rfl, ?_⟩
 refine G ?_
 refine Cx [1000,1001] ?_
 refine released_law hv he hdr fun I1 hi1 hr => ?_
 refine G ?_
 refine L0 ?_
 exact h I1 hi1 hr
end yb
theorem splice_at {cs : List Value} {k : Nat} {x : Value} (hk : k < cs.length) : ∀ j y, [x][j]? = some y → (splice cs k [x])[k + j]? = some y := fun j y h => by
 cases j with
 | zero =>
  rw [splice_set hk, Nat.add_zero, List.getElem?_set_self hk]
  exact h
 | succ j => simp at h
theorem enc_comp {ks : List V} {o : Int} {c : Nat} {e : List UInt8} (he : Enc (.mk 21 0 [] ks o [vNum 5 c]) e) : ∃ ed t, e = 0 :: (ed ++ t) ∧ UlongE c ed := by
 cases he with
 | comp hc hl h hh => exact ⟨_, _, rfl, hc⟩
inductive StateAt (I : Imm) (s : StateD) : Value → Prop where
 | rcv {b : Nat} (hc : s.code = 35) (h : CellsAt I b 0 [.int .u32 (s.number : Nat), .int .u64 (s.offset : Nat)]) : StateAt I s (.iface 295 (pt b 0))
 | acc {b : Nat} (hc : s.code = 36) : StateAt I s (.iface 287 (pt b 0))
 | rej {b : Nat} {x : Value} (hc : s.code = 37) (h : CellsAt I b 0 [x]) (hx : ErrsAt I s.faults x) : StateAt I s (.iface 298 (pt b 0))
 | rel {b : Nat} (hc : s.code = 38) : StateAt I s (.iface 300 (pt b 0))
 | mod {b : Nat} {mv : Value} (hc : s.code = 39) (h : CellsAt I b 0 [.bool s.failed, .bool s.elsewhere, mv]) (hm : AnnV I s.ann mv) : StateAt I s (.iface 290 (pt b 0))
theorem StateAt.mono {I J : Imm} (hi : I.le J) {s : StateD} {x : Value} (h : StateAt I s x) : StateAt J s x := by
 cases h with
 | rcv hc h => exact .rcv hc (h.mono hi)
 | acc hc => exact .acc hc
 | rej hc h hx => exact .rej hc (h.mono hi) (hx.mono hi)
 | rel hc => exact .rel hc
 | mod hc h hm => exact .mod hc (h.mono hi) (hm.mono hi)
def StatesAt (I : Imm) (l : List StateD) (x : Value) : Prop := (l = [] ∧ x = .nilIface) ∨ ∃ s t, l = s :: t ∧ StateAt I s x
theorem StatesAt.mono {I J : Imm} (hi : I.le J) {l : List StateD} {x : Value} (h : StatesAt I l x) : StatesAt J l x := by
 rcases h with h | ⟨f, t, e, h⟩
 ·exact .inl h
 ·exact .inr ⟨f, t, e, h.mono hi⟩
def LastAt (I : Imm) (l : List Nat) (x : Value) : Prop := (l = [] ∧ x = .pointer none) ∨ ∃ n t, l = n :: t ∧ NumAt I n x
theorem LastAt.mono {I J : Imm} (hi : I.le J) {l : List Nat} {x : Value} (h : LastAt I l x) : LastAt J l x := by
 rcases h with h | ⟨n, t, e, b, e2, h⟩
 ·exact .inl h
 ·exact .inr ⟨n, t, e, b, e2, h.mono hi⟩
section yc
variable {I : Imm} {br bx k : Nat} {bs : List UInt8} {v : Value} {off : Nat} {cs : List Value} {e r : List UInt8} {Q : Qt}
theorem unm_state {s : StateD} (hs : StateRd s) (hk : k < cs.length) (hv : BufAt I bs v) (he : Enc (whole (stateOf s)) e) (hdr : bs.drop off = e ++ r)
  (h : ∀ I' x, I.le I' → StateAt I' s x → bs.drop (off + e.length) = r → Q .nilIface [bufC v (off + e.length), splice cs k [x]] [] I') : WP Tryz.prog 84 #[ptr br, .iface 171 (pt bx k)] [(br, bufC v off), (bx, cs)] [] I Q := by
 obtain ⟨hc, hn, ho, hfr, har⟩ := hs
 obtain ⟨c, n, o, fs, fa, el, an⟩ := s
 simp only at hc hn ho hfr har
 rcases hc with rfl | rfl | rfl | rfl | rfl
 ·replace he : Enc (.mk 21 0 [] [vNum 4 n, vNum 5 o] 0 [vNum 5 35]) e := he
  have hz := enc_first he (by simp [V.kind])
  obtain ⟨ed, t, hee, hul⟩ := enc_comp he
  obtain ⟨z, zt, hz1, hz2⟩ := hz
  have hz : ∃ z zt, e = z :: zt ∧ z ≠ 0x40 := ⟨z, zt, hz1, hz2⟩
  have hoff := drop_le (y := z) (r := zt ++ r) (hdr.trans (by rw [hz1]; rfl))
  have hdr2 : bs.drop off = 0 :: (ed ++ (t ++ r)) := by rw [hdr, hee]; simp
  have hdl : (bs.drop off).length < 1099511627776 := by rw [List.length_drop]; have := hv.small; omega
  refine lw K84 [(0,1000)] _ Tryz.func84 ?_
  refine G ?_
  refine Cx [1000] ?_
  refine tryReadNull_law hv (Nat.le_of_lt hoff) hdr (fun z' r' hz => by rw [hz1] at hz; cases hz; exact hz2) ?_
  refine G ?_
  refine Cx [1000] ?_
  refine Bytes_law hv (Nat.le_of_lt hoff) fun sv hsv => ?_
  rw [hdr2] at hsv hdl
  have hsv' := hsv
  obtain ⟨sb, sc, rfl⟩ := bytes_form hsv
  refine G ?_
  refine Cx [] ?_
  refine peek_law hul (by decide) (by decide) hsv' hdl fun m => ?_
  refine G ?_
  intro bb
  refine G ?_
  refine .loc 1001 cs rfl hk ?_
  refine G ?_
  refine ⟨.iface 295 (pt bb 0), .loc 1001 _ rfl (splice_at hk), ?_⟩
  refine G ?_
  refine Cx [1000,476] ?_
  refine unm_received hv hz he hdr fun I1 hi1 hr => ?_
  refine G ?_
  refine ⟨⟨[], [], [476], [], ?_⟩⟩
  intro I2 hi2 hce
  conv => whnf
  exact h I2 _ (hi1.trans hi2) (.rcv rfl hce) hr
 ·replace he : Enc (.mk 21 0 [] [] 0 [vNum 5 36]) e := he
  have hz := enc_first he (by simp [V.kind])
  obtain ⟨ed, t, hee, hul⟩ := enc_comp he
  obtain ⟨z, zt, hz1, hz2⟩ := hz
  have hz : ∃ z zt, e = z :: zt ∧ z ≠ 0x40 := ⟨z, zt, hz1, hz2⟩
  have hoff := drop_le (y := z) (r := zt ++ r) (hdr.trans (by rw [hz1]; rfl))
  have hdr2 : bs.drop off = 0 :: (ed ++ (t ++ r)) := by rw [hdr, hee]; simp
  have hdl : (bs.drop off).length < 1099511627776 := by rw [List.length_drop]; have := hv.small; omega
  refine lw K84 [(0,1000)] _ Tryz.func84 ?_
  refine G ?_
  refine Cx [1000] ?_
  refine tryReadNull_law hv (Nat.le_of_lt hoff) hdr (fun z' r' hz => by rw [hz1] at hz; cases hz; exact hz2) ?_
  refine G ?_
  refine Cx [1000] ?_
  refine Bytes_law hv (Nat.le_of_lt hoff) fun sv hsv => ?_
  rw [hdr2] at hsv hdl
  have hsv' := hsv
  obtain ⟨sb, sc, rfl⟩ := bytes_form hsv
  refine G ?_
  refine Cx [] ?_
  refine peek_law hul (by decide) (by decide) hsv' hdl fun m => ?_
  refine G ?_
  intro bb
  refine G ?_
  refine .loc 1001 cs rfl hk ?_
  refine G ?_
  refine ⟨.iface 287 (pt bb 0), .loc 1001 _ rfl (splice_at hk), ?_⟩
  refine G ?_
  refine Cx [1000,464] ?_
  refine unm_accepted hv hz he hdr fun I1 hi1 hr => ?_
  refine G ?_
  refine L0 ?_
  exact h I1 _ hi1 (.acc rfl) hr
 ·replace he : Enc (.mk 21 0 [] [(faultsV fs).1] 0 [vNum 5 37]) e := he
  have hz := enc_first he (by simp [V.kind])
  obtain ⟨ed, t, hee, hul⟩ := enc_comp he
  obtain ⟨z, zt, hz1, hz2⟩ := hz
  have hz : ∃ z zt, e = z :: zt ∧ z ≠ 0x40 := ⟨z, zt, hz1, hz2⟩
  have hoff := drop_le (y := z) (r := zt ++ r) (hdr.trans (by rw [hz1]; rfl))
  have hdr2 : bs.drop off = 0 :: (ed ++ (t ++ r)) := by rw [hdr, hee]; simp
  have hdl : (bs.drop off).length < 1099511627776 := by rw [List.length_drop]; have := hv.small; omega
  refine lw K84 [(0,1000)] _ Tryz.func84 ?_
  refine G ?_
  refine Cx [1000] ?_
  refine tryReadNull_law hv (Nat.le_of_lt hoff) hdr (fun z' r' hz => by rw [hz1] at hz; cases hz; exact hz2) ?_
  refine G ?_
  refine Cx [1000] ?_
  refine Bytes_law hv (Nat.le_of_lt hoff) fun sv hsv => ?_
  rw [hdr2] at hsv hdl
  have hsv' := hsv
  obtain ⟨sb, sc, rfl⟩ := bytes_form hsv
  refine G ?_
  refine Cx [] ?_
  refine peek_law hul (by decide) (by decide) hsv' hdl fun m => ?_
  refine G ?_
  intro bb
  refine G ?_
  refine .loc 1001 cs rfl hk ?_
  refine G ?_
  refine ⟨.iface 298 (pt bb 0), .loc 1001 _ rfl (splice_at hk), ?_⟩
  refine G ?_
  refine Cx [1000,482] ?_
  refine unm_rejected (hfr rfl) rfl hv hz he hdr fun I1 x hi1 hx hr => ?_
  refine G ?_
  refine ⟨⟨[], [], [482], [], ?_⟩⟩
  intro I2 hi2 hce
  conv => whnf
  exact h I2 _ (hi1.trans hi2) (.rej rfl hce (hx.mono hi2)) hr
 ·replace he : Enc (.mk 21 0 [] [] 0 [vNum 5 38]) e := he
  have hz := enc_first he (by simp [V.kind])
  obtain ⟨ed, t, hee, hul⟩ := enc_comp he
  obtain ⟨z, zt, hz1, hz2⟩ := hz
  have hz : ∃ z zt, e = z :: zt ∧ z ≠ 0x40 := ⟨z, zt, hz1, hz2⟩
  have hoff := drop_le (y := z) (r := zt ++ r) (hdr.trans (by rw [hz1]; rfl))
  have hdr2 : bs.drop off = 0 :: (ed ++ (t ++ r)) := by rw [hdr, hee]; simp
  have hdl : (bs.drop off).length < 1099511627776 := by rw [List.length_drop]; have := hv.small; omega
  refine lw K84 [(0,1000)] _ Tryz.func84 ?_
  refine G ?_
  refine Cx [1000] ?_
  refine tryReadNull_law hv (Nat.le_of_lt hoff) hdr (fun z' r' hz => by rw [hz1] at hz; cases hz; exact hz2) ?_
  refine G ?_
  refine Cx [1000] ?_
  refine Bytes_law hv (Nat.le_of_lt hoff) fun sv hsv => ?_
  rw [hdr2] at hsv hdl
  have hsv' := hsv
  obtain ⟨sb, sc, rfl⟩ := bytes_form hsv
  refine G ?_
  refine Cx [] ?_
  refine peek_law hul (by decide) (by decide) hsv' hdl fun m => ?_
  refine G ?_
  intro bb
  refine G ?_
  refine .loc 1001 cs rfl hk ?_
  refine G ?_
  refine ⟨.iface 300 (pt bb 0), .loc 1001 _ rfl (splice_at hk), ?_⟩
  refine G ?_
  refine Cx [1000,488] ?_
  refine unm_released hv hz he hdr fun I1 hi1 hr => ?_
  refine G ?_
  refine L0 ?_
  exact h I1 _ hi1 (.rel rfl) hr
 ·replace he : Enc (.mk 21 0 [] [vNum 1 (bit fa), vNum 1 (bit el), (mapFieldV an).1] 0 [vNum 5 39]) e := he
  have hz := enc_first he (by simp [V.kind])
  obtain ⟨ed, t, hee, hul⟩ := enc_comp he
  obtain ⟨z, zt, hz1, hz2⟩ := hz
  have hz : ∃ z zt, e = z :: zt ∧ z ≠ 0x40 := ⟨z, zt, hz1, hz2⟩
  have hoff := drop_le (y := z) (r := zt ++ r) (hdr.trans (by rw [hz1]; rfl))
  have hdr2 : bs.drop off = 0 :: (ed ++ (t ++ r)) := by rw [hdr, hee]; simp
  have hdl : (bs.drop off).length < 1099511627776 := by rw [List.length_drop]; have := hv.small; omega
  refine lw K84 [(0,1000)] _ Tryz.func84 ?_
  refine G ?_
  refine Cx [1000] ?_
  refine tryReadNull_law hv (Nat.le_of_lt hoff) hdr (fun z' r' hz => by rw [hz1] at hz; cases hz; exact hz2) ?_
  refine G ?_
  refine Cx [1000] ?_
  refine Bytes_law hv (Nat.le_of_lt hoff) fun sv hsv => ?_
  rw [hdr2] at hsv hdl
  have hsv' := hsv
  obtain ⟨sb, sc, rfl⟩ := bytes_form hsv
  refine G ?_
  refine Cx [] ?_
  refine peek_law hul (by decide) (by decide) hsv' hdl fun m => ?_
  refine G ?_
  intro bb
  refine G ?_
  refine .loc 1001 cs rfl hk ?_
  refine G ?_
  refine ⟨.iface 290 (pt bb 0), .loc 1001 _ rfl (splice_at hk), ?_⟩
  refine G ?_
  refine Cx [1000,470] ?_
  refine unm_modified (har rfl) hv hz he hdr fun I1 mv hi1 hmv hr => ?_
  refine G ?_
  refine ⟨⟨[], [], [470], [], ?_⟩⟩
  intro I2 hi2 hce
  conv => whnf
  exact h I2 _ (hi1.trans hi2) (.mod rfl hce (hmv.mono hi2)) hr
end yc
def dispS (d : DispD) (i : Nat) (cs : List Value) (J : Imm) : Prop := ∃ x2 x4,
 cs = [if 1 ≤ i then .bool d.receiver else .bool false, if 2 ≤ i then .int .u32 (d.first : Nat) else .int .u32 0, x2, if 4 ≤ i then .bool d.settled else .bool false, x4, if 6 ≤ i then .bool d.batchable else .bool false] ∧
 (if 3 ≤ i then LastAt J d.last x2 else x2 = .pointer none) ∧ (if 5 ≤ i then StatesAt J d.state x4 else x4 = .nilIface)
def dispF (b : Nat) : List (Value × Value) := [(.iface 169 (pt b 0), .func (.func 76) #[] #[]), (.iface 116 (pt b 1), .func (.func 77) #[] #[]), (.iface 170 (pt b 2), .nilFunc), (.iface 65 (pt b 3), .nilFunc), (.iface 171 (pt b 4), .nilFunc), (.iface 65 (pt b 5), .nilFunc)]
theorem dispS_mono {d : DispD} {i : Nat} {cs : List Value} {I J : Imm} (hi : I.le J) (h : dispS d i cs I) : dispS d i cs J := by
 obtain ⟨x2, x4, e, q2, q4⟩ := h
 exact ⟨x2, x4, e, if_mono q2 (LastAt.mono hi), if_mono q4 (StatesAt.mono hi)⟩
theorem bit_zero {t : Bool} (h : bit t = 0) : t = false := by cases t <;> simp_all [bit]
section yd
variable {I : Imm} {br bx k : Nat} {bs : List UInt8} {v : Value} {off : Nat} {cs : List Value} {e r : List UInt8} {Q : Qt}
theorem disp_flds {d : DispD} {kids : List V} (ho : DispRd d) (hvar : Variant (dispOf d) kids) : Flds br bx bs v (dispF bx) kids (dispS d) := {
 mono := fun hi h => dispS_mono hi h
 form := by
  intro p hp
  simp only [dispF, List.mem_cons, List.not_mem_nil, or_false] at hp
  rcases hp with rfl | rfl | rfl | rfl | rfl | rfl
  all_goals first | exact ⟨⟨_, _, rfl⟩, .inl rfl⟩ | exact ⟨⟨_, _, rfl⟩, .inr ⟨_, _, _, rfl⟩⟩
 field := by
  rintro i p y J cs off e r Q hp hk hy ⟨x2, x4, rfl, q2, q4⟩ hv he hd h
  match i, hp, hk with
  | 0, hp, hk =>
   simp only [dispF, List.getElem?_cons_succ, List.getElem?_cons_zero, Option.some.injEq] at hp
   subst hp
   have hfv := (hvar.fld 0 _ y rfl hk).plain rfl (by simp [vNum, V.kind])
   rw [hfv] at he
   exact unm_role (show 0 < 6 by decide) hv (enc_first he (by simp [vNum, V.kind])) (enc_bit he) hd fun hr => h J _ (.refl J) ⟨x2, x4, rfl, q2, q4⟩
  | 1, hp, hk =>
   simp only [dispF, List.getElem?_cons_succ, List.getElem?_cons_zero, Option.some.injEq] at hp
   subst hp
   have hfv := (hvar.fld 1 _ y rfl hk).plain rfl (by simp [vNum, V.kind])
   rw [hfv] at he
   have hz := enc_first he (by simp [vNum, V.kind])
   cases he with
   | sc hs => cases hs with
    | uint hu => exact unm_u32 (show 1 < 6 by decide) hv hz hu hd fun hr => h J _ (.refl J) ⟨x2, x4, rfl, q2, q4⟩
  | 2, hp, hk =>
   simp only [dispF, List.getElem?_cons_succ, List.getElem?_cons_zero, Option.some.injEq] at hp
   subst hp
   have hfv := (hvar.fld 2 _ y rfl hk).plain (by show (maybeV 4 d.last).2.kind = 0; rw [maybeV_2]; rfl) (maybeV_kind (by decide) d.last)
   replace hfv : y = (maybeV 4 d.last).1 := hfv
   rw [hfv] at he hy
   match hl : d.last, he, hy with
   | [], he, hy => exact absurd rfl hy
   | n :: t, he, hy =>
    have hz := enc_first he hy
    replace he : Enc (vNum 4 n) e := he
    cases he with
    | sc hs => cases hs with
     | uint hu => exact unm_pu32 (show 2 < 6 by decide) hv hz hu hd fun I1 x hi1 hx hr => h I1 _ hi1 ⟨x, x4, rfl, .inr ⟨n, t, hl, hx⟩, q4⟩
  | 3, hp, hk =>
   simp only [dispF, List.getElem?_cons_succ, List.getElem?_cons_zero, Option.some.injEq] at hp
   subst hp
   rcases (hvar.fld 3 _ y rfl hk).num (by decide) with rfl | ⟨h0, _⟩
   ·exact unm_bool (show 3 < 6 by decide) hv (enc_first he hy) (enc_bit he) hd fun hr => h J _ (.refl J) ⟨x2, x4, rfl, q2, q4⟩
   ·exact absurd h0 hy
  | 4, hp, hk =>
   simp only [dispF, List.getElem?_cons_succ, List.getElem?_cons_zero, Option.some.injEq] at hp
   subst hp
   have hfv := (hvar.fld 4 _ y rfl hk).plain (by show (statesV d.state).2.kind = 0; rw [statesV_2]; rfl) (statesV_kind d.state)
   replace hfv : y = (statesV d.state).1 := hfv
   rw [hfv] at he hy
   match hl : d.state, he, hy with
   | [], he, hy => exact absurd rfl hy
   | s :: t, he, hy =>
    replace he : Enc (whole (stateOf s)) e := he
    exact unm_state (ho.state s (by rw [hl]; simp)) (show 4 < 6 by decide) hv he hd fun I1 x hi1 hx hr => h I1 _ hi1 ⟨x2, x, rfl, LastAt.mono hi1 q2, .inr ⟨s, t, hl, hx⟩⟩
  | 5, hp, hk =>
   simp only [dispF, List.getElem?_cons_succ, List.getElem?_cons_zero, Option.some.injEq] at hp
   subst hp
   rcases (hvar.fld 5 _ y rfl hk).num (by decide) with rfl | ⟨h0, _⟩
   ·exact unm_bool (show 5 < 6 by decide) hv (enc_first he hy) (enc_bit he) hd fun hr => h J _ (.refl J) ⟨x2, x4, rfl, q2, q4⟩
   ·exact absurd h0 hy
  | i + 6, hp, hk => simp [dispF] at hp
 null := by
  rintro i p J cs hp hk ⟨x2, x4, rfl, q2, q4⟩
  match i, hp, hk with
  | 0, hp, hk =>
   obtain ⟨y, hfv, h0⟩ := hvar.null (i := 0) rfl hk
   rw [hfv.plain rfl (by simp [vNum, V.kind])] at h0
   simp [vNum, V.kind] at h0
  | 1, hp, hk =>
   obtain ⟨y, hfv, h0⟩ := hvar.null (i := 1) rfl hk
   rw [hfv.plain rfl (by simp [vNum, V.kind])] at h0
   simp [vNum, V.kind] at h0
  | 2, hp, hk =>
   simp only [dispF, List.getElem?_cons_succ, List.getElem?_cons_zero, Option.some.injEq] at hp
   subst hp
   obtain ⟨y, hfv, h0⟩ := hvar.null (i := 2) rfl hk
   replace hfv : y = (maybeV 4 d.last).1 := hfv.plain (by show (maybeV 4 d.last).2.kind = 0; rw [maybeV_2]; rfl) (maybeV_kind (by decide) d.last)
   rw [hfv] at h0
   match hl : d.last, h0 with
   | [], _ => exact .inl ⟨rfl, x2, x4, rfl, .inl ⟨hl, q2⟩, q4⟩
   | n :: t, h0 => simp [maybeV, vNum, V.kind] at h0
  | 3, hp, hk =>
   simp only [dispF, List.getElem?_cons_succ, List.getElem?_cons_zero, Option.some.injEq] at hp
   subst hp
   obtain ⟨y, hfv, h0⟩ := hvar.null (i := 3) rfl hk
   rcases hfv.num (by decide) with rfl | ⟨_, h1⟩
   ·simp [vNum, V.kind] at h0
   ·exact .inl ⟨rfl, x2, x4, by rw [bit_zero h1]; rfl, q2, q4⟩
  | 4, hp, hk =>
   simp only [dispF, List.getElem?_cons_succ, List.getElem?_cons_zero, Option.some.injEq] at hp
   subst hp
   obtain ⟨y, hfv, h0⟩ := hvar.null (i := 4) rfl hk
   replace hfv : y = (statesV d.state).1 := hfv.plain (by show (statesV d.state).2.kind = 0; rw [statesV_2]; rfl) (statesV_kind d.state)
   rw [hfv] at h0
   match hl : d.state, h0 with
   | [], _ => exact .inl ⟨rfl, x2, x4, rfl, q2, .inl ⟨hl, q4⟩⟩
   | s :: t, h0 => simp [statesV, whole, V.kind] at h0
  | 5, hp, hk =>
   simp only [dispF, List.getElem?_cons_succ, List.getElem?_cons_zero, Option.some.injEq] at hp
   subst hp
   obtain ⟨y, hfv, h0⟩ := hvar.null (i := 5) rfl hk
   rcases hfv.num (by decide) with rfl | ⟨_, h1⟩
   ·simp [vNum, V.kind] at h0
   ·exact .inl ⟨rfl, x2, x4, by rw [bit_zero h1]; rfl, q2, q4⟩
  | i + 6, hp, hk => simp [dispF] at hp }
def disp0 : List Value := [.bool false, .int .u32 0, .pointer none, .bool false, .nilIface, .bool false]
theorem disp_law {d : DispD} {kids : List V} (ho : DispRd d) (hvar : Variant (dispOf d) kids) (hv : BufAt I bs v) (he : Enc (.mk 21 0 [] kids 0 [vNum 5 21]) e) (hdr : bs.drop off = e ++ r)
  (h : ∀ I' cs', I.le I' → dispS d 6 cs' I' → bs.drop (off + e.length) = r → Q .nilIface [bufC v (off + e.length), cs'] [] I') :
  WP Tryz.prog 50 #[pt bx 0, ptr br] [(br, bufC v off), (bx, disp0)] [] I Q := by
 have hlen : kids.length ≤ 6 := hvar.len
 refine lw K50 [(1,1000)] _ Tryz.func50 ?_
 refine G ?_
 refine ⟨[0,1,2,3,4,5,6,7,8,9,10,11,12,13,14,15,16,17,18,19,20,21,22,23,24,25,26,27,28,29,30,31,32,33], [1000,1001], [], [], by kernel_rfl, ?_⟩
 refine G ?_
 refine .inl fun bl I1 hi1 hce => ?_
 refine G ?_
 refine .inr ?_
 refine G ?_
 refine UnmarshalComposite_law (o := 0) (c := 21) (l := dispF bx) (kids := kids) (S := dispS d) (cs := disp0) (disp_flds ho hvar)
  (row_lit (css := [[.iface 169 (pt bx 0), .func (.func 76) #[] #[]], [.iface 116 (pt bx 1), .func (.func 77) #[] #[]], [.iface 170 (pt bx 2), .nilFunc], [.iface 65 (pt bx 3), .nilFunc], [.iface 171 (pt bx 4), .nilFunc], [.iface 65 (pt bx 5), .nilFunc]]) hce rfl (show 6 < 1099511627776 by decide) rfl
   (rowsC ⟨rfl, rfl⟩ (rowsC ⟨rfl, rfl⟩ (rowsC ⟨rfl, rfl⟩ (rowsC ⟨rfl, rfl⟩ (rowsC ⟨rfl, rfl⟩ (rowsC ⟨rfl, rfl⟩ rows0)))))))
  (hv.mono hi1) (show (21 : Nat) < 256 by decide) hlen he hdr ⟨_, _, rfl, rfl, rfl⟩ fun I2 cs2 hi2 hS hr => ?_
 refine G ?_
 refine L0 ?_
 exact h I2 cs2 (hi1.trans hi2) hS hr
theorem disp_cells {d : DispD} {cs : List Value} (h : dispS d 6 cs I) : ∃ x2 x4, cs = [.bool d.receiver, .int .u32 (d.first : Nat), x2, .bool d.settled, x4, .bool d.batchable] ∧ LastAt I d.last x2 ∧ StatesAt I d.state x4 := h
end yd
end Go.Proofs.YtcfglgelckjpmaaGreatDoor
