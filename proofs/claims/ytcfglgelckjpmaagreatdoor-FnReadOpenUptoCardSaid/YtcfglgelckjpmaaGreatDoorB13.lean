/- Own machinery, and laws of the functions that the statement reaches (part 13). -/
import Derived.Test.YtcfglgelckjpmaaGreatDoorB12
set_option linter.all false
namespace Go.Proofs.YtcfglgelckjpmaaGreatDoor
def Ang {α : Type} (B : (α → Prop) → Prop) : Prop := ∀ c, B c → ∃ x, c x ∧ ∀ c', c' x → B c'
theorem Ang.pt {α : Type} (x : α) : Ang (fun c : α → Prop => c x) := fun _ h => ⟨x, h, fun _ h => h⟩
theorem Ang.no {α : Type} : Ang (fun _ : α → Prop => False) := fun _ h => h.elim
theorem Ang.and {α : Type} {p : Prop} {B : (α → Prop) → Prop} (h : Ang B) : Ang (fun c => p ∧ B c) := fun c ⟨hp, hb⟩ => by
  obtain ⟨x, h1, h2⟩ := h c hb
  exact ⟨x, h1, fun c' hc => ⟨hp, h2 c' hc⟩⟩
theorem Ang.ex {α β : Type} {B : β → (α → Prop) → Prop} (h : ∀ b, Ang (B b)) : Ang (fun c => ∃ b, B b c) := fun c ⟨b, hb⟩ => by
  obtain ⟨x, h1, h2⟩ := h b c hb
  exact ⟨x, h1, fun c' hc => ⟨b, h2 c' hc⟩⟩
theorem Ang.bind {α β : Type} {B : (β → Prop) → Prop} {C : β → (α → Prop) → Prop} (h : Ang B) (hc : ∀ b, Ang (C b)) : Ang (fun c => B fun b => C b c) := fun c hb => by
  obtain ⟨b, h1, h2⟩ := h _ hb
  obtain ⟨x, h3, h4⟩ := hc b _ h1
  exact ⟨x, h3, fun c' h' => h2 _ (h4 c' h')⟩
theorem Ang.all {α β : Type} {v : β} {B : β → (α → Prop) → Prop} (h : Ang (B v)) : Ang (fun c => ∀ b, b = v → B b c) := fun c hb => by
  obtain ⟨x, h1, h2⟩ := h c (hb v rfl)
  exact ⟨x, h1, fun c' hc b e => by subst e; exact h2 c' hc⟩
theorem takeAt_ang : ∀ {cs : List Value} {o n : Nat}, Ang (takeAt cs o n)
  | cs, 0, 0 => by cases cs <;> exact .pt _
  | x :: cs, 0, n + 1 => show Ang (fun c => takeAt cs 0 n fun r => c (x :: r)) from .bind (takeAt_ang (cs := cs) (o := 0) (n := n)) fun _ => .pt _
  | _ :: cs, o + 1, 0 => takeAt_ang (cs := cs) (o := o) (n := 0)
  | _ :: cs, o + 1, n + 1 => takeAt_ang (cs := cs) (o := o) (n := n + 1)
  | [], 0, n + 1 => .no
  | [], o + 1, 0 => .no
  | [], o + 1, n + 1 => .no
theorem cellAt_ang : ∀ {cs : List Value} {o : Nat}, Ang (cellAt cs o)
  | _ :: _, 0 => .pt _
  | _ :: cs, o + 1 => cellAt_ang (cs := cs) (o := o)
  | [], 0 => .no
  | [], _ + 1 => .no
theorem putAt_ang : ∀ {cs : List Value} {o : Nat} {xs : List Value}, Ang (putAt cs o xs)
  | cs, 0, [] => by cases cs <;> exact .pt _
  | _ :: cs, 0, x :: xs => show Ang (fun k => putAt cs 0 xs fun r => k (x :: r)) from .bind (putAt_ang (cs := cs) (o := 0) (xs := xs)) fun _ => .pt _
  | c :: cs, o + 1, [] => show Ang (fun k => putAt cs o [] fun r => k (c :: r)) from .bind (putAt_ang (cs := cs) (o := o) (xs := [])) fun _ => .pt _
  | c :: cs, o + 1, x :: xs => show Ang (fun k => putAt cs o (x :: xs) fun r => k (c :: r)) from .bind (putAt_ang (cs := cs) (o := o) (xs := x :: xs)) fun _ => .pt _
  | [], 0, _ :: _ => .no
  | [], _ + 1, [] => .no
  | [], _ + 1, _ :: _ => .no
section nodes
variable {P : Program} {TT : Nat → Option TI}
theorem places_ang : ∀ {fs : List Field}, Ang (places TT fs)
  | [] => .pt _
  | ⟨_, ft, fo, _, _, _, _⟩ :: fs => by
    simp only [places]
    cases TT ft with
    | none => exact .no
    | some i => exact .bind (places_ang (fs := fs)) fun _ => .pt _
theorem fillAt_ang {pl : List (Nat × Nat)} : ∀ {ps : List (Nat × Value)} {cs : List Value}, Ang (fillAt pl ps cs)
  | [], _ => .pt _
  | (i, v) :: r, cs => by
    simp only [fillAt]
    cases pl[i]? with
    | none => exact .no
    | some x =>
      obtain ⟨off, size⟩ := x
      simp only
      cases Nat.beq (vcells v).length size with
      | false => exact .no
      | true => exact .bind putAt_ang fun _ => fillAt_ang
theorem rowOf_ang {size : Nat} : ∀ {n : Nat} {ps : List (Nat × Value)}, Ang (rowOf size n ps)
  | _, [] => .pt _
  | n, (i, v) :: r => by
    simp only [rowOf]
    cases Nat.beq i n <;> cases Nat.beq (vcells v).length size <;> first | exact .no | exact .bind rowOf_ang fun _ => .pt _
theorem partK_ang {t : TypeId} {cs : List Value} {off : Nat} : Ang (partK TT t cs off) := by
  unfold partK
  cases TT t with
  | none => exact .no
  | some i =>
    simp only
    cases aggT i.d with
    | true => exact .bind takeAt_ang fun _ => .pt _
    | false => exact cellAt_ang
theorem decK_ang {p : Prop} {d : Decidable p} : Ang (decK d) := by
  cases d <;> exact .pt _
theorem intOp_ang {op : BinOp} {kd : IntKind} {a b : Int} : Ang (intOp op kd a b) := by
  unfold intOp
  cases op <;> first
    | exact .no
    | exact .ex fun _ => .and (.pt _)
    | exact .and (.ex fun _ => .and (.pt _))
    | exact .bind decK_ang fun _ => .pt _
theorem nilEq_ang {d : TypeDesc} {yc : Bool} {a b : Value} : Ang (nilEq d yc a b) := by
  intro c h
  unfold nilEq at h
  split at h
  · exact ⟨_, h, fun _ h => h⟩
  · exact ⟨_, h, fun _ h => h⟩
  · exact ⟨_, h, fun _ h => h⟩
  · split at h
    · exact ⟨_, h, fun _ h => h⟩
    · exact h.elim
  · exact ⟨_, h, fun _ h => h⟩
  · exact ⟨_, h, fun _ h => h⟩
  · exact h.elim
theorem plus0_ang {a b : Nat} : Ang (plus0 a b) := by
  intro c h
  unfold plus0 at h ⊢
  split at h
  · exact ⟨_, h, fun _ h => h⟩
  · rename_i h0
    exact ⟨_, h, fun c' h => by
      cases b with
      | zero => exact absurd rfl h0
      | succ b => exact h⟩
  · rename_i h0 h1
    refine ⟨_, h, fun c' h => ?_⟩
    cases b with
    | zero => exact absurd rfl h0
    | succ b => cases a with
      | zero => exact absurd rfl h1
      | succ a => exact h
def nBinB (TT : Nat → Option TI) (op : BinOp) (t : TypeId) (yc : Bool) (a b : Value) (k : SV → Prop) : Prop :=
  match a, b with
    | .int ka a, .int kb b => match op with
      | .shl => 0 ≤ b ∧ ∃ m, ka.wrap (a * 2 ^ (min b.toNat ka.bits)) = m ∧ k (.v (.int ka m))
      | .shr => 0 ≤ b ∧ ∃ m, a.fdiv (2 ^ (min b.toNat ka.bits)) = m ∧ k (.v (.int ka m))
      | op => match Nat.beq (kindNo ka) (kindNo kb) with
        | true => intOp op ka a b fun v => k (.v v)
        | false => False
    | .string a, .string b => match op with
      | .eql => decK (instDecidableEqList a.data.toList b.data.toList) fun t => k (.v (.bool t))
      | .neq => decK (instDecidableEqList a.data.toList b.data.toList) fun t => k (.v (.bool (!t)))
      | .lss => ∃ r, Op.bytesLess a.data.toList b.data.toList = r ∧ k (.v (.bool r))
      | _ => False
    | a, b => match TT t, op with
      | some i, .eql => nilEq i.d yc a b fun r => k (.v (.bool r))
      | some i, .neq => nilEq i.d yc a b fun r => k (.v (.bool (!r)))
      | _, _ => False
theorem nBinB_ang {op : BinOp} {t : TypeId} {yc : Bool} {a b : Value} : Ang (nBinB TT op t yc a b) := by
  unfold nBinB
  split
  · split
    · exact .and (.ex fun _ => .and (.pt _))
    · exact .and (.ex fun _ => .and (.pt _))
    · split
      · exact .bind intOp_ang fun _ => .pt _
      · exact .no
  · split
    · exact .bind decK_ang fun _ => .pt _
    · exact .bind decK_ang fun _ => .pt _
    · exact .ex fun _ => .and (.pt _)
    · exact .no
  · split
    · exact .bind nilEq_ang fun _ => .pt _
    · exact .bind nilEq_ang fun _ => .pt _
    · exact .no
structure Stb (ld : Bool) (cids : List Nat) (σ σ' : Mem) : Prop where
  lle : LLe σ.L σ'.L
  le : σ.I.le σ'.I
  row : ld = true → ∀ id lb, cids.any (Nat.beq id) = false → get σ.L id = some lb → get σ'.L id = some lb
theorem Stb.refl (ld : Bool) (cids : List Nat) (σ : Mem) : Stb ld cids σ σ := ⟨.refl _, .refl _, fun _ _ _ _ h => h⟩
theorem Stb.sameL {ld : Bool} {cids : List Nat} {σ σ' : Mem} (h : σ'.L = σ.L) (h2 : σ.I.le σ'.I) : Stb ld cids σ σ' := ⟨by rw [h]; exact .refl _, h2, fun _ _ _ _ e => by rw [h]; exact e⟩
def Env := Operand → Option SV
def QS (R : Mem → Mem → Prop) (xs : List Operand) (F : (Operand → Option SV) → Mem → (SV → Mem → Prop) → Prop) : Prop :=
  ∀ ρ σ k, F ρ σ k → ∃ sv, k sv σ ∧ ∀ ρ' σ' k', (∀ x ∈ xs, ρ' x = ρ x) → R σ σ' → k' sv σ' → F ρ' σ' k'
theorem val_q {ρ : Operand → Option SV} {σ : Mem} {x : Operand} {c : Value → Prop} (h : val ρ σ x c) : ∃ v, c v ∧ ∀ {ρ' : Operand → Option SV} {σ' : Mem} {c' : Value → Prop}, ρ' x = ρ x → LLe σ.L σ'.L → c' v → val ρ' σ' x c' := by
  unfold val at h
  split at h
  · rename_i sv e
    cases sv with
    | v y => exact ⟨y, h, fun {ρ' σ' c'} e' _ h' => by unfold val; rw [e', e]; exact h'⟩
    | loc id off =>
      simp only [tov] at h
      split at h
      · rename_i lb hl
        refine ⟨_, h, fun {ρ' σ' c'} e' hk h' => ?_⟩
        obtain ⟨cs, h2⟩ := hk.get _ _ hl
        unfold val
        rw [e', e]
        simp only [tov, h2]
        exact h'
      · exact h.elim
  · exact h.elim
theorem vals_q {ρ : Operand → Option SV} {σ : Mem} : ∀ {xs : List Operand} {c : List Value → Prop}, vals ρ σ xs c → ∃ vs, c vs ∧ ∀ {ρ' : Operand → Option SV} {σ' : Mem} {c' : List Value → Prop}, (∀ x ∈ xs, ρ' x = ρ x) → LLe σ.L σ'.L → c' vs → vals ρ' σ' xs c'
  | [], c, h => ⟨[], h, fun {ρ' σ' c'} _ _ h' => h'⟩
  | x :: xs, c, h => by
    simp only [vals] at h
    obtain ⟨v, h, hv⟩ := val_q h
    obtain ⟨vs, h, hvs⟩ := vals_q h
    exact ⟨v :: vs, h, fun {ρ' σ' c'} he hk h' => hv (he x (by simp)) hk (hvs (fun y hy => he y (by simp [hy])) hk h')⟩
theorem partVals_q {ρ : Operand → Option SV} {σ : Mem} : ∀ {xs : List (Nat × Operand)} {c : List (Nat × Value) → Prop}, partVals ρ σ xs c → ∃ vs, c vs ∧ ∀ {ρ' : Operand → Option SV} {σ' : Mem} {c' : List (Nat × Value) → Prop}, (∀ x ∈ xs.map (·.2), ρ' x = ρ x) → LLe σ.L σ'.L → c' vs → partVals ρ' σ' xs c'
  | [], c, h => ⟨[], h, fun {ρ' σ' c'} _ _ h' => h'⟩
  | (i, x) :: xs, c, h => by
    simp only [partVals] at h
    obtain ⟨v, h, hv⟩ := val_q h
    obtain ⟨vs, h, hvs⟩ := partVals_q h
    exact ⟨(i, v) :: vs, h, fun {ρ' σ' c'} he hk h' => hv (he x (by simp)) hk (hvs (fun y hy => he y (by simp only [List.map_cons, List.mem_cons]; exact .inr hy)) hk h')⟩
theorem optVal_q {ρ : Operand → Option SV} {σ : Mem} {x : Option Operand} {c : Option Value → Prop} (h : optVal ρ σ x c) : ∃ v, c v ∧ ∀ {ρ' : Operand → Option SV} {σ' : Mem} {c' : Option Value → Prop}, (∀ y ∈ x.toList, ρ' y = ρ y) → LLe σ.L σ'.L → c' v → optVal ρ' σ' x c' := by
  cases x with
  | none => exact ⟨none, h, fun {ρ' σ' c'} _ _ h' => h'⟩
  | some x =>
    obtain ⟨v, h, hv⟩ := val_q (c := fun v => c (some v)) h
    exact ⟨some v, h, fun {ρ' σ' c'} he hk h' => hv (he x (by simp)) hk h'⟩
variable {R : Mem → Mem → Prop}
theorem nMove_q {x : Operand} : QS R [x] (fun ρ σ k => nMove ρ σ k x) := by
  intro ρ σ k h
  unfold nMove at h
  split at h
  · rename_i sv e
    exact ⟨sv, h, fun ρ' σ' k' he _ h' => by show nMove ρ' σ' k' x; unfold nMove; rw [he x (by simp), e]; exact h'⟩
  · exact h.elim
theorem nPick_q (hR : ∀ {σ σ'}, R σ σ' → LLe σ.L σ'.L) {c a b : Operand} : QS R [c, a, b] (fun ρ σ k => nPick ρ σ k c a b) := by
  intro ρ σ k h
  obtain ⟨v, h, hv⟩ := val_q h
  split at h
  · obtain ⟨sv, h1, h2⟩ := nMove_q (R := R) _ _ _ h
    exact ⟨sv, h1, fun ρ' σ' k' he hr h' => hv (he c (by simp)) (hR hr) (h2 ρ' σ' k' (fun x hx => he x (by simp at hx; simp [hx])) hr h')⟩
  · obtain ⟨sv, h1, h2⟩ := nMove_q (R := R) _ _ _ h
    exact ⟨sv, h1, fun ρ' σ' k' he hr h' => hv (he c (by simp)) (hR hr) (h2 ρ' σ' k' (fun x hx => he x (by simp at hx; simp [hx])) hr h')⟩
  · exact h.elim
theorem nBin_q (hR : ∀ {σ σ'}, R σ σ' → LLe σ.L σ'.L) {op : BinOp} {t : TypeId} {x y : Operand} : QS R [x, y] (fun ρ σ k => nBin TT ρ σ k op t x y) := by
  intro ρ σ k h
  obtain ⟨a, h, ha⟩ := val_q h
  obtain ⟨b, h, hb⟩ := val_q h
  obtain ⟨sv, h1, h2⟩ := nBinB_ang (TT := TT) (op := op) (t := t) (yc := isConst y) (a := a) (b := b) (fun sv => k sv σ) h
  exact ⟨sv, h1, fun ρ' σ' k' he hr h' => ha (he x (by simp)) (hR hr) (hb (he y (by simp)) (hR hr) (h2 (fun sv => k' sv σ') h'))⟩
theorem nUn_q (hR : ∀ {σ σ'}, R σ σ' → LLe σ.L σ'.L) {op : UnOp} {x : Operand} : QS R [x] (fun ρ σ k => nUn ρ σ k op x) := by
  intro ρ σ k h
  obtain ⟨a, h, ha⟩ := val_q h
  split at h
  · exact ⟨_, h, fun ρ' σ' k' he hr h' => ha (he x (by simp)) (hR hr) h'⟩
  · obtain ⟨m, hm, h⟩ := h
    exact ⟨_, h, fun ρ' σ' k' he hr h' => ha (he x (by simp)) (hR hr) ⟨m, hm, h'⟩⟩
  · exact h.elim
theorem SlAt.mono {I J : Imm} (h : I.le J) {sz n : Nat} {cs : List Value} {v : Value} (hs : SlAt I sz n cs v) : SlAt J sz n cs v := by
  unfold SlAt at hs ⊢
  split at hs
  · exact ⟨hs.1, hs.2.1, hs.2.2.1, fun j x e => h.c (hs.2.2.2 j x e)⟩
  · exact hs
  · exact hs
  · exact hs.elim
theorem nConvB_q {I : Imm} {di dj : TypeDesc} {v : Value} {c : SV → Prop} (h : nConvB TT I di dj v c) : ∃ sv, c sv ∧ ∀ {J : Imm} {c' : SV → Prop}, I.le J → c' sv → nConvB TT J di dj v c' := by
  unfold nConvB at h
  split at h
  · obtain ⟨m, hm, h⟩ := h
    exact ⟨_, h, fun {J c'} _ h' => ⟨m, hm, h'⟩⟩
  · exact ⟨_, h, fun {J c'} _ h' => h'⟩
  · rename_i hn
    split at h
    · split at h
      · rename_i hu
        obtain ⟨bs, hb, h⟩ := h
        refine ⟨_, h, fun {J c'} hi h' => ?_⟩
        unfold nConvB
        split
        · contradiction
        · exact absurd rfl (hn _)
        · simp only [hu]; exact ⟨bs, SlAt.mono hi hb, h'⟩
        · rename_i h1 h2 h3; exact (h1 rfl).elim
      · exact h.elim
    · exact h.elim
  · exact h.elim
theorem nConvD_q (hR : ∀ {σ σ'}, R σ σ' → LLe σ.L σ'.L ∧ σ.I.le σ'.I) {s d : TypeId} {x : Operand} : QS R [x] (fun ρ σ k => nConvD TT ρ σ k s d x) := by
  intro ρ σ k h
  simp only [nConvD] at h ⊢
  split at h
  · obtain ⟨v, h, hv⟩ := val_q h
    obtain ⟨sv, h1, h2⟩ := nConvB_q h
    exact ⟨sv, h1, fun ρ' σ' k' he hr h' => hv (he x (by simp)) (hR hr).1 (h2 (hR hr).2 h')⟩
  · exact h.elim
theorem nIface_q (hR : ∀ {σ σ'}, R σ σ' → LLe σ.L σ'.L) {t : TypeId} {x : Operand} : QS R [x] (fun ρ σ k => nIface TT ρ σ k t x) := by
  intro ρ σ k h
  simp only [nIface] at h ⊢
  split at h
  · split at h
    · exact h.elim
    · obtain ⟨v, h, hv⟩ := val_q h
      exact ⟨_, h, fun ρ' σ' k' he hr h' => hv (he x (by simp)) (hR hr) h'⟩
  · exact h.elim
theorem nFunc_q (hR : ∀ {σ σ'}, R σ σ' → LLe σ.L σ'.L) {fn : Fn} {a b : Array Operand} : QS R (a ++ b).toList (fun ρ σ k => nFunc ρ σ k fn a b) := by
  intro ρ σ k h
  simp only [nFunc] at h ⊢
  obtain ⟨v, h, hv⟩ := vals_q h
  obtain ⟨u, h, hu⟩ := vals_q h
  exact ⟨_, h, fun ρ' σ' k' he hr h' => hv (fun x hx => he x (by simp at hx; simp [hx])) (hR hr) (hu (fun x hx => he x (by simp at hx; simp [hx])) (hR hr) h')⟩
theorem nNil_q {x : Operand} : QS R [x] (fun ρ σ k => nNil ρ σ k x) := by
  intro ρ σ k h
  simp only [nNil] at h ⊢
  split at h
  · rename_i e
    exact ⟨_, h, fun ρ' σ' k' he _ h' => by rw [he x (by simp), e]; exact h'⟩
  · rename_i e
    exact ⟨_, h, fun ρ' σ' k' he _ h' => by rw [he x (by simp), e]; exact h'⟩
  · exact h.elim
theorem nBuild_q (hR : ∀ {σ σ'}, R σ σ' → LLe σ.L σ'.L) {t : TypeId} {ps : Array (Nat × Operand)} : QS R (ps.toList.map (·.2)) (fun ρ σ k => nBuild TT ρ σ k t ps) := by
  intro ρ σ k h
  simp only [nBuild] at h ⊢
  split at h
  · split at h
    · obtain ⟨vs, h, hv⟩ := partVals_q h
      obtain ⟨sv, h1, h2⟩ := (Ang.bind (places_ang (TT := TT)) fun pl => .bind (fillAt_ang (pl := pl) (ps := vs)) fun cs => Ang.pt (SV.v (.agg cs.toArray))) (fun sv => k sv σ) h
      exact ⟨sv, h1, fun ρ' σ' k' he hr h' => hv he (hR hr) (h2 (fun sv => k' sv σ') h')⟩
    · exact h.elim
  · exact h.elim
theorem nSlice_q (hR : ∀ {σ σ'}, R σ σ' → LLe σ.L σ'.L) {t : TypeId} {x : Operand} {lo hi mx : Option Operand} : QS R (x :: (lo.toList ++ hi.toList ++ mx.toList)) (fun ρ σ k => nSlice TT ρ σ k t x lo hi mx) := by
  intro ρ σ k h
  simp only [nSlice] at h ⊢
  split at h
  · split at h
    · split at h
      · obtain ⟨v, h, hv⟩ := val_q h
        obtain ⟨l, h, hl⟩ := optVal_q h
        obtain ⟨u, h, hu⟩ := optVal_q h
        split at h
        · obtain ⟨a, b, h1, h2, h3, h4, h⟩ := h
          refine ⟨_, h _ rfl, fun ρ' σ' k' he hr h' => hv (he x (by simp)) (hR hr) (hl (fun y hy => he y ?_) (hR hr) (hu (fun y hy => he y ?_) (hR hr) ⟨a, b, h1, h2, h3, h4, fun v e => by rw [e]; exact h'⟩))⟩
          · simp only [List.mem_cons, List.mem_append]; exact .inr (.inl (.inl hy))
          · simp only [List.mem_cons, List.mem_append]; exact .inr (.inl (.inr hy))
        · exact h.elim
      · exact h.elim
    · split at h
      · obtain ⟨v, h, hv⟩ := val_q h
        split at h
        · exact ⟨_, h, fun ρ' σ' k' he hr h' => hv (he x (by simp)) (hR hr) h'⟩
        · exact h.elim
      · exact h.elim
    · exact h.elim
  · exact h.elim
theorem nFieldAddr_q {t : TypeId} {x : Operand} {f : Nat} : QS R [x] (fun ρ σ k => nFieldAddr TT ρ σ k t x f) := by
  intro ρ σ k h
  simp only [nFieldAddr] at h ⊢
  split at h
  · split at h
    · split at h
      · split at h
        · split at h
          · rename_i e1 e2
            obtain ⟨o, h1, h2⟩ := plus0_ang _ h
            refine ⟨_, h1, fun ρ' σ' k' he hr h' => ?_⟩
            rw [he x (by simp), e2, e1]
            exact h2 (fun o => k' _ σ') h'
          · rename_i e1 e2
            obtain ⟨o, h1, h2⟩ := plus0_ang _ h
            refine ⟨_, h1, fun ρ' σ' k' he hr h' => ?_⟩
            rw [he x (by simp), e2, e1]
            exact h2 (fun o => k' _ σ') h'
          · exact h.elim
        · exact h.elim
      · exact h.elim
    · exact h.elim
  · exact h.elim
theorem nField_q (hR : ∀ {σ σ'}, R σ σ' → LLe σ.L σ'.L) {t : TypeId} {x : Operand} {f : Nat} : QS R [x] (fun ρ σ k => nField TT ρ σ k t x f) := by
  intro ρ σ k h
  simp only [nField] at h ⊢
  split at h
  · split at h
    · split at h
      · obtain ⟨v, h, hv⟩ := val_q h
        split at h
        · obtain ⟨o, h1, h2⟩ := partK_ang _ h
          exact ⟨_, h1, fun ρ' σ' k' he hr h' => hv (he x (by simp)) (hR hr) (h2 (fun y => k' (.v y) σ') h')⟩
        · exact h.elim
      · exact h.elim
    · exact h.elim
  · exact h.elim
theorem nIndexAddr_q (hR : ∀ {σ σ'}, R σ σ' → LLe σ.L σ'.L) {t : TypeId} {x ix : Operand} : QS R [x, ix] (fun ρ σ k => nIndexAddr TT ρ σ k t x ix) := by
  intro ρ σ k h
  simp only [nIndexAddr] at h ⊢
  split at h
  · split at h
    · split at h
      · obtain ⟨v, h, hv⟩ := val_q h
        obtain ⟨u, h, hu⟩ := val_q h
        split at h
        · obtain ⟨b, off, len, cap, j, h1, h2, h3, h⟩ := h
          exact ⟨_, h, fun ρ' σ' k' he hr h' => hv (he x (by simp)) (hR hr) (hu (he ix (by simp)) (hR hr) ⟨b, off, len, cap, j, h1, h2, h3, h'⟩)⟩
        · exact h.elim
      · exact h.elim
    · exact h.elim
  · exact h.elim
theorem nIndex_q (hR : ∀ {σ σ'}, R σ σ' → LLe σ.L σ'.L) {t : TypeId} {x ix : Operand} : QS R [x, ix] (fun ρ σ k => nIndex TT ρ σ k t x ix) := by
  intro ρ σ k h
  simp only [nIndex] at h ⊢
  split at h
  · split at h
    · obtain ⟨v, h, hv⟩ := val_q h
      obtain ⟨u, h, hu⟩ := val_q h
      split at h
      · obtain ⟨j, b, h1, h2, h⟩ := h
        exact ⟨_, h, fun ρ' σ' k' he hr h' => hv (he x (by simp)) (hR hr) (hu (he ix (by simp)) (hR hr) ⟨j, b, h1, h2, h'⟩)⟩
      · exact h.elim
    · exact h.elim
  · exact h.elim
theorem nLenD_q (hR : ∀ {σ σ'}, R σ σ' → LLe σ.L σ'.L) {t : TypeId} {x : Operand} : QS R [x] (fun ρ σ k => nLenD TT ρ σ k t x) := by
  intro ρ σ k h
  simp only [nLenD] at h ⊢
  split at h
  · split at h
    · exact h.elim
    · obtain ⟨v, h, hv⟩ := val_q h
      obtain ⟨n, hn, h⟩ := h
      exact ⟨_, h, fun ρ' σ' k' he hr h' => hv (he x (by simp)) (hR hr) ⟨n, hn, h'⟩⟩
  · exact h.elim
theorem nLoadD_q {cids : List Nat} {t : TypeId} {a : Operand} : QS (Stb true cids) [a] (fun ρ σ k => nLoadD TT cids ρ σ k t a) := by
  intro ρ σ k h
  simp only [nLoadD] at h ⊢
  split at h
  · rename_i id off e
    split at h
    · exact h.elim
    · rename_i hc
      simp only [nLoad] at h ⊢
      split at h
      · exact h.elim
      · rename_i i hi
        rw [e] at h
        cases ha : aggT i.d with
        | true =>
          simp only [ha] at h
          split at h
          · rename_i lb hl
            obtain ⟨xs, h1, h2⟩ := takeAt_ang _ h
            refine ⟨_, h1, fun ρ' σ' k' he hr h' => ?_⟩
            rw [he a (by simp), e]
            simp only [hc, hi, ha, hr.row rfl id lb hc hl]
            exact h2 (fun xs => k' _ σ') h'
          · exact h.elim
        | false =>
          simp only [ha] at h
          split at h
          · rename_i lb hl
            obtain ⟨xs, h1, h2⟩ := cellAt_ang _ h
            refine ⟨_, h1, fun ρ' σ' k' he hr h' => ?_⟩
            rw [he a (by simp), e]
            simp only [hc, hi, ha, hr.row rfl id lb hc hl]
            exact h2 (fun xs => k' _ σ') h'
          · exact h.elim
  · rename_i b off e
    split at h
    · exact h.elim
    · rename_i i hi
      split at h
      · rename_i h0 h1
        refine ⟨_, h, fun ρ' σ' k' he hr h' => ?_⟩
        rw [he a (by simp), e]
        exact h'
      · rename_i n h0 h1
        obtain ⟨xs, hx, hl, h⟩ := h
        refine ⟨_, h, fun ρ' σ' k' he hr h' => ?_⟩
        rw [he a (by simp), e]
        exact ⟨xs, fun j x e => hr.le.c (hx j x e), hl, h'⟩
      · rename_i h0
        obtain ⟨x, hx, h⟩ := h
        refine ⟨_, h, fun ρ' σ' k' he hr h' => ?_⟩
        rw [he a (by simp), e]
        exact ⟨x, fun j y e => hr.le.c (hx j y e), h'⟩
  · exact h.elim
end nodes
end Go.Proofs.YtcfglgelckjpmaaGreatDoor
