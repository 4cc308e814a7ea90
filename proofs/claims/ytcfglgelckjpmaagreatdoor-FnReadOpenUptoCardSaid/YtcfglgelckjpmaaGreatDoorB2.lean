/- Own machinery, and laws of the functions that the statement reaches (part 2). -/
import Derived.Test.YtcfglgelckjpmaaGreatDoorB1
set_option linter.all false
namespace Go.Proofs.YtcfglgelckjpmaaGreatDoor
section assoc
variable {α : Type}
def get : List (Nat × α) → Nat → Option α
  | [], _ => none
  | (s, u) :: r, t => bif Nat.beq t s then some u else bif Nat.blt t s then none else get r t
def ins (t : Nat) (v : α) : List (Nat × α) → List (Nat × α)
  | [] => [(t, v)]
  | (s, u) :: r => bif Nat.beq t s then (t, v) :: r else bif Nat.blt t s then (t, v) :: (s, u) :: r else (s, u) :: ins t v r
def rem (t : Nat) : List (Nat × α) → List (Nat × α)
  | [] => []
  | (s, u) :: r => bif Nat.beq t s then r else bif Nat.blt t s then (s, u) :: r else (s, u) :: rem t r
def keep (ks : List Nat) : List (Nat × α) → List (Nat × α)
  | [] => []
  | (s, u) :: r => bif ks.any (Nat.beq s) then (s, u) :: keep ks r else keep ks r
def insK (t : Nat) (v : α) : List (Nat × α) → (List (Nat × α) → Prop) → Prop
  | [], k => k [(t, v)]
  | (s, u) :: r, k => bif Nat.beq t s then k ((t, v) :: r) else bif Nat.blt t s then k ((t, v) :: (s, u) :: r) else insK t v r fun r' => k ((s, u) :: r')
def keepK (ks : List Nat) : List (Nat × α) → (List (Nat × α) → Prop) → Prop
  | [], k => k []
  | (s, u) :: r, k => bif ks.any (Nat.beq s) then keepK ks r (fun r' => k ((s, u) :: r')) else keepK ks r k
def forceS : List (Nat × α) → (List (Nat × α) → Prop) → Prop
  | [], k => k []
  | (s, u) :: r, k => forceS r fun r' => k ((s, u) :: r')
theorem insK_eq (t : Nat) (v : α) (l : List (Nat × α)) (k : List (Nat × α) → Prop) : insK t v l k = k (ins t v l) := by
  induction l generalizing k with
  | nil => rfl
  | cons x r ih =>
    obtain ⟨s, u⟩ := x
    simp only [insK, ins]
    cases Nat.beq t s <;> simp only [cond_true, cond_false]
    cases Nat.blt t s <;> simp only [cond_true, cond_false]
    rw [ih]
theorem keepK_eq (ks : List Nat) (l : List (Nat × α)) (k : List (Nat × α) → Prop) : keepK ks l k = k (keep ks l) := by
  induction l generalizing k with
  | nil => rfl
  | cons x r ih =>
    obtain ⟨s, u⟩ := x
    simp only [keepK, keep]
    cases ks.any (Nat.beq s) <;> simp only [cond_true, cond_false] <;> rw [ih]
theorem forceS_eq (l : List (Nat × α)) (k : List (Nat × α) → Prop) : forceS l k = k l := by
  induction l generalizing k with
  | nil => rfl
  | cons x r ih => obtain ⟨s, u⟩ := x; simp only [forceS]; rw [ih]
theorem beq_iff {a b : Nat} : Nat.beq a b = true ↔ a = b := by rw [Nat.beq_eq]
theorem blt_iff {a b : Nat} : Nat.blt a b = true ↔ a < b := by simp [Nat.blt_eq]
theorem get_cons (s t : Nat) (u : α) (r : List (Nat × α)) : get ((s, u) :: r) t = if t = s then some u else if t < s then none else get r t := by
  simp only [get, cond_eq_ite, beq_iff, blt_iff]
theorem ins_cons (s t : Nat) (u v : α) (r : List (Nat × α)) : ins t v ((s, u) :: r) = if t = s then (t, v) :: r else if t < s then (t, v) :: (s, u) :: r else (s, u) :: ins t v r := by
  simp only [ins, cond_eq_ite, beq_iff, blt_iff]
theorem rem_cons (s t : Nat) (u : α) (r : List (Nat × α)) : rem t ((s, u) :: r) = if t = s then r else if t < s then (s, u) :: r else (s, u) :: rem t r := by
  simp only [rem, cond_eq_ite, beq_iff, blt_iff]
theorem get_ins_same (t : Nat) (v : α) (l : List (Nat × α)) : get (ins t v l) t = some v := by
  induction l with
  | nil => simp [ins, get]
  | cons x r ih =>
    obtain ⟨s, u⟩ := x
    rw [ins_cons]
    split
    · rw [get_cons, if_pos rfl]
    · split
      · rw [get_cons, if_pos rfl]
      · rw [get_cons, if_neg ‹_›, if_neg ‹_›]; exact ih
theorem get_ins_other {t t' : Nat} (h : t ≠ t') (v : α) (l : List (Nat × α)) : get (ins t v l) t' = get l t' := by
  induction l with
  | nil => simp only [ins, get, cond_eq_ite, beq_iff, blt_iff]; rw [if_neg (Ne.symm h)]; split <;> rfl
  | cons x r ih =>
    obtain ⟨s, u⟩ := x
    rw [ins_cons]
    split
    · subst_vars; rw [get_cons, get_cons, if_neg (Ne.symm h), if_neg (Ne.symm h)]
    · split
      · rw [get_cons, if_neg (Ne.symm h), get_cons]
        split
        · split
          · omega
          · rw [if_pos (by omega)]
        · rfl
      · rw [get_cons, get_cons, ih]
theorem get_ins (t t' : Nat) (v : α) (l : List (Nat × α)) : get (ins t v l) t' = if t = t' then some v else get l t' := by
  split
  · subst_vars; exact get_ins_same _ _ _
  · exact get_ins_other ‹_› _ _
theorem ins_comm {a b : Nat} (h : a ≠ b) (x y : α) (l : List (Nat × α)) : ins a x (ins b y l) = ins b y (ins a x l) := by
  induction l with
  | nil => simp only [ins, cond_eq_ite, beq_iff, blt_iff]; rw [if_neg h, if_neg (Ne.symm h)]; by_cases h' : a < b
           · rw [if_pos h', if_neg (by omega)]
           · rw [if_neg h', if_pos (by omega)]
  | cons p r ih =>
    obtain ⟨s, u⟩ := p
    by_cases ha : a = s
    · subst ha
      rw [ins_cons a b, if_neg (Ne.symm h), ins_cons a a, if_pos rfl, ins_cons a b, if_neg (Ne.symm h)]
      split
      · rw [ins_cons, if_neg h, if_neg (by omega), ins_cons, if_pos rfl]
      · rw [ins_cons, if_pos rfl]
    · by_cases hb : b = s
      · subst hb
        rw [ins_cons b b, if_pos rfl, ins_cons b a, if_neg h, ins_cons b a, if_neg h]
        split
        · rw [ins_cons, if_neg (Ne.symm h), if_neg (by omega), ins_cons, if_pos rfl]
        · rw [ins_cons, if_pos rfl]
      · by_cases la : a < s
        · by_cases lb : b < s
          · rw [ins_cons s b, if_neg hb, if_pos lb, ins_cons s a, if_neg ha, if_pos la, ins_cons b a, if_neg h, ins_cons a b, if_neg (Ne.symm h),
              ins_cons s a, if_neg ha, if_pos la, ins_cons s b, if_neg hb, if_pos lb]
            by_cases h' : a < b
            · rw [if_pos h', if_neg (by omega)]
            · rw [if_neg h', if_pos (by omega)]
          · rw [ins_cons s b, if_neg hb, if_neg lb, ins_cons s a, if_neg ha, if_pos la, ins_cons s a, if_neg ha, if_pos la, ins_cons a b, if_neg (Ne.symm h), if_neg (by omega),
              ins_cons s b, if_neg hb, if_neg lb]
        · by_cases lb : b < s
          · rw [ins_cons s b, if_neg hb, if_pos lb, ins_cons s a, if_neg ha, if_neg la, ins_cons s b, if_neg hb, if_pos lb, ins_cons b a, if_neg h, if_neg (by omega),
              ins_cons s a, if_neg ha, if_neg la]
          · rw [ins_cons s b, if_neg hb, if_neg lb, ins_cons s a, if_neg ha, if_neg la, ins_cons s a, if_neg ha, if_neg la, ins_cons s b, if_neg hb, if_neg lb, ih]
theorem ins_perm (t : Nat) (v : α) (l : List (Nat × α)) : ∃ l', List.Sublist l' l ∧ (ins t v l).Perm ((t, v) :: l') := by
  induction l with
  | nil => exact ⟨[], .slnil, by simp [ins]⟩
  | cons x r ih =>
    obtain ⟨s, u⟩ := x
    rw [ins_cons]
    split
    · exact ⟨r, List.sublist_cons_self _ _, .refl _⟩
    · split
      · exact ⟨_, .refl _, .refl _⟩
      · obtain ⟨l', h1, h2⟩ := ih
        exact ⟨(s, u) :: l', h1.cons_cons _, (h2.cons _).trans (.swap _ _ _)⟩
theorem rem_perm {t : Nat} {y : α} {l : List (Nat × α)} (h : get l t = some y) : l.Perm ((t, y) :: rem t l) := by
  induction l with
  | nil => simp [get] at h
  | cons x r ih =>
    obtain ⟨s, u⟩ := x
    rw [get_cons] at h
    rw [rem_cons]
    split
    · subst_vars; simp only [if_true, Option.some.injEq] at h; subst h; exact .refl _
    · rw [if_neg ‹_›] at h
      split
      · rw [if_pos ‹_›] at h; cases h
      · rw [if_neg ‹_›] at h
        exact ((ih h).cons _).trans (.swap _ _ _)
theorem ins_upd {t : Nat} {y : α} {l : List (Nat × α)} (h : get l t = some y) (v : α) : (ins t v l).Perm ((t, v) :: rem t l) := by
  induction l with
  | nil => simp [get] at h
  | cons x r ih =>
    obtain ⟨s, u⟩ := x
    rw [get_cons] at h
    rw [rem_cons, ins_cons]
    split
    · exact .refl _
    · rw [if_neg ‹_›] at h
      split
      · exact .refl _
      · rw [if_neg ‹_›] at h
        exact ((ih h).cons _).trans (.swap _ _ _)
theorem get_mem {t : Nat} {y : α} {l : List (Nat × α)} (h : get l t = some y) : (t, y) ∈ l :=
  (rem_perm h).mem_iff.2 (by simp)
theorem keep_sub (ks : List Nat) (l : List (Nat × α)) : List.Sublist (keep ks l) l := by
  induction l with
  | nil => exact .slnil
  | cons x r ih =>
    obtain ⟨s, u⟩ := x
    simp only [keep, cond_eq_ite]
    split
    · exact ih.cons_cons _
    · exact ih.cons _
theorem rem_sub (t : Nat) (l : List (Nat × α)) : List.Sublist (rem t l) l := by
  induction l with
  | nil => exact .slnil
  | cons x r ih =>
    obtain ⟨s, u⟩ := x
    rw [rem_cons]
    split
    · exact List.sublist_cons_self _ _
    · split
      · exact .refl _
      · exact ih.cons_cons _
end assoc
inductive SV where
  | v (x : Value)
  | loc (id off : Nat)
structure Lb where
  b : Nat
  cs : List Value
structure Mem where
  L : List (Nat × Lb)
  R : List (Nat × Res)
  I : Imm
def Lb.setC (lb : Lb) (cs : List Value) : Lb := match lb with | ⟨b, _⟩ => ⟨b, cs⟩
def Mem.setL (σ : Mem) (L : List (Nat × Lb)) : Mem := match σ with | ⟨_, R, I⟩ => ⟨L, R, I⟩
def Mem.setR (σ : Mem) (R : List (Nat × Res)) : Mem := match σ with | ⟨L, _, I⟩ => ⟨L, R, I⟩
def Mem.setI (σ : Mem) (I : Imm) : Mem := match σ with | ⟨L, R, _⟩ => ⟨L, R, I⟩
theorem Lb.setC_eq (lb : Lb) (cs : List Value) : lb.setC cs = ⟨lb.b, cs⟩ := rfl
theorem Mem.setL_eq (σ : Mem) (L : List (Nat × Lb)) : σ.setL L = { σ with L := L } := rfl
theorem Mem.setR_eq (σ : Mem) (R : List (Nat × Res)) : σ.setR R = { σ with R := R } := rfl
theorem Mem.setI_eq (σ : Mem) (I : Imm) : σ.setI I = { σ with I := I } := rfl
def forceL : List (Nat × Lb) → (List (Nat × Lb) → Prop) → Prop
  | [], k => k []
  | (s, ⟨b, c⟩) :: r, k => forceL r fun r' => k ((s, ⟨b, c⟩) :: r')
theorem forceL_eq (l : List (Nat × Lb)) (k : List (Nat × Lb) → Prop) : forceL l k = k l := by
  induction l generalizing k with
  | nil => rfl
  | cons x r ih => obtain ⟨s, ⟨b, c⟩⟩ := x; simp only [forceL]; rw [ih]
def lres (x : Nat × Lb) : Res := .blk x.2.b x.2.cs
def Mem.res (σ : Mem) : List Res := σ.L.map lres ++ σ.R.map Prod.snd
def Den (L : List (Nat × Lb)) : SV → Value → Prop
  | .v x, y => y = x
  | .loc id off, y => ∃ lb, get L id = some lb ∧ y = .pointer (some ⟨lb.b, off, none⟩)
def Srt {α : Type} (l : List (Nat × α)) : Prop := l.Pairwise fun a b => a.1 < b.1
theorem Srt.ins {α : Type} {t : Nat} {v : α} : ∀ {l : List (Nat × α)}, Srt l → Srt (ins t v l)
  | [], _ => by simp [Go.Proofs.YtcfglgelckjpmaaGreatDoor.ins, Srt]
  | (s, u) :: r, h => by
    obtain ⟨h1, h2⟩ := List.pairwise_cons.1 h
    rw [ins_cons]
    split
    · subst_vars; exact List.pairwise_cons.2 ⟨h1, h2⟩
    · split
      · refine List.pairwise_cons.2 ⟨fun x hx => ?_, h⟩
        rcases List.mem_cons.1 hx with rfl | hx
        · assumption
        · have := h1 x hx; show t < x.1; simp only at this; omega
      · refine List.pairwise_cons.2 ⟨fun x hx => ?_, Srt.ins h2⟩
        obtain ⟨l', h3, h4⟩ := ins_perm t v r
        rcases List.mem_cons.1 (h4.mem_iff.1 hx) with rfl | hx
        · show s < t; omega
        · exact h1 x (h3.subset hx)
theorem Srt.sub {α : Type} {l l' : List (Nat × α)} (h : Srt l) (s : List.Sublist l' l) : Srt l' := List.Pairwise.sublist s h
structure LLe (L L' : List (Nat × Lb)) : Prop where
  get : ∀ id lb, get L id = some lb → ∃ cs, get L' id = some ⟨lb.b, cs⟩
  srt : Srt L → Srt L'
theorem LLe.refl (L : List (Nat × Lb)) : LLe L L := ⟨fun _ lb h => ⟨lb.cs, h⟩, id⟩
theorem LLe.trans {L L' L'' : List (Nat × Lb)} (h : LLe L L') (k : LLe L' L'') : LLe L L'' := ⟨fun id lb e => by
  obtain ⟨cs, h1⟩ := h.get id lb e
  exact k.get id ⟨lb.b, cs⟩ h1, fun hs => k.srt (h.srt hs)⟩
theorem Den.mono {L L' : List (Nat × Lb)} (h : LLe L L') {sv : SV} {x : Value} (d : Den L sv x) : Den L' sv x := by
  cases sv with
  | v y => exact d
  | loc id off =>
    obtain ⟨lb, h1, h2⟩ := d
    obtain ⟨cs, h3⟩ := h.get id lb h1
    exact ⟨_, h3, h2⟩
theorem LLe.ins_new {L : List (Nat × Lb)} {d : Nat} (h : Go.Proofs.YtcfglgelckjpmaaGreatDoor.get L d = none) (lb : Lb) : LLe L (ins d lb L) := by
  refine ⟨fun id l e => ⟨l.cs, ?_⟩, fun h => h.ins⟩
  rw [get_ins_other _ _ _]
  · exact e
  · rintro rfl; rw [h] at e; cases e
theorem LLe.ins_upd {L : List (Nat × Lb)} {d : Nat} {lb : Lb} (h : Go.Proofs.YtcfglgelckjpmaaGreatDoor.get L d = some lb) (cs : List Value) : LLe L (ins d ⟨lb.b, cs⟩ L) := by
  refine ⟨fun id l e => ?_, fun h => h.ins⟩
  rw [get_ins]
  split
  · subst_vars; rw [h] at e; cases e; exact ⟨cs, rfl⟩
  · exact ⟨l.cs, e⟩
def blks (H : List (Nat × List Value)) : List Res := H.map fun x => .blk x.1 x.2
def setC : List (Nat × List Value) → List (List Value) → List (Nat × List Value)
  | (b, _) :: H, c :: cs => (b, c) :: setC H cs
  | _, _ => []
structure WP (P : Program) (f : FuncId) (args : Array Value) (H : List (Nat × List Value)) (R : List Res) (I : Imm)
    (Q : Value → List (List Value) → List Res → Imm → Prop) : Prop where
  enters : ∀ w, (callFunc f args).run P w = .ok (.enter f args) w
  calls : ∀ w, Sat I (blks H ++ R) w → Calls P f args w fun e w' => ∃ v cs Rn I', e = .returned v ∧ cs.length = H.length ∧
    Step I (blks H ++ R) w I' (blks (setC H cs) ++ Rn) w' ∧ Q v cs Rn I'
theorem WP.mono {P : Program} {f : FuncId} {args : Array Value} {H : List (Nat × List Value)} {R : List Res} {I : Imm}
    {Q Q' : Value → List (List Value) → List Res → Imm → Prop} (h : WP P f args H R I Q) (hq : ∀ v cs Rn I', I.le I' → Q v cs Rn I' → Q' v cs Rn I') : WP P f args H R I Q' :=
  ⟨h.enters, fun w hs => (h.calls w hs).mono fun _ _ ⟨v, cs, Rn, I', e, hl, hst, q⟩ => ⟨v, cs, Rn, I', e, hl, hst, hq _ _ _ _ hst.le q⟩⟩
def OpOk (P : Program) (I : Imm) (Rs : List Res) (w : World) (k : Value → List Res → Imm → Prop) : Result Next → Prop
  | .ok (.value v) w' => ∃ I' Rs', Step I Rs w I' Rs' w' ∧ k v Rs' I'
  | .ok .skip w' => ∃ I' Rs', Step I Rs w I' Rs' w' ∧ k undef Rs' I'
  | .ok (.enter f args) w' => w' = w ∧ Calls P f args w fun e w'' => ∃ v I' Rs', e = .returned v ∧ Step I Rs w I' Rs' w'' ∧ k v Rs' I'
  | _ => False
theorem upon_of_ok {P : Program} {I : Imm} {Rs : List Res} {w : World} {k : Value → List Res → Imm → Prop} {o : Oper} {a : Act}
    {next : Act → World → Prop} {Q : Exit → Act → World → Prop} {r : Result Next} (h : OpOk P I Rs w k r)
    (hn : ∀ v w' Rs' I', Step I Rs w I' Rs' w' → k v Rs' I' → next (a.put o.dst v) w') : o.upon P a next Q r := by
  cases r with
  | halt x w' => exact h.elim
  | ok n w' =>
    cases n <;> simp only [OpOk] at h <;> try exact h.elim
    · obtain ⟨I', Rs', hs, hk⟩ := h; exact hn _ _ _ _ hs hk
    · obtain ⟨I', Rs', hs, hk⟩ := h; exact hn _ _ _ _ hs hk
    · obtain ⟨rfl, h⟩ := h
      exact h.mono fun e w'' ⟨v, I', Rs', he, hs, hk⟩ => by subst he; exact hn _ _ _ _ hs hk
theorem OpOk.of_run {P : Program} {I : Imm} {Rs : List Res} {w : World} {k : Value → List Res → Imm → Prop} {v : Value} (hs : Sat I Rs w) (hk : k v Rs I) : OpOk P I Rs w k (.ok (.value v) w) :=
  ⟨I, Rs, .refl hs, hk⟩
end Go.Proofs.YtcfglgelckjpmaaGreatDoor
