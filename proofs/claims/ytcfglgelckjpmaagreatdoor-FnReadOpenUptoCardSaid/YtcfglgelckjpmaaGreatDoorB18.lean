/- Own machinery, and laws of the functions that the statement reaches (part 18). -/
import Derived.Test.YtcfglgelckjpmaaGreatDoorB17
import Derived.Scope
set_option linter.all false
namespace Go.Proofs.YtcfglgelckjpmaaGreatDoor
section lists
theorem srt_sublist {α : Type} : ∀ {l l' : List (Nat × α)}, Srt l → Srt l' → (∀ x ∈ l, x ∈ l') → List.Sublist l l'
  | [], l', _, _, _ => List.nil_sublist _
  | x :: l, [], _, _, h => absurd (h x (by simp)) (by simp)
  | x :: l, y :: l', h1, h2, h => by
    obtain ⟨a1, a2⟩ := List.pairwise_cons.1 h1
    obtain ⟨b1, b2⟩ := List.pairwise_cons.1 h2
    rcases List.mem_cons.1 (h x (by simp)) with e | hx
    · subst e
      refine .cons_cons _ (srt_sublist a2 b2 fun z hz => ?_)
      rcases List.mem_cons.1 (h z (by simp [hz])) with e | hz'
      · have := a1 z hz
        rw [e] at this
        omega
      · exact hz'
    · refine .cons _ (srt_sublist h1 b2 fun z hz => ?_)
      rcases List.mem_cons.1 (h z hz) with e | hz'
      · have h3 := b1 x hx
        rcases List.mem_cons.1 hz with e' | hz''
        · rw [← e', e] at h3; omega
        · have := a1 z hz''
          rw [e] at this; omega
      · exact hz'
theorem mem_keep {α : Type} {ks : List Nat} {l : List (Nat × α)} {x : Nat × α} : x ∈ keep ks l ↔ x ∈ l ∧ x.1 ∈ ks := by
  induction l with
  | nil => simp [keep]
  | cons y r ih =>
    obtain ⟨s, u⟩ := y
    have hany : ks.any (Nat.beq s) = true ↔ s ∈ ks := by
      rw [List.any_eq_true]
      constructor
      · rintro ⟨z, hz, e⟩; rw [beq_iff.1 e]; exact hz
      · exact fun h => ⟨s, h, by simp⟩
    simp only [keep, cond_eq_ite]
    split
    · rename_i h
      simp only [List.mem_cons, ih]
      constructor
      · rintro (rfl | ⟨h1, h2⟩)
        · exact ⟨.inl rfl, hany.1 h⟩
        · exact ⟨.inr h1, h2⟩
      · rintro ⟨rfl | h1, h2⟩
        · exact .inl rfl
        · exact .inr ⟨h1, h2⟩
    · rename_i h
      simp only [List.mem_cons, ih]
      constructor
      · rintro ⟨h1, h2⟩; exact ⟨.inr h1, h2⟩
      · rintro ⟨rfl | h1, h2⟩
        · exact absurd (hany.2 h2) h
        · exact ⟨h1, h2⟩
theorem mem_keysBut {α : Type} {bad : List Nat} {l : List (Nat × α)} {t : Nat} : t ∈ keysBut bad l ↔ (∃ v, (t, v) ∈ l) ∧ t ∉ bad := by
  induction l with
  | nil => simp [keysBut]
  | cons y r ih =>
    obtain ⟨s, u⟩ := y
    have hany : bad.any (Nat.beq s) = true ↔ s ∈ bad := by
      rw [List.any_eq_true]
      constructor
      · rintro ⟨z, hz, e⟩; rw [beq_iff.1 e]; exact hz
      · exact fun h => ⟨s, h, by simp⟩
    simp only [keysBut, cond_eq_ite]
    split
    · rename_i h
      rw [ih]
      constructor
      · rintro ⟨⟨v, h1⟩, h2⟩; exact ⟨⟨v, by simp [h1]⟩, h2⟩
      · rintro ⟨⟨v, h1⟩, h2⟩
        rcases List.mem_cons.1 h1 with e | h1
        · cases e; exact absurd (hany.1 h) h2
        · exact ⟨⟨v, h1⟩, h2⟩
    · rename_i h
      rw [List.mem_cons, ih]
      constructor
      · rintro (rfl | ⟨⟨v, h1⟩, h2⟩)
        · exact ⟨⟨u, by simp⟩, fun h' => h (hany.2 h')⟩
        · exact ⟨⟨v, by simp [h1]⟩, h2⟩
      · rintro ⟨⟨v, h1⟩, h2⟩
        rcases List.mem_cons.1 h1 with e | h1
        · cases e; exact .inl rfl
        · exact .inr ⟨⟨v, h1⟩, h2⟩
theorem srt_setVs : ∀ {ts : List Nat} {vs : List Value} {e : List (Nat × SV)}, Srt e → Srt (setVs ts vs e)
  | [], _, _, h => by simpa [setVs] using h
  | _ :: _, [], _, h => by simpa [setVs] using h
  | t :: ts, v :: vs, e, h => by simp only [setVs]; exact srt_setVs h.ins
theorem get_setVs {p : Nat → SV → Prop} {env' : List (Nat × SV)} (hp : ∀ t x, get env' t = some (.v x) → p t (.v x)) : ∀ {ts : List Nat} {vs : List Value} {e : List (Nat × SV)}, (∀ t sv, get e t = some sv → p t sv) → valsAt env' ts = some vs →
    ∀ t sv, get (setVs ts vs e) t = some sv → p t sv
  | [], vs, e, he, hv => by simpa [setVs] using he
  | i :: ts, vs, e, he, hv => by
    simp only [valsAt] at hv
    split at hv
    · rename_i x hx
      split at hv
      · rename_i r hr
        simp only [Option.some.injEq] at hv
        subst hv
        simp only [setVs]
        refine get_setVs hp (fun t sv h => ?_) hr
        rw [get_ins] at h
        split at h
        · subst_vars; cases h; exact hp _ _ hx
        · exact he t sv h
      · cases hv
    · cases hv
theorem srt_setCs : ∀ {ids : List Nat} {cs : List (List Value)} {L : List (Nat × Lb)}, Srt L → Srt (setCs ids cs L)
  | [], _, _, h => by simpa [setCs] using h
  | _ :: _, [], _, h => by simpa [setCs] using h
  | id :: ids, c :: cs, L, h => by
    simp only [setCs]
    split
    · exact srt_setCs h.ins
    · exact srt_setCs h
theorem lle_setCs : ∀ {ids : List Nat} {cs : List (List Value)} {L : List (Nat × Lb)}, LLe L (setCs ids cs L)
  | [], _, _ => by simp only [setCs]; exact .refl _
  | _ :: _, [], _ => by simp only [setCs]; exact .refl _
  | id :: ids, c :: cs, L => by
    simp only [setCs]
    split
    · exact (LLe.ins_upd ‹_› _).trans lle_setCs
    · exact lle_setCs
theorem get_setCs {L' : List (Nat × Lb)} : ∀ {ids : List Nat} {cs : List (List Value)} {M : List (Nat × Lb)}, (∀ id lb, id ∉ ids → get M id = some lb → get L' id = some lb) → (∀ id lb, get M id = some lb → ∃ c, get L' id = some ⟨lb.b, c⟩) →
    cellsAt L' ids = some cs → ∀ id lb, get (setCs ids cs M) id = some lb → get L' id = some lb
  | [], cs, M, h1, h2, hc, id, lb, h => h1 id lb (by simp) (by simpa [setCs] using h)
  | i :: ids, cs, M, h1, h2, hc, id, lb, h => by
    simp only [cellsAt] at hc
    split at hc
    · rename_i lb0 hl0
      split at hc
      · rename_i r hr
        simp only [Option.some.injEq] at hc
        subst hc
        simp only [setCs] at h
        split at h
        · rename_i lbm hm
          obtain ⟨c, hc'⟩ := h2 _ _ hm
          rw [hl0] at hc'
          have heq : lb0 = ⟨lbm.b, lb0.cs⟩ := by cases hc'; rfl
          refine get_setCs (M := ins i ⟨lbm.b, lb0.cs⟩ M) (fun j lj hj hg => ?_) (fun j lj hg => ?_) hr id lb h
          · rw [get_ins] at hg
            split at hg
            · subst_vars; cases hg; rw [hl0, heq]
            · rename_i hne
              exact h1 j lj (by simp only [List.mem_cons, not_or]; exact ⟨Ne.symm hne, hj⟩) hg
          · rw [get_ins] at hg
            split at hg
            · subst_vars; cases hg; exact ⟨lb0.cs, by rw [hl0, ← heq]⟩
            · exact h2 j lj hg
        · rename_i hm
          refine get_setCs (M := M) (fun j lj hj hg => ?_) h2 hr id lb h
          by_cases hji : j = i
          · subst hji; rw [hm] at hg; cases hg
          · exact h1 j lj (by simp [hji, hj]) hg
      · cases hc
    · cases hc
end lists
section loops
variable {P : Program} {nt : Nat} {C : Ctx} {Q : Exit → Act → World → Prop}
theorem wp_loop_n {c : Code} (J : Nat → Act → World → Prop) (round : ∀ n a w, J n a w → c.wp P (Exit.then (fun a' w' => ∃ n', n' < n ∧ J n' a' w') Q) a w) {n : Nat} {a : Act} {w : World} (h : J n a w) : (Code.loop c).wp P Q a w := by
  intro b k cs
  have key : ∀ n a w, J n a w → ∃ e a' w', Q e a' w' ∧ Arrives P (lone (b.at a (.code c :: .inLoop c :: k)) cs w) b k cs e a' w' := by
    intro n
    induction n using Nat.strongRecOn with
    | _ n ih =>
      intro a w hJ
      obtain ⟨e, a₁, w₁, hq, harr⟩ := round n a w hJ b (.inLoop c :: k) cs
      cases e with
      | normal =>
        obtain ⟨n', hlt, hJ₁⟩ := hq
        obtain ⟨e₂, a₂, w₂, hq₂, harr₂⟩ := ih n' hlt a₁ w₁ hJ₁
        exact ⟨e₂, a₂, w₂, hq₂, .of_steps (Steps.trans harr (.one step_inLoop)) harr₂⟩
      | exit id => exact ⟨_, a₁, w₁, hq, .pass (x := .inLoop c) rfl (fun _ _ => .inl (by simp)) harr⟩
      | goto l => exact ⟨_, a₁, w₁, hq, .pass (x := .inLoop c) rfl (fun _ _ => .inl (by simp)) harr⟩
      | ret => exact ⟨_, a₁, w₁, hq, .pass (x := .inLoop c) rfl (fun _ _ => .inl (by simp)) harr⟩
      | panic ch => exact ⟨_, a₁, w₁, hq, .pass (x := .inLoop c) rfl (fun _ _ => .inl (by simp)) harr⟩
      | outgrown => exact ⟨_, a₁, w₁, hq, .pass (x := .inLoop c) rfl (fun _ _ => .inl (by simp)) harr⟩
  obtain ⟨e, a', w', hq, harr⟩ := key n a w h
  exact ⟨e, a', w', hq, .of_steps (.one step_loop) harr⟩
def Ctx.at (C : Ctx) (s : St) (w : World) : Ctx := ⟨s.mem.I, s.mem.res, w, C.D, s.mem.L⟩
theorem Ok.base {s : St} {a : Act} {w : World} (h : Ok C nt s a w) : Ok (C.at s w) nt s a w := { h with lle := .refl _, step := .refl h.step.sat }
theorem Ok.unbase {s s' : St} {a a' : Act} {w w' : World} (h₀ : Ok C nt s a w) (h : Ok (C.at s w) nt s' a' w') : Ok C nt s' a' w' := { h with lle := h₀.lle.trans h.lle, step := h₀.step.trans h.step }
theorem Ok.head {s s' : St} {a₀ a : Act} {w₀ w : World} (h₀ : Ok C nt s a₀ w₀) (h : Ok (C.at s w₀) nt s' a w) {wr mods ids : List Nat} {vs : List Value} {cs : List (List Value)} (hv : valsAt s'.env mods = some vs) (hc : cellsAt s'.mem.L ids = some cs)
    (he : keep (keysBut (wr ++ mods) s.env) s'.env = keep (keysBut (wr ++ mods) s.env) s.env) (hl : keep (keysBut ids s.mem.L) s'.mem.L = keep (keysBut ids s.mem.L) s.mem.L) :
    Ok (C.at s w₀) nt ⟨setVs mods vs (keep (keysBut (wr ++ mods) s.env) s.env), ⟨setCs ids cs s.mem.L, s'.mem.R, s'.mem.I⟩⟩ a w := by
  have hget : ∀ id lb, get (setCs ids cs s.mem.L) id = some lb → get s'.mem.L id = some lb := by
    refine get_setCs (fun id lb hn hg => ?_) (fun id lb hg => h.lle.get id lb hg) hc
    have h1 : (id, lb) ∈ keep (keysBut ids s.mem.L) s.mem.L := mem_keep.2 ⟨get_mem hg, mem_keysBut.2 ⟨⟨lb, get_mem hg⟩, hn⟩⟩
    rw [← hl] at h1
    exact get_of_mem h.srt (mem_keep.1 h1).1
  have hsrt : Srt (setCs ids cs s.mem.L) := srt_setCs h₀.srt
  refine ⟨h.size, h.dfr, ?_, srt_setVs (h₀.senv.sub (keep_sub _ _)), lle_setCs, hsrt, ?_⟩
  · refine get_setVs (p := fun t sv => Den (setCs ids cs s.mem.L) sv (a.tmps.getD t undef)) (fun t x hx => h.env t _ hx) (fun t sv hg => ?_) hv
    have h1 := get_mem hg
    have h2 : (t, sv) ∈ s.env := (keep_sub _ _).subset h1
    rw [← he] at h1
    have h3 := h.env t sv (get_of_mem h.senv ((keep_sub _ _).subset h1))
    cases sv with
    | v x => exact h3
    | loc id off =>
      obtain ⟨lb', g1, g2⟩ := h3
      obtain ⟨lb, g3, _⟩ := h₀.env t _ (get_of_mem h₀.senv h2)
      obtain ⟨c1, g4⟩ := h.lle.get _ _ g3
      obtain ⟨c2, g5⟩ := (lle_setCs (ids := ids) (cs := cs) (L := s.mem.L)).get _ _ g3
      rw [g1] at g4
      cases g4
      exact ⟨_, g5, g2⟩
  · refine h.step.sub_right ?_
    unfold Mem.res
    refine List.Sublist.append ?_ (.refl _)
    exact (srt_sublist hsrt h.srt fun x hx => get_mem (hget _ _ (get_of_mem hsrt hx))).map lres
theorem Ok.adopt {env : List (Nat × SV)} {L : List (Nat × Lb)} {I : Imm} {a : Act} {w : World} : ∀ {ad : List (Nat × Nat)} {R : List (Nat × Res)}, Ok C nt ⟨env, ⟨L, R, I⟩⟩ a w → Ok C nt ⟨env, ⟨L, Go.Proofs.YtcfglgelckjpmaaGreatDoor.adopt ad R, I⟩⟩ a w
  | [], _, h => h
  | (key, sz) :: ad, R, h => by
    simp only [Go.Proofs.YtcfglgelckjpmaaGreatDoor.adopt]
    refine Ok.adopt (ad := ad) { h with step := ?_ }
    have h1 := step_none h.step.sat (.vec nilV sz []) rfl ⟨rfl, rfl, rfl⟩
    exact step_putR key (h.step.trans h1)
end loops
section code
variable {P : Program} {TT : Nat → Option TI} {nt : Nat}
def Post (C : Ctx) (nt : Nat) (k : Ex → St → Prop) : Exit → Act → World → Prop
  | .normal, a, w => ∃ s, k .normal s ∧ Ok C nt s a w
  | .exit i, a, w => ∃ s, k (.exit i) s ∧ Ok C nt s a w
  | .ret, a, w => ∃ s, k .ret s ∧ Ok C nt s a w
  | _, _, _ => False
theorem exec_ok (hT : ∀ t i, TT t = some i → tiOf P t = some i) (hZ : ∀ t i, TT t = some i → i.d = .int .i64 → i.zero = .int .i64 0) (hmix : P.follows .mixedOrders = true) {kp : List Nat} :
    ∀ (c : Code) (C : Ctx) (s : St) (k : Ex → St → Prop) (a : Act) (w : World), exec P TT nt kp c s k → Ok C nt s a w → c.wp P (Post C nt k) a w
  | .skip, C, s, k, a, w, h, hok => wp_skip ⟨s, h, hok⟩
  | .label _, C, s, k, a, w, h, hok => wp_label ⟨s, h, hok⟩
  | .exit id, C, s, k, a, w, h, hok => wp_exit ⟨s, h, hok⟩
  | .ret, C, s, k, a, w, h, hok => wp_ret ⟨s, h, hok⟩
  | .region id ops draw, C, s, k, a, w, h, hok => by
    cases draw with
    | false =>
      simp only [exec, normS_iff] at h
      have := execOps_ok (Q := Post C nt k) hT hZ (fun s a w hk hok => ⟨s, hk, hok⟩) ops.toList 0 s a w (by simp) h hok
      refine wp_region ?_
      rw [List.range_eq_range']
      simpa using this
    | true =>
      simp only [exec, normS_iff] at h
      obtain ⟨ord, cids, crs, ms, hord, h⟩ := h
      unfold okOrder at hord
      simp only [Bool.and_eq_true, Nat.ble_eq] at hord
      obtain ⟨_, g2, g3, g4⟩ := okOrd_sound (ms := ms) (all := ops.toList) (r := ord) (done := []) .nil (fun i m hm => by simp [get] at hm) hord.2
      refine wp_region_any hmix ?_
      have hok' : Ok C nt s a { w with drawn := w.drawn + 1 } := { hok with step := hok.step.trans (step_same hok.step.sat rfl rfl rfl rfl) }
      have hsz : ∀ j, j < ops.size → (Array.replicate ops.size false).getD j true = false := fun j hj => by simp [hj]
      have hno : ∀ j, (Array.replicate ops.size false).getD j false = false := fun j => by
        rcases Nat.lt_or_ge j ops.size with hj | hj
        · simp [hj]
        · simp [Array.getElem?_eq_none (show (Array.replicate ops.size false).size ≤ j by simpa using hj)]
      refine any_ok (Q := Post C nt k) hT hZ (fun s a w hk hok => ⟨s, hk, hok⟩) ops.size ord [] (Array.replicate ops.size false) s a _ (by simpa using hord.1) (by simp) (fun j hj => ?_) (fun j => ?_) g2 g3 (by simp) h hok'
      · rw [hsz j hj]
        simp only [iff_true]
        rcases g4 j (by simpa using hj) with h | h
        · exact h
        · simp at h
      · rw [hno j]; simp
  | .seq x y, C, s, k, a, w, h, hok => by
    simp only [exec] at h
    refine wp_seq (wp_mono (exec_ok hT hZ hmix x C s _ a w h hok) fun e a' w' hp => ?_)
    cases e with
    | normal => obtain ⟨s', hk, hok'⟩ := hp; exact exec_ok hT hZ hmix y C s' k a' w' hk hok'
    | exit i => exact hp
    | ret => exact hp
    | goto l => exact hp.elim
    | panic c => exact hp.elim
    | outgrown => exact hp.elim
  | .cond c x y, C, s, k, a, w, h, hok => by
    simp only [exec] at h
    split at h
    · rename_i b hb
      have hc : a.eval c = .bool b := hok.fits c _ hb
      cases b with
      | true => exact wp_cond hc (exec_ok hT hZ hmix x C s k a w h hok)
      | false => exact wp_cond hc (exec_ok hT hZ hmix y C s k a w h hok)
    · exact h.elim
  | .block id b, C, s, k, a, w, h, hok => by
    simp only [exec] at h
    refine wp_block (wp_mono (exec_ok hT hZ hmix b C s _ a w h hok) fun e a' w' hp => ?_)
    cases e with
    | normal => exact hp
    | exit i =>
      obtain ⟨s', hk, hok'⟩ := hp
      simp only at hk
      simp only [Exit.inBlock]
      split at hk
      · rename_i hb
        rw [if_pos (beq_iff.1 hb)]
        exact ⟨s', hk, hok'⟩
      · rename_i hb
        rw [if_neg (fun e => by rw [beq_iff.2 e] at hb; cases hb)]
        exact ⟨s', hk, hok'⟩
    | ret => exact hp
    | goto l => exact hp.elim
    | panic c => exact hp.elim
    | outgrown => exact hp.elim
  | .loop b, C, s, k, a, w, h, hok => by
    simp only [exec] at h
    obtain ⟨mods, ids, ad, Inv, n₀, vs₀, cs₀, hv, hc, hI, hround⟩ := h.ex
    have hlenV : ∀ {ts : List Nat} {env : List (Nat × SV)} {vs : List Value}, valsAt env ts = some vs → vs.length = ts.length := by
      intro ts
      induction ts with
      | nil => intro env vs h; simp only [valsAt, Option.some.injEq] at h; subst h; rfl
      | cons t ts ih =>
        intro env vs h
        simp only [valsAt] at h
        split at h
        · split at h
          · rename_i r hr
            simp only [Option.some.injEq] at h
            subst h
            simp [ih hr]
          · cases h
        · cases h
    have hlenC : ∀ {ts : List Nat} {L : List (Nat × Lb)} {vs : List (List Value)}, cellsAt L ts = some vs → vs.length = ts.length := by
      intro ts
      induction ts with
      | nil => intro env vs h; simp only [cellsAt, Option.some.injEq] at h; subst h; rfl
      | cons t ts ih =>
        intro env vs h
        simp only [cellsAt] at h
        split at h
        · split at h
          · rename_i r hr
            simp only [Option.some.injEq] at h
            subst h
            simp [ih hr]
          · cases h
        · cases h
    refine wp_loop_n (fun n a₁ w₁ => ∃ vs cs R I, s.mem.I.le I ∧ vs.length = mods.length ∧ cs.length = ids.length ∧ Inv n vs cs R I ∧
      Ok (C.at s w) nt ⟨setVs mods vs (keep (keysBut (writes b ++ mods) s.env) s.env), ⟨setCs ids cs s.mem.L, R, I⟩⟩ a₁ w₁) ?_
      ⟨vs₀, cs₀, _, _, .refl _, hlenV hv, hlenC hc, hI, (Ok.head hok hok.base (wr := writes b) hv hc rfl rfl).adopt⟩
    rintro n a' w' ⟨vs, cs, R, I, hi, h1, h2, h3, hok'⟩
    have hb := hround n vs cs R I hi h1 h2 h3
    refine wp_mono (exec_ok hT hZ hmix b (C.at s w) _ _ a' w' hb hok') fun e a'' w'' hp => ?_
    cases e with
    | normal =>
      obtain ⟨s', ⟨n', vs', cs', hlt, g1, g2, g3, g4, g5⟩, hok''⟩ := hp
      have key : ∃ R1 I1, Inv n' vs' cs' R1 I1 ∧ Ok (C.at s w) nt ⟨s'.env, ⟨s'.mem.L, R1, I1⟩⟩ a'' w'' := by
        rcases g5 with g5 | ⟨fz, g5⟩
        · exact ⟨_, _, g5, hok''⟩
        · obtain ⟨R1, I1, q1, q2⟩ := freezeR_sound (X := s'.mem.L.map lres) hok''.step.sat g5
          exact ⟨R1, I1, q1, { hok'' with step := hok''.step.trans q2 }⟩
      obtain ⟨R1, I1, q1, q2⟩ := key
      exact ⟨n', hlt, vs', cs', R1, I1, q2.step.le, hlenV g1, hlenC g2, q1, Ok.head hok q2 g1 g2 g3 g4⟩
    | exit i => obtain ⟨s', hk, hok''⟩ := hp; exact ⟨s', hk, hok.unbase hok''⟩
    | ret => obtain ⟨s', hk, hok''⟩ := hp; exact ⟨s', hk, hok.unbase hok''⟩
    | goto l => exact hp.elim
    | panic c => exact hp.elim
    | outgrown => exact hp.elim
  | .scope b, C, s, k, a, w, h, hok => by
    simp only [exec] at h
    refine wp_scope_straight (wp_mono (exec_ok hT hZ hmix b C s _ a w h hok) fun e a' w' hp => ?_)
    cases e with
    | normal => exact hp
    | exit i => exact hp
    | ret => exact hp
    | goto l => exact hp.elim
    | panic c => exact hp.elim
    | outgrown => exact hp.elim
  | .rangeFunc .., _, _, _, _, _, h, _ => h.elim
  | .goto _, _, _, _, _, _, h, _ => h.elim
  | .refuse _, _, _, _, _, _, h, _ => h.elim
end code
end Go.Proofs.YtcfglgelckjpmaaGreatDoor
