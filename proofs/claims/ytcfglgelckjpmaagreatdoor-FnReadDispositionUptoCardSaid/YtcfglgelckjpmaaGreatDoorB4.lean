/- Own machinery, and laws of the functions that the statement reaches (part 4). -/
import Derived.Test.YtcfglgelckjpmaaGreatDoorB3
set_option linter.all false
namespace Go.Proofs.YtcfglgelckjpmaaGreatDoor
structure St where
  env : List (Nat × SV)
  mem : Mem
def opSV (env : List (Nat × SV)) : Operand → Option SV
  | .tmp t => get env t
  | .const v => some (.v v)
  | .global g => some (.v (.pointer (some ⟨g, 0, none⟩)))
  | .func f => some (.v (.func (.func f) #[] #[]))
inductive Ex where
  | normal
  | exit (id : Nat)
  | ret
def tiOf (P : Program) (t : Nat) : Option TI :=
  match P.underlying t, P.info? t with
  | some d, some i => match i.zero with
    | some z => some ⟨d, i.size, i.bytes, z⟩
    | none => none
  | _, _ => none
section exec
variable (P : Program) (TT : Nat → Option TI) (nt : Nat) (kp : List Nat)
def setD (dst : Option Nat) (sv : SV) (env : List (Nat × SV)) (k : List (Nat × SV) → Prop) : Prop :=
  match dst with
  | none => k env
  | some d => match Nat.blt d nt with
    | true => insK d sv env k
    | false => False
def normM (σ : Mem) (k : Mem → Prop) : Prop :=
  match σ with
  | ⟨L, R, I⟩ => forceL L fun L => forceS R fun R => k ⟨L, R, I⟩
def normS (s : St) (k : St → Prop) : Prop :=
  match s with
  | ⟨env, σ⟩ => forceS env fun env => normM σ fun σ => k ⟨env, σ⟩
def dstAt (all : List Oper) (j : Nat) : Option Nat :=
  match all[j]? with
  | some o => o.dst
  | none => none
def guarded (all : List Oper) (o : Oper) (env : List (Nat × SV)) (yes no : Prop) : Prop :=
  match o.guard with
  | none => yes
  | some (j, want) => match dstAt all j with
    | some d => match get env d with
      | some (.v (.bool b)) => match b, want with
        | true, true => yes
        | false, false => yes
        | _, _ => no
      | some (.v (.tuple _)) => no
      | _ => False
    | none => False
def step1 (all : List Oper) (o : Oper) (s : St) (k : St → Prop) : Prop :=
  match s with
  | ⟨env, mem⟩ => guarded all o env
    (node P TT (opSV env) mem (fun sv σ => normM σ fun σ => setD nt o.dst sv env fun e => k ⟨e, σ⟩) o)
    (setD nt o.dst (.v undef) env fun e => k ⟨e, mem⟩)
def autoZ : List Nat → St → (St → Prop) → Prop
  | [], s, k => k s
  | z :: zs, s, k => match Nat.ble 10000 z with
    | false => autoZ zs s k
    | true => match s with
      | ⟨env, ⟨L, R, I⟩⟩ => match get R (Nat.sub z 10000) with
        | none => autoZ zs ⟨env, ⟨L, R, I⟩⟩ k
        | some r => ∀ I', I.le I' → Froz I' r → autoZ zs ⟨env, ⟨L, rem (Nat.sub z 10000) R, I'⟩⟩ k
def cleanS (s : St) (k : St → Prop) : Prop :=
  match s with
  | ⟨env, σ⟩ => keepK kp env fun e => autoZ kp ⟨e, σ⟩ k
def execOps (all : List Oper) : List Oper → St → (St → Prop) → Prop
  | [], s, k => cleanS kp s k
  | o :: r, s, k => step1 P TT nt all o s fun s' => execOps all r s' k
def nLoadD (cids : List Nat) (ρ : Operand → Option SV) (σ : Mem) (k : SV → Mem → Prop) (t : TypeId) (a : Operand) : Prop :=
  match ρ a with
  | some (.loc id _) => match cids.any (Nat.beq id) with
    | true => False
    | false => nLoad TT ρ σ k t a
  | some (.v (.pointer (some ⟨b, off, none⟩))) => match TT t with
    | none => False
    | some i => match aggT i.d, i.size with
      | true, 0 => k (.v (.agg #[])) σ
      | true, n + 1 => ∃ xs, CellsAt σ.I b off xs ∧ xs.length = n + 1 ∧ k (.v (.agg xs.toArray)) σ
      | false, _ => ∃ x, CellsAt σ.I b off [x] ∧ k (.v x) σ
  | _ => False
def nLoadF (ρ : Operand → Option SV) (σ : Mem) (k : SV → Mem → Prop) (t : TypeId) (a : Operand) : Prop :=
  match ρ a with
  | some (.v (.pointer (some ⟨b, off, none⟩))) => match TT t with
    | none => False
    | some i => match aggT i.d, i.size with
      | true, 0 => False
      | true, n + 1 => ∃ xs, Reads σ b off xs ∧ xs.length = n + 1 ∧ k (.v (.agg xs.toArray)) σ
      | false, _ => ∃ x, Reads σ b off [x] ∧ k (.v x) σ
  | some (.loc id off) => match TT t with
    | none => False
    | some i => match aggT i.d, get σ.L id with
      | false, some lb => cellAt lb.cs off fun x => k (.v x) σ
      | _, _ => False
  | _ => False
def isIn (ms : List Nat) (d : Option Nat) : Bool :=
  match d with
  | some d => ms.any (Nat.beq d)
  | none => false
def isU8 (t : Nat) : Bool :=
  match TT t with
  | some i => match i.d with
    | .int .u8 => true
    | _ => false
  | none => false
def nConvB (I : Imm) (di dj : TypeDesc) (v : Value) (c : SV → Prop) : Prop :=
  match dj, v with
  | .int kd, .int _ n => ∃ m, kd.wrap n = m ∧ c (.v (.int kd m))
  | .string, .string s => c (.v (.string s))
  | .string, v => match di with
    | .slice e => match isU8 TT e with
      | true => ∃ bs, BytesAt I bs v ∧ c (.v (.string ⟨bs.toArray⟩))
      | false => False
    | _ => False
  | _, _ => False
def nConvD (ρ : Operand → Option SV) (σ : Mem) (k : SV → Mem → Prop) (s d : TypeId) (x : Operand) : Prop :=
  match TT s, TT d with
  | some i, some j => val ρ σ x fun v => nConvB TT σ.I i.d j.d v fun sv => k sv σ
  | _, _ => False
def isTo (s d : Nat) : Bool := Nat.beq s 9 && Nat.beq d 24
def nConvF (ρ : Operand → Option SV) (σ : Mem) (k : SV → Mem → Prop) (dst : Option Nat) (s d : TypeId) (x : Operand) : Prop :=
  match TT s, TT d, dst with
  | some i, some j, some d' => match i.d, j.d with
    | .string, .slice e => match isU8 TT e with
      | true => val ρ σ x fun v => match v with
        | .string s => ∀ a : Nat × Nat, k (.v (.slice (some ⟨a.1, 0, none⟩) s.size a.2)) (σ.setR (ins d' (.vec (.slice (some ⟨a.1, 0, none⟩) s.size a.2) 1 (s.data.toList.map byteV)) σ.R))
        | _ => False
      | false => False
    | _, _ => False
  | _, _, _ => False
def firstL : List (Nat × Res) → Option Nat
  | [] => none
  | (key, .lmap _ _) :: _ => some key
  | _ :: rest => firstL rest
def theMap (R : List (Nat × Res)) : Option (Nat × Nat × List (Nat × Nat)) :=
  match firstL R with
  | some key => match get R key with
    | some (.lmap r kvs) => some (key, r, kvs)
    | _ => none
  | none => none
theorem theMap_get {R : List (Nat × Res)} {key r : Nat} {kvs : List (Nat × Nat)} (h : theMap R = some (key, r, kvs)) : get R key = some (.lmap r kvs) := by
  unfold theMap at h
  split at h
  · split at h
    · rename_i e; cases h; exact e
    · cases h
  · cases h
def nLookD (ρ : Operand → Option SV) (σ : Mem) (k : SV → Mem → Prop) (t : TypeId) (x ix : Operand) (ok : Bool) : Prop :=
  match TT t with
  | some i => match i.d, theMap σ.R with
    | .map kt et, some (_, r, kvs) => match numT TT kt, numT TT et, ok with
      | true, true, false => val ρ σ x fun x => val ρ σ ix fun ix => match x, ix with
        | .map (some r'), .int .i64 n => r' = r ∧ ∃ m, lookN kvs n = m ∧ k (.v (.int .i64 m)) σ
        | _, _ => False
      | _, _, _ => False
    | _, _ => False
  | none => False
def nLenD (ρ : Operand → Option SV) (σ : Mem) (k : SV → Mem → Prop) (t : TypeId) (x : Operand) : Prop :=
  match TT t with
  | some i => match i.d with
    | .map _ _ => False
    | d => val ρ σ x fun v => ∃ n : Nat, LenIs d v n ∧ k (.v (.int .i64 n)) σ
  | none => False
def nCallD (cids crs : List Nat) (mild : Bool) (σ : Mem) (k : SV → Mem → Prop) (d : Option Nat) (f : FuncId) (args : List Value) : Prop :=
  match mild with
  | true => ∃ Qc : Value → Imm → Prop, WP P f args.toArray [] [] σ.I (fun v _ Rn I' => Rn = [] ∧ Qc v I') ∧ (∃ v I', σ.I.le I' ∧ Qc v I') ∧
      ∀ v I', σ.I.le I' → Qc v I' → k (.v v) (σ.setI (I'))
  | false => (∃ v, (∀ w, (callFunc f args.toArray).run P w = .ok (.value v) w) ∧ k (.v v) σ) ∨
      match σ with
      | ⟨L, R, I⟩ => pickL L cids fun H L' => pickR R crs fun Rs R' =>
        WP P f args.toArray (hOf H) Rs I fun v cs Rn I'' => backL H cs L' fun L'' => k (.v v) { L := L'', R := addR (d.getD 0) Rn R', I := I'' }
def nodeD (cids crs ms : List Nat) (ρ : Operand → Option SV) (σ : Mem) (k : SV → Mem → Prop) (o : Oper) : Prop :=
  match o.op with
  | .load t a => match isIn ms o.dst with
    | true => nLoadF TT ρ σ k t a
    | false => nLoadD TT cids ρ σ k t a
  | .convert s d x => match isTo s d with
    | true => nConvF TT ρ σ k o.dst s d x
    | false => nConvD TT ρ σ k s d x
  | .lookup t x ix ok => nLookD TT ρ σ k t x ix ok
  | .call c => match c.callee with
    | .value (.func f) => vals ρ σ c.args.toList fun args => nCallD P cids crs (isIn ms o.dst) σ k o.dst f args
    | .value x => val ρ σ x fun fv => vals ρ σ c.args.toList fun args => match fv with
      | .func (.func f) first captured => nCallD P cids crs (isIn ms o.dst) σ k o.dst f (first.toList ++ args ++ captured.toList)
      | _ => False
    | .builtin b => match b, c.args.toList, c.argTypes.toList with
      | .len, [x], [t] => nLenD TT ρ σ k t x
      | .append, [s, x], [t, u] => match TT u with
        | some iu => match iu.d with
          | .int _ => False
          | _ => nAppend TT ρ σ k o.dst t s x
        | none => False
      | .copy, [s, x], [t, _] => nCopy TT ρ σ k t s x
      | _, _, _ => False
    | _ => False
  | .move x => nMove ρ σ k x
  | .assign x => nMove ρ σ k x
  | .pick c a b => nPick ρ σ k c a b
  | .alloc t => nAlloc TT σ k o.dst t
  | .build t ps => nBuild TT ρ σ k t ps
  | .buildSlice t len ps => nBuildSlice TT ρ σ k o.dst t len ps
  | .insert t m key x => nInsert TT ρ σ k t m key x
  | .store t a x => nStore TT ρ σ k t a x
  | .nilCheck x => nNil ρ σ k x
  | .binOp op t x y _ => nBin TT ρ σ k op t x y
  | .unOp op _ x => nUn ρ σ k op x
  | .makeInterface t x => nIface TT ρ σ k t x
  | .makeFunc fn a b => nFunc ρ σ k fn a b
  | .makeMap t r => nMakeMap TT ρ σ k o.dst t r
  | .slice t x l h m => nSlice TT ρ σ k t x l h m
  | .fieldAddr t x f => nFieldAddr TT ρ σ k t x f
  | .field t x f => nField TT ρ σ k t x f
  | .indexAddr t x ix => nIndexAddr TT ρ σ k t x ix
  | .index t x ix => nIndex TT ρ σ k t x ix
  | _ => False
def step1D (cids crs ms : List Nat) (all : List Oper) (o : Oper) (s : St) (k : St → Prop) : Prop :=
  match s with
  | ⟨env, mem⟩ => guarded all o env
    (nodeD P TT cids crs ms (opSV env) mem (fun sv σ => normM σ fun σ => setD nt o.dst sv env fun e => k ⟨e, σ⟩) o)
    (setD nt o.dst (.v undef) env fun e => k ⟨e, mem⟩)
def execOpsD (cids crs ms : List Nat) (all : List Oper) : List Nat → St → (St → Prop) → Prop
  | [], s, k => cleanS kp s k
  | i :: r, s, k => match all[i]? with
    | some o => step1D P TT nt cids crs ms all o s fun s' => execOpsD cids crs ms all r s' k
    | none => False
inductive Cls where
  | mv | pure | load | lload | loud | store | fresh | lay | look | mild | other
def clsOf (ms : List Nat) (o : Oper) : Cls :=
  match o.op with
  | .move _ | .assign _ => .mv
  | .convert s d _ => match isTo s d with
    | true => .fresh
    | false => .pure
  | .pick .. | .build .. | .nilCheck _ | .binOp .. | .unOp .. | .makeInterface .. | .makeFunc .. | .slice .. | .fieldAddr .. | .field .. | .indexAddr .. | .index .. => .pure
  | .load .. => match isIn ms o.dst with
    | true => .lload
    | false => .load
  | .lookup .. => .look
  | .alloc _ | .makeMap .. => .fresh
  | .insert .. => .lay
  | .store .. => .store
  | .buildSlice .. => .loud
  | .call c => match c.callee with
    | .builtin .len => .pure
    | .builtin .append => .loud
    | .builtin .copy => .store
    | .value _ => match isIn ms o.dst with
      | true => .mild
      | false => .loud
    | _ => .other
  | _ => .other
def sameMap (x y : Oper) : Bool :=
  match x.op, y.op with
  | .insert _ (.tmp a) _ _, .insert _ (.tmp b) _ _ => Nat.beq a b
  | _, _ => false
def mayCross (ms : List Nat) (y x : Oper) : Bool :=
  match clsOf ms y, clsOf ms x with
  | _, .other => false
  | .mv, _ => true
  | .pure, _ => true
  | .load, .store => false
  | .load, _ => true
  | .lload, .mv => true
  | .lload, .pure => true
  | .lload, .load => true
  | .lload, .lload => true
  | .mild, .mv => true
  | .mild, .fresh => true
  | .mild, .lay => true
  | .mild, .look => true
  | .lay, .lay => sameMap y x
  | _, _ => false
def valsAt (env : List (Nat × SV)) : List Nat → Option (List Value)
  | [] => some []
  | t :: ts => match get env t with
    | some (.v x) => match valsAt env ts with
      | some r => some (x :: r)
      | none => none
    | _ => none
def cellsAt (L : List (Nat × Lb)) : List Nat → Option (List (List Value))
  | [] => some []
  | t :: ts => match get L t with
    | some lb => match cellsAt L ts with
      | some r => some (lb.cs :: r)
      | none => none
    | _ => none
def setVs : List Nat → List Value → List (Nat × SV) → List (Nat × SV)
  | t :: ts, v :: vs, e => setVs ts vs (ins t (.v v) e)
  | _, _, e => e
def setCs : List Nat → List (List Value) → List (Nat × Lb) → List (Nat × Lb)
  | id :: ids, c :: cs, L => match get L id with
    | some lb => setCs ids cs (ins id (lb.setC c) L)
    | none => setCs ids cs L
  | _, _, L => L
def nilV : Value := .slice none 0 0
def adopt : List (Nat × Nat) → List (Nat × Res) → List (Nat × Res)
  | [], R => R
  | (key, sz) :: ad, R => adopt ad (ins key (.vec nilV sz []) R)
def keysBut {α : Type} (bad : List Nat) : List (Nat × α) → List Nat
  | [] => []
  | (s, _) :: r => bif bad.any (Nat.beq s) then keysBut bad r else s :: keysBut bad r
def writes : Code → List Nat
  | .region _ ops _ => ops.toList.filterMap (·.dst)
  | .seq a b => writes a ++ writes b
  | .cond _ a b => writes a ++ writes b
  | .block _ b => writes b
  | .loop b => writes b
  | .scope b => writes b
  | _ => []
structure LoopR (wr : List Nat) (body : St → (Ex → St → Prop) → Prop) (s : St) (k : Ex → St → Prop) : Prop where
  ex : ∃ (mods ids : List Nat) (ad : List (Nat × Nat)) (Inv : Nat → List Value → List (List Value) → List (Nat × Res) → Imm → Prop)
      (n₀ : Nat) (vs₀ : List Value) (cs₀ : List (List Value)),
    valsAt s.env mods = some vs₀ ∧ cellsAt s.mem.L ids = some cs₀ ∧ Inv n₀ vs₀ cs₀ (adopt ad s.mem.R) s.mem.I ∧
    ∀ n vs cs R I, s.mem.I.le I → vs.length = mods.length → cs.length = ids.length → Inv n vs cs R I →
      body ⟨setVs mods vs (keep (keysBut (wr ++ mods) s.env) s.env), ⟨setCs ids cs s.mem.L, R, I⟩⟩ fun e s' => match e with
        | .normal => ∃ n' vs' cs', n' < n ∧ valsAt s'.env mods = some vs' ∧ cellsAt s'.mem.L ids = some cs' ∧
            keep (keysBut (wr ++ mods) s.env) s'.env = keep (keysBut (wr ++ mods) s.env) s.env ∧
            keep (keysBut ids s.mem.L) s'.mem.L = keep (keysBut ids s.mem.L) s.mem.L ∧
            (Inv n' vs' cs' s'.mem.R s'.mem.I ∨ ∃ fz, freezeR s'.mem.R fz s'.mem.I fun R' I' => Inv n' vs' cs' R' I')
        | e => k e s'
def predsOf (o : Oper) : List Nat := (o.after.toList.filter (Region.binds .any)).map (·.on)
def maskOf (done : List (Nat × Nat)) : List Nat → Option Nat
  | [] => some 0
  | j :: js => match get done j, maskOf done js with
    | some m, some r => some (m ||| 2 ^ j ||| r)
    | _, _ => none
def crossAll (ms : List Nat) (all : List Oper) (x : Oper) (m : Nat) : List (Nat × Nat) → Bool
  | [] => true
  | (i, _) :: r => (m.testBit i || match all[i]? with
      | some y => mayCross ms y x && Oper.apart all.toArray y x
      | none => false) && crossAll ms all x m r
def hasAll : Nat → List (Nat × Nat) → Bool
  | 0, _ => true
  | n + 1, done => match get done n with
    | some _ => hasAll n done
    | none => false
def okOrd (ms : List Nat) (all : List Oper) : List Nat → List (Nat × Nat) → Bool
  | [], done => hasAll all.length done
  | i :: r, done => match all[i]? with
    | some x => match get done i, maskOf done (predsOf x) with
      | none, some m => crossAll ms all x m done && okOrd ms all r (ins i m done)
      | _, _ => false
    | none => false
def okOrder (ms : List Nat) (all : List Oper) (ord : List Nat) : Bool := Nat.ble ord.length all.length && okOrd ms all ord []
def exec : Code → St → (Ex → St → Prop) → Prop
  | .skip, s, k => k .normal s
  | .region _ ops draw, s, k => match draw with
    | false => normS s fun s => execOps P TT nt kp ops.toList ops.toList s (k .normal)
    | true => ∃ ord cids crs ms, okOrder ms ops.toList ord = true ∧ normS s fun s => execOpsD P TT nt kp cids crs ms ops.toList ord s (k .normal)
  | .seq a b, s, k => exec a s fun e s' => match e with
    | .normal => exec b s' k
    | e => k e s'
  | .cond c x y, s, k => match opSV s.env c with
    | some (.v (.bool b)) => match b with
      | true => exec x s k
      | false => exec y s k
    | _ => False
  | .block id b, s, k => exec b s fun e s' => match e with
    | .exit i => match Nat.beq i id with
      | true => k .normal s'
      | false => k (.exit i) s'
    | e => k e s'
  | .loop b, s, k => LoopR (writes b) (exec b) s k
  | .exit id, s, k => k (.exit id) s
  | .ret, s, k => k .ret s
  | .label _, s, k => k .normal s
  | .scope b, s, k => exec b s k
  | _, _, _ => False
def resK (s : St) : List ResultVar → (List Value → Prop) → Prop
  | [], c => c []
  | .tmp t :: r, c => match get s.env t with
    | some sv => tov s.mem.L sv fun v => resK s r fun vs => c (v :: vs)
    | none => False
  | .cell a t :: r, c => match get s.env a with
    | some (.loc id off) => match get s.mem.L id with
      | some lb => partK TT t lb.cs off fun v => resK s r fun vs => c (v :: vs)
      | none => False
    | _ => False
def tup : List Value → Value
  | [v] => v
  | vs => .tuple vs.toArray
def csOf : List (Nat × Lb) → List (List Value)
  | [] => []
  | (_, ⟨_, cs⟩) :: H => cs :: csOf H
structure Leaf (hids : List Nat) (s : St) (v : Value) (Q : Value → List (List Value) → List Res → Imm → Prop) : Prop where
  ex : ∃ kL kR fL fR, match s with
    | ⟨_, ⟨L, R, I⟩⟩ => pickL L hids fun H L₁ => freezeL L₁ fL I fun L₂ I₁ => pickL L₂ kL fun K _ => freezeR R fR I₁ fun R₁ I₂ => pickR R₁ kR fun Rk _ =>
      Q v (csOf H) (K.map lres ++ Rk) I₂
def mkEnv (locs : List (Nat × Nat)) : Nat → List Value → List (Nat × SV)
  | _, [] => []
  | j, v :: vs => match get locs j with
    | some i => (j, .loc i 0) :: mkEnv locs (j + 1) vs
    | none => (j, .v v) :: mkEnv locs (j + 1) vs
def mkL : Nat → List (Nat × List Value) → List (Nat × Lb)
  | _, [] => []
  | i, (b, cs) :: H => (i, ⟨b, cs⟩) :: mkL (i + 1) H
def mkR : Nat → List Res → List (Nat × Res)
  | _, [] => []
  | i, r :: R => (i, r) :: mkR (i + 1) R
def idsFrom : Nat → List (Nat × List Value) → List Nat
  | _, [] => []
  | i, _ :: H => i :: idsFrom (i + 1) H
def Body (fn : Func) (locs : List (Nat × Nat)) (args : List Value) (H : List (Nat × List Value)) (R : List Res) (I : Imm) (Q : Value → List (List Value) → List Res → Imm → Prop) : Prop :=
  match fn.body with
  | some c => exec P TT fn.ntmps kp c ⟨mkEnv locs 0 args, ⟨mkL 1000 H, mkR 2000 R, I⟩⟩ fun e s => match e with
    | .exit _ => False
    | _ => resK TT s fn.results.toList fun vs => Leaf (idsFrom 1000 H) s (tup vs) Q
  | none => False
end exec
end Go.Proofs.YtcfglgelckjpmaaGreatDoor
