/- Own machinery, and laws of the functions that the statement reaches (part 3). -/
import Derived.Test.YtcfglgelckjpmaaGreatDoorB2
set_option linter.all false
namespace Go.Proofs.YtcfglgelckjpmaaGreatDoor
structure TI where
  d : TypeDesc
  size : Nat
  bytes : Nat
  zero : Value
def kindNo : IntKind → Nat
  | .i8 => 0 | .i16 => 1 | .i32 => 2 | .i64 => 3 | .u8 => 4 | .u16 => 5 | .u32 => 6 | .u64 => 7
def vcells : Value → List Value
  | .agg cs => cs.toList
  | v => [v]
def oneAll : List Value → Bool
  | [] => true
  | .agg _ :: _ => false
  | .tuple _ :: _ => false
  | _ :: r => oneAll r
def takeAt : List Value → Nat → Nat → (List Value → Prop) → Prop
  | _, 0, 0, k => k []
  | c :: cs, 0, n + 1, k => takeAt cs 0 n fun r => k (c :: r)
  | _ :: cs, o + 1, n, k => takeAt cs o n k
  | [], _, _, _ => False
def cellAt : List Value → Nat → (Value → Prop) → Prop
  | c :: _, 0, k => k c
  | _ :: cs, o + 1, k => cellAt cs o k
  | [], _, _ => False
def putAt : List Value → Nat → List Value → (List Value → Prop) → Prop
  | cs, 0, [], k => k cs
  | _ :: cs, 0, x :: xs, k => putAt cs 0 xs fun r => k (x :: r)
  | c :: cs, o + 1, xs, k => putAt cs o xs fun r => k (c :: r)
  | [], _, _, _ => False
def splice (cs : List Value) (off : Nat) (xs : List Value) : List Value := cs.take off ++ xs ++ cs.drop (off + xs.length)
def SlAt (I : Imm) (sz n : Nat) (cs : List Value) : Value → Prop
  | .slice (some ⟨b, off, none⟩) len cap => len = n ∧ n ≤ cap ∧ cs.length = n * sz ∧ CellsAt I b off cs
  | .slice (some ⟨_, _, some _⟩) len cap => len = n ∧ n = 0 ∧ cap = 0 ∧ cs = []
  | .slice none len cap => len = n ∧ n = 0 ∧ cap = 0 ∧ cs = []
  | _ => False
def byteV (b : UInt8) : Value := .int .u8 b.toNat
def BytesAt (I : Imm) (bs : List UInt8) (v : Value) : Prop := SlAt I 1 bs.length (bs.map byteV) v
inductive Reads (σ : Mem) (b off : Nat) (xs : List Value) : Prop where
  | imm (h : CellsAt σ.I b off xs)
  | blk (key : Nat) (cs : List Value) (hk : get σ.R key = some (.blk b cs)) (h : ∀ j x, xs[j]? = some x → cs[off + j]? = some x)
  | vec (key : Nat) (len cap sz : Nat) (cs : List Value) (hk : get σ.R key = some (.vec (.slice (some ⟨b, 0, none⟩) len cap) sz cs)) (h : ∀ j x, xs[j]? = some x → cs[off + j]? = some x)
  | loc (id : Nat) (cs : List Value) (hk : get σ.L id = some ⟨b, cs⟩) (h : ∀ j x, xs[j]? = some x → cs[off + j]? = some x)
inductive ReadB (σ : Mem) (bs : List UInt8) : Value → Prop where
  | imm {v : Value} (h : BytesAt σ.I bs v) : ReadB σ bs v
  | own {b off cap : Nat} (hc : bs.length ≤ cap) (h : Reads σ b off (bs.map byteV)) : ReadB σ bs (.slice (some ⟨b, off, none⟩) bs.length cap)
inductive Writes (σ : Mem) (b off : Nat) (xs : List Value) (k : Mem → Prop) : Prop where
  | blk (key : Nat) (cs : List Value) (hk : get σ.R key = some (.blk b cs)) (hl : off + xs.length ≤ cs.length) (h : k (σ.setR (ins key (.blk b (splice cs off xs)) σ.R)))
  | vec (key : Nat) (len cap sz : Nat) (cs : List Value) (hk : get σ.R key = some (.vec (.slice (some ⟨b, 0, none⟩) len cap) sz cs)) (hl : off + xs.length ≤ cs.length)
      (h : k (σ.setR (ins key (.vec (.slice (some ⟨b, 0, none⟩) len cap) sz (splice cs off xs)) σ.R)))
  | loc (id : Nat) (cs : List Value) (hk : get σ.L id = some ⟨b, cs⟩) (hl : off + xs.length ≤ cs.length) (h : k (σ.setL (ins id ⟨b, splice cs off xs⟩ σ.L)))
def aggT : TypeDesc → Bool
  | .struct _ => true
  | .array _ _ => true
  | _ => false
section node
variable (P : Program) (TT : Nat → Option TI) (ρ : Operand → Option SV) (σ : Mem) (k : SV → Mem → Prop)
def tov (L : List (Nat × Lb)) (sv : SV) (c : Value → Prop) : Prop :=
  match sv with
  | .v x => c x
  | .loc id off => match get L id with
    | some lb => c (.pointer (some ⟨lb.b, off, none⟩))
    | none => False
def val (x : Operand) (c : Value → Prop) : Prop :=
  match ρ x with
  | some sv => tov σ.L sv c
  | none => False
def vals : List Operand → (List Value → Prop) → Prop
  | [], c => c []
  | x :: xs, c => val ρ σ x fun v => vals xs fun vs => c (v :: vs)
def optVal (x : Option Operand) (c : Option Value → Prop) : Prop :=
  match x with
  | none => c none
  | some x => val ρ σ x fun v => c (some v)
def nMove (x : Operand) : Prop :=
  match ρ x with
  | some sv => k sv σ
  | none => False
def nPick (c a b : Operand) : Prop :=
  val ρ σ c fun c => match c with
    | .bool true => nMove ρ σ k a
    | .bool false => nMove ρ σ k b
    | _ => False
def newLoc (d : Option Nat) (cs : List Value) : Prop :=
  match d with
  | some d => match get σ.L d with
    | none => ∀ b, k (.loc d 0) (σ.setL (ins d ⟨b, cs⟩ σ.L))
    | some _ => False
  | none => False
def nAlloc (d : Option Nat) (t : TypeId) : Prop :=
  match TT t with
  | some i => newLoc σ k d (vcells i.zero)
  | none => False
def nBox (d : Option Nat) (x : Operand) : Prop := val ρ σ x fun v => newLoc σ k d (vcells v)
def places : List Field → (List (Nat × Nat) → Prop) → Prop
  | [], c => c []
  | ⟨_, ft, fo, _, _, _, _⟩ :: fs, c => match TT ft with
    | some i => places fs fun r => c ((fo, i.size) :: r)
    | none => False
def fillAt (pl : List (Nat × Nat)) : List (Nat × Value) → List Value → (List Value → Prop) → Prop
  | [], cs, c => c cs
  | (i, v) :: r, cs, c => match pl[i]? with
    | some (off, size) => match Nat.beq (vcells v).length size with
      | true => putAt cs off (vcells v) fun cs' => fillAt pl r cs' c
      | false => False
    | none => False
def partVals : List (Nat × Operand) → (List (Nat × Value) → Prop) → Prop
  | [], c => c []
  | (i, x) :: r, c => val ρ σ x fun v => partVals r fun vs => c ((i, v) :: vs)
def nBuild (t : TypeId) (parts : Array (Nat × Operand)) : Prop :=
  match TT t with
  | some i => match i.d with
    | .struct fs => partVals ρ σ parts.toList fun ps => places TT fs.toList fun pl => fillAt pl ps (vcells i.zero) fun cs => k (.v (.agg cs.toArray)) σ
    | _ => False
  | none => False
def rowOf (size : Nat) : Nat → List (Nat × Value) → (List Value → Prop) → Prop
  | _, [], c => c []
  | n, (i, v) :: r, c => match Nat.beq i n, Nat.beq (vcells v).length size with
    | true, true => rowOf size (n + 1) r fun cs => c (vcells v ++ cs)
    | _, _ => False
def nBuildSlice (d : Option Nat) (t : TypeId) (len : Nat) (parts : Array (Nat × Operand)) : Prop :=
  match TT t with
  | some i => match i.d with
    | .slice e => match TT e with
      | some ie => match Nat.ble (len * ie.size) 16777216, Nat.beq parts.toList.length len with
        | true, true => partVals ρ σ parts.toList fun ps => rowOf ie.size 0 ps fun cs =>
            (∀ b I', σ.I.le I' → CellsAt I' b 0 cs → k (.v (.slice (some ⟨b, 0, none⟩) len len)) (σ.setI (I'))) ∨
            (∃ d', d = some d' ∧ ∀ b, k (.v (.slice (some ⟨b, 0, none⟩) len len)) (σ.setR (ins d' (.vec (.slice (some ⟨b, 0, none⟩) len len) ie.size cs) σ.R)))
        | _, _ => False
      | none => False
    | _ => False
  | none => False
def nLoad (t : TypeId) (a : Operand) : Prop :=
  match TT t with
  | none => False
  | some i => match aggT i.d, ρ a with
    | true, some (.loc id off) => match get σ.L id with
      | some lb => takeAt lb.cs off i.size fun xs => k (.v (.agg xs.toArray)) σ
      | none => False
    | false, some (.loc id off) => match get σ.L id with
      | some lb => cellAt lb.cs off fun x => k (.v x) σ
      | none => False
    | true, some (.v (.pointer (some a))) => match i.size, a with
      | 0, _ => k (.v (.agg #[])) σ
      | n + 1, ⟨b, off, none⟩ => ∃ xs, Reads σ b off xs ∧ xs.length = n + 1 ∧ k (.v (.agg xs.toArray)) σ
      | _, _ => False
    | false, some (.v (.pointer (some ⟨b, off, none⟩))) => ∃ x, Reads σ b off [x] ∧ k (.v x) σ
    | _, _ => False
def nStore (t : TypeId) (a x : Operand) : Prop :=
  match TT t with
  | none => False
  | some i => val ρ σ x fun v => match Nat.beq (vcells v).length i.size, oneAll (vcells v) with
    | true, true => match ρ a with
      | some (.loc id off) => match get σ.L id with
        | some lb => putAt lb.cs off (vcells v) fun cs => k (.v undef) (σ.setL (ins id (lb.setC cs) σ.L))
        | none => False
      | some (.v (.pointer (some ⟨b, off, none⟩))) => Writes σ b off (vcells v) fun σ' => k (.v undef) σ'
      | _ => False
    | _, _ => False
def nNil (x : Operand) : Prop :=
  match ρ x with
  | some (.loc id off) => k (.loc id off) σ
  | some (.v (.pointer (some a))) => k (.v (.pointer (some a))) σ
  | _ => False
def decK {p : Prop} (d : Decidable p) (c : Bool → Prop) : Prop :=
  match d with
  | .isTrue _ => c true
  | .isFalse _ => c false
def intOp (op : BinOp) (kd : IntKind) (a b : Int) (c : Value → Prop) : Prop :=
  match op with
  | .add => ∃ m, kd.wrap (a + b) = m ∧ c (.int kd m)
  | .sub => ∃ m, kd.wrap (a - b) = m ∧ c (.int kd m)
  | .mul => ∃ m, kd.wrap (a * b) = m ∧ c (.int kd m)
  | .quo => b ≠ 0 ∧ ∃ m, kd.wrap (a.tdiv b) = m ∧ c (.int kd m)
  | .rem => b ≠ 0 ∧ ∃ m, a.tmod b = m ∧ c (.int kd m)
  | .and => ∃ m, kd.wrap (BitVec.ofInt kd.bits a &&& BitVec.ofInt kd.bits b).toNat = m ∧ c (.int kd m)
  | .or => ∃ m, kd.wrap (BitVec.ofInt kd.bits a ||| BitVec.ofInt kd.bits b).toNat = m ∧ c (.int kd m)
  | .eql => decK (Int.instDecidableEq a b) fun t => c (.bool t)
  | .neq => decK (Int.instDecidableEq a b) fun t => c (.bool (!t))
  | .lss => decK ((inferInstance : Decidable (a < b))) fun t => c (.bool t)
  | .gtr => decK ((inferInstance : Decidable (b < a))) fun t => c (.bool t)
  | .leq => decK ((inferInstance : Decidable (a ≤ b))) fun t => c (.bool t)
  | .geq => decK ((inferInstance : Decidable (b ≤ a))) fun t => c (.bool t)
  | _ => False
def nilEq (d : TypeDesc) (yc : Bool) (a b : Value) (c : Bool → Prop) : Prop :=
  match d, a, b with
  | .pointer _, .pointer (some _), .pointer none => c false
  | .pointer _, .pointer none, .pointer none => c true
  | .interface _, .iface _ _, .nilIface => c false
  | .interface _, .nilIface, .nilIface => match yc with
    | true => c true
    | false => False
  | .func _ _ _, .func _ _ _, .nilFunc => c false
  | .func _ _ _, .nilFunc, .nilFunc => c true
  | _, _, _ => False
def isConst : Operand → Bool
  | .const _ => true
  | _ => false
def nBin (op : BinOp) (t : TypeId) (x y : Operand) : Prop :=
  val ρ σ x fun a => val ρ σ y fun b => match a, b with
    | .int ka a, .int kb b => match op with
      | .shl => 0 ≤ b ∧ ∃ m, ka.wrap (a * 2 ^ (min b.toNat ka.bits)) = m ∧ k (.v (.int ka m)) σ
      | .shr => 0 ≤ b ∧ ∃ m, a.fdiv (2 ^ (min b.toNat ka.bits)) = m ∧ k (.v (.int ka m)) σ
      | op => match Nat.beq (kindNo ka) (kindNo kb) with
        | true => intOp op ka a b fun v => k (.v v) σ
        | false => False
    | .string a, .string b => match op with
      | .eql => decK (instDecidableEqList a.data.toList b.data.toList) fun t => k (.v (.bool t)) σ
      | .neq => decK (instDecidableEqList a.data.toList b.data.toList) fun t => k (.v (.bool (!t))) σ
      | .lss => ∃ r, Op.bytesLess a.data.toList b.data.toList = r ∧ k (.v (.bool r)) σ
      | _ => False
    | a, b => match TT t, op with
      | some i, .eql => nilEq i.d (isConst y) a b fun r => k (.v (.bool r)) σ
      | some i, .neq => nilEq i.d (isConst y) a b fun r => k (.v (.bool (!r))) σ
      | _, _ => False
def nUn (op : UnOp) (x : Operand) : Prop :=
  val ρ σ x fun a => match op, a with
    | .not, .bool b => k (.v (.bool (!b))) σ
    | .neg, .int kd n => ∃ m, kd.wrap (0 - n) = m ∧ k (.v (.int kd m)) σ
    | _, _ => False
def nConv (d : Option Nat) (src dst : TypeId) (x : Operand) : Prop :=
  match TT src, TT dst with
  | some i, some j => val ρ σ x fun v => match i.d, j.d, v with
    | _, .int kd, .int _ n => ∃ m, kd.wrap n = m ∧ k (.v (.int kd m)) σ
    | _, .string, .string s => k (.v (.string s)) σ
    | .slice e, .string, v => match TT e with
      | some ie => match ie.d with
        | .int .u8 => ∃ bs, ReadB σ bs v ∧ k (.v (.string ⟨bs.toArray⟩)) σ
        | _ => False
      | none => False
    | .string, .slice e, .string s => match TT e with
      | some ie => match ie.d with
        | .int .u8 => (∀ b cap I', σ.I.le I' → s.size ≤ cap → CellsAt I' b 0 (s.data.toList.map byteV) → k (.v (.slice (some ⟨b, 0, none⟩) s.size cap)) (σ.setI (I'))) ∨
            (∃ d', d = some d' ∧ ∀ a : Nat × Nat, k (.v (.slice (some ⟨a.1, 0, none⟩) s.size a.2)) (σ.setR (ins d' (.vec (.slice (some ⟨a.1, 0, none⟩) s.size a.2) 1 (s.data.toList.map byteV)) σ.R)))
        | _ => False
      | none => False
    | _, _, _ => False
  | _, _ => False
def nIface (t : TypeId) (x : Operand) : Prop :=
  match TT t with
  | some i => match i.d with
    | .interface _ => False
    | _ => val ρ σ x fun v => k (.v (.iface t v)) σ
  | none => False
def nFunc (fn : Fn) (first captured : Array Operand) : Prop :=
  vals ρ σ first.toList fun a => vals ρ σ captured.toList fun b => k (.v (.func fn a.toArray b.toArray)) σ
def numT (t : Nat) : Bool :=
  match TT t with
  | some i => match i.d with
    | .int .i64 => true
    | _ => false
  | none => false
def nMakeMap (d : Option Nat) (t : TypeId) (r : Option Operand) : Prop :=
  match TT t, d with
  | some i, some d => match i.d with
    | .map kt et => optVal ρ σ r fun r => match r with
      | some (.int _ _) => ∀ r, k (.v (.map (some r))) (σ.setR (ins d (.map r #[] 0) σ.R))
      | none => match numT TT kt, numT TT et with
        | true, true => ∀ r, k (.v (.map (some r))) (σ.setR (ins d (.lmap r []) σ.R))
        | _, _ => ∀ r, k (.v (.map (some r))) (σ.setR (ins d (.map r #[] 0) σ.R))
      | _ => False
    | _ => False
  | _, _ => False
def NewKey (kt : TypeId) (key : Value) (es : Array MapEntry) : Prop :=
  ∀ w, (Instr.checkKey false 10000 kt key).run P w = .ok () w ∧ (Instr.findKey kt key es.toList).run P w = .ok none w
def FindIs (kt : TypeId) (key : Value) (es : Array MapEntry) (r : Option (Nat × Value)) : Prop :=
  ∀ w, (Instr.checkKey es.isEmpty 10000 kt key).run P w = .ok () w ∧ (Instr.findKey kt key es.toList).run P w = .ok r w
def anyKey (a : Nat) : List (Nat × Nat) → Bool
  | [] => false
  | (b, _) :: r => bif Nat.beq b a then true else anyKey a r
def nInsert (t : TypeId) (m key x : Operand) : Prop :=
  match TT t, m with
  | some i, .tmp tm => match i.d, get σ.R tm with
    | .map kt et, some (.lmap r kvs) => match numT TT kt, numT TT et with
      | true, true => val ρ σ m fun m => val ρ σ key fun key => val ρ σ x fun x => match m, key, x with
        | .map (some r'), .int .i64 (.ofNat a), .int .i64 (.ofNat c) => match anyKey a kvs with
          | false => r' = r ∧ k (.v undef) (σ.setR (ins tm (.lmap r (ins a c kvs)) σ.R))
          | true => False
        | _, _, _ => False
      | _, _ => False
    | _, _ => False
  | _, _ => False
def nMapUpdate (t : TypeId) (m key x : Operand) : Prop :=
  match TT t with
  | some i => match i.d with
    | .map kt _ => val ρ σ m fun m => val ρ σ key fun key => val ρ σ x fun x => match m with
      | .map (some r) => ∃ rk es cl, get σ.R rk = some (.map r es cl) ∧ NewKey P kt key es ∧
          k (.v undef) (σ.setR (ins rk (.map r (es.push ⟨key, x, cl⟩) (cl + 1)) σ.R))
      | _ => False
    | _ => False
  | none => False
def lookN : List (Nat × Nat) → Int → Int
  | [], _ => 0
  | (a, b) :: r, n => if n = a then b else lookN r n
def nLookup (t : TypeId) (x ix : Operand) (ok : Bool) : Prop :=
  match TT t with
  | some i => match i.d with
    | .map kt et => match numT TT kt, numT TT et, ok with
      | true, true, false => val ρ σ x fun x => val ρ σ ix fun ix => match x, ix with
        | .map (some r), .int .i64 n => ∃ rk kvs m, get σ.R rk = some (.lmap r kvs) ∧ lookN kvs n = m ∧ k (.v (.int .i64 m)) σ
        | _, _ => False
      | _, _, _ => val ρ σ x fun x => val ρ σ ix fun ix => match x, TT et with
        | .map (some r), some ie => ∃ es cl f, σ.I.m r = some (es, cl) ∧ FindIs P kt ix es f ∧ match f with
          | some (_, v) => k (.v (bif ok then .tuple #[v, .bool true] else v)) σ
          | none => k (.v (bif ok then .tuple #[ie.zero, .bool false] else ie.zero)) σ
        | _, _ => False
    | _ => False
  | none => False
def nRange (d : Option Nat) (t : TypeId) (x : Operand) : Prop :=
  match TT t, d with
  | some i, some d => match i.d with
    | .map _ _ => val ρ σ x fun x => match x with
      | .map none => ∀ b, k (.v (.pointer (some ⟨b, 0, none⟩))) (σ.setR (ins d (.iter b none 0 #[] 0) σ.R))
      | .map (some m) => ∃ es cl, σ.I.m m = some (es, cl) ∧ ∀ b, k (.v (.pointer (some ⟨b, 0, none⟩))) (σ.setR (ins d (.iter b (some m) cl #[] cl) σ.R))
      | _ => False
    | _ => False
  | _, _ => False
def nNext (it : Operand) (isString : Bool) : Prop :=
  match isString with
  | true => False
  | false => val ρ σ it fun it => match it with
    | .pointer (some ⟨b, 0, none⟩) => ∃ rk m since seen last, get σ.R rk = some (.iter b m since seen last) ∧ match m with
      | none => k (.v (.tuple #[.bool false])) σ
      | some m => ∃ es, σ.I.m m = some (es, since) ∧ last = since ∧ (∀ e ∈ es.toList, e.born < since) ∧
          ((∀ e ∈ es.toList, e.born ∈ seen) → k (.v (.tuple #[.bool false])) σ) ∧
          ∀ e ∈ es.toList, e.born ∉ seen → k (.v (.tuple #[.bool true, e.key, e.val])) (σ.setR (ins rk (.iter b (some m) since (seen.push e.born) since) σ.R))
    | _ => False
def nEntry (it : Operand) : Prop :=
  val ρ σ it fun it => match it with
    | .pointer (some ⟨b, 0, none⟩) => ∃ rk m since seen e es, get σ.R rk = some (.iter b (some m) since seen since) ∧ σ.I.m m = some (es, since) ∧
        seen.back? = some e.born ∧ es.find? (·.born == e.born) = some e ∧ k (.v (.tuple #[e.key, e.val])) σ
    | _ => False
def sliceV (base : Option Addr) (l h cap sz : Nat) : Value := .slice (if cap = l then base else base.map (·.add (l * sz))) (h - l) (cap - l)
def natIs (x : Option Value) (dflt n : Nat) : Prop :=
  match x with
  | some (.int _ i) => i = n
  | none => n = dflt
  | _ => False
def nSlice (t : TypeId) (x : Operand) (lo hi mx : Option Operand) : Prop :=
  match TT t, mx with
  | some i, none => match i.d with
    | .slice e => match TT e with
      | some ie => val ρ σ x fun x => optVal ρ σ lo fun lo => optVal ρ σ hi fun hi => match x with
        | .slice base len cap => ∃ l h, natIs lo 0 l ∧ natIs hi len h ∧ l ≤ h ∧ h ≤ cap ∧ ∀ v, v = sliceV base l h cap ie.size → k (.v v) σ
        | _ => False
      | none => False
    | .array n e => match TT e, lo, hi with
      | some _, none, none => val ρ σ x fun x => match x with
        | .pointer (some ⟨b, off, none⟩) => k (.v (.slice (some ⟨b, off, none⟩) n n)) σ
        | _ => False
      | _, _, _ => False
    | _ => False
  | _, _ => False
def plus0 (a b : Nat) (c : Nat → Prop) : Prop :=
  match b, a with
  | 0, a => c a
  | b, 0 => c b
  | b, a => c (a + b)
def nFieldAddr (s : TypeId) (x : Operand) (f : Nat) : Prop :=
  match TT s with
  | some i => match i.d with
    | .struct fs => match fs.toList[f]? with
      | some ⟨_, ft, fo, _, _, _, _⟩ => match TT ft with
        | some fi => match Nat.beq fi.size 0, ρ x with
          | false, some (.loc id off) => plus0 off fo fun o => k (.loc id o) σ
          | false, some (.v (.pointer (some ⟨b, off, none⟩))) => plus0 off fo fun o => k (.v (.pointer (some ⟨b, o, none⟩))) σ
          | _, _ => False
        | none => False
      | none => False
    | _ => False
  | none => False
def partK (t : TypeId) (cs : List Value) (off : Nat) (c : Value → Prop) : Prop :=
  match TT t with
  | some i => match aggT i.d with
    | true => takeAt cs off i.size fun xs => c (.agg xs.toArray)
    | false => cellAt cs off c
  | none => False
def nField (t : TypeId) (x : Operand) (f : Nat) : Prop :=
  match TT t with
  | some i => match i.d with
    | .struct fs => match fs.toList[f]? with
      | some fl => val ρ σ x fun v => match v with
        | .agg cs => partK TT fl.type cs.toList fl.offset fun y => k (.v y) σ
        | _ => False
      | none => False
    | _ => False
  | none => False
def nIndexAddr (t : TypeId) (x ix : Operand) : Prop :=
  match TT t with
  | some i => match i.d with
    | .slice e => match TT e with
      | some ie => val ρ σ x fun x => val ρ σ ix fun ix => match ix with
        | .int _ n => ∃ b off len cap j, x = .slice (some ⟨b, off, none⟩) len cap ∧ n = (j : Nat) ∧ j < len ∧ k (.v (.pointer (some ⟨b, off + j * ie.size, none⟩))) σ
        | _ => False
      | none => False
    | _ => False
  | none => False
def nIndex (t : TypeId) (x ix : Operand) : Prop :=
  match TT t with
  | some i => match i.d with
    | .string => val ρ σ x fun x => val ρ σ ix fun ix => match x, ix with
      | .string s, .int _ n => ∃ (j : Nat) (b : UInt8), n = j ∧ s.data.toList[j]? = some b ∧ k (.v (byteV b)) σ
      | _, _ => False
    | _ => False
  | none => False
def Missing (asserted t : TypeId) (r : Bool) : Prop :=
  ∃ want inf, P.underlying asserted = some (.interface want) ∧ P.info? t = some inf ∧ (Instr.missingMethod want inf.methods).isNone = r
def nTypeAssert (x : Operand) (asserted : TypeId) (ok : Bool) : Prop :=
  match TT asserted with
  | some i => val ρ σ x fun x => match i.d, x, ok with
    | .interface _, .nilIface, true => k (.v (.tuple #[i.zero, .bool false])) σ
    | .interface _, .iface t v, true => ∃ r, Missing P asserted t r ∧ match r with
      | true => k (.v (.tuple #[.iface t v, .bool true])) σ
      | false => k (.v (.tuple #[i.zero, .bool false])) σ
    | .interface _, .iface t v, false => Missing P asserted t true ∧ k (.v (.iface t v)) σ
    | _, .nilIface, true => k (.v (.tuple #[i.zero, .bool false])) σ
    | _, .iface t v, true => match Nat.beq t asserted with
      | true => k (.v (.tuple #[v, .bool true])) σ
      | false => k (.v (.tuple #[i.zero, .bool false])) σ
    | _, .iface t v, false => match Nat.beq t asserted with
      | true => k (.v v) σ
      | false => False
    | _, _, _ => False
  | none => False
def nExtract (x : Operand) (ix : Nat) : Prop :=
  val ρ σ x fun x => match x with
    | .tuple vs => cellAt vs.toList ix fun v => k (.v v) σ
    | _ => False
def LenIs (d : TypeDesc) (v : Value) (n : Nat) : Prop :=
  match d, v with
  | .slice _, .slice _ m _ => m = n
  | .string, .string s => s.size = n
  | _, _ => False
def nLen (t : TypeId) (x : Operand) : Prop :=
  match TT t with
  | some i => val ρ σ x fun v => match i.d, v with
    | .map _ _, .map none => k (.v (.int .i64 0)) σ
    | .map _ _, .map (some r) => ∃ es cl, (σ.I.m r = some (es, cl) ∨ ∃ key, get σ.R key = some (.map r es cl)) ∧ k (.v (.int .i64 (es.size : Nat))) σ
    | d, v => ∃ n : Nat, LenIs d v n ∧ k (.v (.int .i64 n)) σ
  | none => False
def nCap (t : TypeId) (x : Operand) : Prop :=
  match TT t with
  | some i => val ρ σ x fun v => match i.d, v with
    | .slice _, .slice _ _ c => k (.v (.int .i64 c)) σ
    | _, _ => False
  | none => False
def Src (I : Imm) (sz n : Nat) (xs : List Value) : Value → Prop
  | .string s => n = s.size ∧ sz = 1 ∧ xs = s.data.toList.map byteV
  | v => SlAt I sz n xs v
def tight : Value → Prop
  | .slice _ n c => c = n
  | _ => False
inductive Grows (σ : Mem) (d sz bytes : Nat) (s x : Value) (k : SV → Mem → Prop) : Prop where
  /-- a slice of the call's own -/
  | own (key n m : Nat) (cs xs : List Value) (hk : get σ.R key = some (.vec s sz cs)) (hs : LenIs (.slice 0) s n) (hx : Src σ.I sz m xs x) (ho : oneAll xs = true)
      (hb : (n + m) * bytes ≤ 140737488355328)
      (h : ∀ base cap, k (.v (.slice base (n + m) cap)) (σ.setR (ins key (.vec (.slice base (n + m) cap) sz (cs ++ xs)) σ.R))) : Grows σ d sz bytes s x k
  /-- the same; what is appended lies in a row or a piece -/
  | ownR (key n m bx ox cx : Nat) (cs xs : List Value) (hk : get σ.R key = some (.vec s sz cs)) (hs : LenIs (.slice 0) s n) (hx : x = .slice (some ⟨bx, ox, none⟩) m cx) (hl : xs.length = m * sz) (hr : Reads σ bx ox xs) (ho : oneAll xs = true)
      (hb : (n + m) * bytes ≤ 140737488355328)
      (h : ∀ base cap, k (.v (.slice base (n + m) cap)) (σ.setR (ins key (.vec (.slice base (n + m) cap) sz (cs ++ xs)) σ.R))) : Grows σ d sz bytes s x k
  /-- none -/
  | nil (m : Nat) (xs : List Value) (hs : s = .slice none 0 0) (hx : Src σ.I sz m xs x) (hb : m * bytes ≤ 140737488355328)
      (h : ∀ base cap, k (.v (.slice base m cap)) (σ.setR (ins d (.vec (.slice base m cap) sz xs) σ.R))) : Grows σ d sz bytes s x k
  /-- a slice that stays, without room behind it; something is appended -/
  | new (n m : Nat) (cs xs : List Value) (hs : SlAt σ.I sz n cs s) (ht : tight s) (hm : 0 < m) (hx : Src σ.I sz m xs x) (ho : oneAll xs = true)
      (hb : (n + m) * bytes ≤ 140737488355328)
      (h : ∀ base cap, k (.v (.slice base (n + m) cap)) (σ.setR (ins d (.vec (.slice base (n + m) cap) sz (cs ++ xs)) σ.R))) : Grows σ d sz bytes s x k
def nAppend (d : Option Nat) (st : TypeId) (s x : Operand) : Prop :=
  match TT st, d with
  | some i, some d => match i.d with
    | .slice e => match TT e with
      | some ie => match Nat.beq (vcells ie.zero).length ie.size, Nat.beq ie.bytes 0 with
        | true, false => val ρ σ s fun s => val ρ σ x fun x => Grows σ d ie.size ie.bytes s x k
        | _, _ => False
      | none => False
    | _ => False
  | _, _ => False
def nCopy (st : TypeId) (s x : Operand) : Prop :=
  match TT st with
  | some i => match i.d with
    | .slice e => match TT e with
      | some ie => val ρ σ s fun s => val ρ σ x fun x => match s with
        | .slice (some ⟨b, off, none⟩) dl _ => ∃ m xs, Src σ.I ie.size m xs x ∧ oneAll xs = true ∧
            Writes σ b off (xs.take (min m dl * ie.size)) fun σ' => k (.v (.int .i64 (min m dl : Nat))) σ'
        | _ => False
      | none => False
    | _ => False
  | none => False
def nMakeSlice (d : Option Nat) (t : TypeId) (l c : Operand) : Prop :=
  match TT t, d with
  | some i, some d => match i.d with
    | .slice e => match TT e with
      | some ie => val ρ σ l fun l => val ρ σ c fun c => match l, c with
        | .int _ l, .int _ c => Nat.beq (vcells ie.zero).length ie.size = true ∧ ∃ n : Nat, l = n ∧ c = n ∧ n < 9223372036854775808 ∧ n * ie.bytes ≤ 281474976710656 ∧ ∀ b, k (.v (.slice (some ⟨b, 0, none⟩) n n))
            (σ.setR (ins d (.vec (.slice (some ⟨b, 0, none⟩) n n) ie.size (List.replicate n (vcells ie.zero)).flatten) σ.R))
        | _, _ => False
      | none => False
    | _ => False
  | _, _ => False
def pickL : List (Nat × Lb) → List Nat → (List (Nat × Lb) → List (Nat × Lb) → Prop) → Prop
  | L, [], c => c [] L
  | L, id :: ids, c => match get L id with
    | some lb => pickL (rem id L) ids fun H L' => c ((id, lb) :: H) L'
    | none => False
def pickR : List (Nat × Res) → List Nat → (List Res → List (Nat × Res) → Prop) → Prop
  | R, [], c => c [] R
  | R, key :: ks, c => match get R key with
    | some r => pickR (rem key R) ks fun Rs R' => c (r :: Rs) R'
    | none => False
def Froz (I : Imm) : Res → Prop
  | .blk b cs => CellsAt I b 0 cs
  | .vec v sz cs => ∃ n, LenIs (.slice 0) v n ∧ SlAt I sz n cs v
  | .map r es cl => I.m r = some (es, cl)
  | _ => True
def freezeR : List (Nat × Res) → List Nat → Imm → (List (Nat × Res) → Imm → Prop) → Prop
  | R, [], I, c => c R I
  | R, key :: ks, I, c => match get R key with
    | some r => ∀ I', I.le I' → Froz I' r → freezeR (rem key R) ks I' c
    | none => False
def freezeL : List (Nat × Lb) → List Nat → Imm → (List (Nat × Lb) → Imm → Prop) → Prop
  | L, [], I, c => c L I
  | L, id :: ks, I, c => match get L id with
    | some lb => ∀ I', I.le I' → CellsAt I' lb.b 0 lb.cs → freezeL (rem id L) ks I' c
    | none => False
def backL : List (Nat × Lb) → List (List Value) → List (Nat × Lb) → (List (Nat × Lb) → Prop) → Prop
  | [], [], L, c => c L
  | (id, ⟨b, _⟩) :: H, cs :: css, L, c => backL H css (ins id ⟨b, cs⟩ L) c
  | _, _, _, _ => False
def addR (d : Nat) : List Res → List (Nat × Res) → List (Nat × Res)
  | [], R => R
  | r :: Rs, R => ins d r (addR (d + 1000) Rs R)
def hOf : List (Nat × Lb) → List (Nat × List Value)
  | [] => []
  | (_, ⟨b, cs⟩) :: H => (b, cs) :: hOf H
def nCallF (d : Option Nat) (f : FuncId) (args : List Value) : Prop :=
  (∃ v, (∀ w, (callFunc f args.toArray).run P w = .ok (.value v) w) ∧ k (.v v) σ) ∨
  ∃ ids rs fz, match σ with
    | ⟨L, R, I⟩ => pickL L ids fun H L' => pickR R rs fun Rs R' => freezeR R' fz I fun R'' I' =>
      WP P f args.toArray (hOf H) Rs I' fun v cs Rn I'' => backL H cs L' fun L'' => k (.v v) { L := L'', R := addR (d.getD 0) Rn R'', I := I'' }
def nCall (d : Option Nat) (c : Call) : Prop :=
  match c.callee with
  | .value (.func f) => vals ρ σ c.args.toList fun args => nCallF P σ k d f args
  | .value x => val ρ σ x fun fv => vals ρ σ c.args.toList fun args => match fv with
    | .func (.func f) first captured => nCallF P σ k d f (first.toList ++ args ++ captured.toList)
    | _ => False
  | .invoke x name => val ρ σ x fun r => vals ρ σ c.args.toList fun args => match r with
    | .iface t v => ∃ f rcv, (∀ w, (method (P.types.size + Made.depth) t v name).run P w = .ok (f, rcv) w) ∧ nCallF P σ k d f (rcv :: args)
    | _ => False
  | .builtin b => match b, c.args.toList, c.argTypes.toList with
    | .len, [x], [t] => nLen TT ρ σ k t x
    | .cap, [x], [t] => nCap TT ρ σ k t x
    | .append, [s, x], [t, u] => match TT u with
      | some iu => match iu.d with
        | .int _ => False
        | _ => nAppend TT ρ σ k d t s x
      | none => False
    | .copy, [s, x], [t, _] => nCopy TT ρ σ k t s x
    | _, _, _ => False
def node (o : Oper) : Prop :=
  match o.op with
  | .move x => nMove ρ σ k x
  | .assign x => nMove ρ σ k x
  | .pick c a b => nPick ρ σ k c a b
  | .alloc t => nAlloc TT σ k o.dst t
  | .box _ x => nBox ρ σ k o.dst x
  | .build t ps => nBuild TT ρ σ k t ps
  | .buildSlice t len ps => nBuildSlice TT ρ σ k o.dst t len ps
  | .insert t m key x => nInsert TT ρ σ k t m key x
  | .load t a => nLoad TT ρ σ k t a
  | .store t a x => nStore TT ρ σ k t a x
  | .nilCheck x => nNil ρ σ k x
  | .binOp op t x y _ => nBin TT ρ σ k op t x y
  | .unOp op _ x => nUn ρ σ k op x
  | .convert s d x => nConv TT ρ σ k o.dst s d x
  | .makeInterface t x => nIface TT ρ σ k t x
  | .makeFunc fn a b => nFunc ρ σ k fn a b
  | .makeMap t r => nMakeMap TT ρ σ k o.dst t r
  | .makeSlice t l c => nMakeSlice TT ρ σ k o.dst t l c
  | .slice t x l h m => nSlice TT ρ σ k t x l h m
  | .fieldAddr t x f => nFieldAddr TT ρ σ k t x f
  | .field t x f => nField TT ρ σ k t x f
  | .indexAddr t x ix => nIndexAddr TT ρ σ k t x ix
  | .index t x ix => nIndex TT ρ σ k t x ix
  | .lookup t x ix ok => nLookup P TT ρ σ k t x ix ok
  | .mapUpdate t m key x => nMapUpdate P TT ρ σ k t m key x
  | .range t x => nRange TT ρ σ k o.dst t x
  | .next it s => nNext ρ σ k it s
  | .entry it => nEntry ρ σ k it
  | .typeAssert x _ t ok => nTypeAssert P TT ρ σ k x t ok
  | .extract x i => nExtract ρ σ k x i
  | .call c => nCall P TT ρ σ k o.dst c
  | _ => False
end node
end Go.Proofs.YtcfglgelckjpmaaGreatDoor
